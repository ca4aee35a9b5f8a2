import JvmDerived
import JvmDerived.Pilot.@@N@@Statement
import JvmDerived.Pilot.@@N@@Code
set_option linter.unusedVariables false
set_option linter.unusedSimpArgs false
namespace Jvm.Pilot.@@N@@
open Jvm Jvm.ClassFile Sem Op Lib Jvm.Free Jvm.Stand Jvm.LawKit Jvm.RoadKit Bundle Jvm.Pilot.@@N@@.Jvm.D
/-! ## THE W-KIT: W k n0 Q h cs sl pc L st: whoever stands (in the body that k tells of) over the heap h with locals L and stack st at pc comes to the body's end with Q -/
abbrev KT : Type := Program × Launch × Env × Room × State × MethodId × Array Value × List Frame × Method × Code
def Good (κ : KT) (R : Room) (Z : State) (own mnm : String) (bytes : ByteArray) (ml : Nat) (ret : Option FieldType) : Prop :=
  match κ with
  | (p, _, _, R', s, m, _, _, meth, c) => p.tables.exec = Jvm.exec ∧ Z.Warmed39 s.vm ∧ c.code = bytes ∧ c.maxLocals = ml ∧ s.vm.findClass own = some m.cls ∧ meth.sig.returnType = ret ∧ meth.locks = false ∧ meth.name = mnm ∧ R' = R
def W (κ : KT) (n0 : Nat) (Q : Option Value → Heap → Prop) (h : Heap) (cs sl pc : Nat) (L : List Slot) (st : List Value) : Prop :=
  match κ with
  | (p, l, e, R, s, m, args, below, meth, c) =>
    ∀ (T : State) (locs : List Loc), Stand p l e R s m args below meth c T locs cs sl → T.heap = h → Fr n0 locs → cs ≤ R.cells → sl ≤ R.slots →
      ∃ s₂ o, Steps p.tables e below (T.setTop (mkF m pc L.toArray st)) s₂ ∧ s₂.status = .running ∧ Ended s₂ below o ∧ ∃ v L', o = .returned v ∧ (Q v s₂.heap ∧ Fr n0 L') ∧ FrameEnd s o s₂ L' R.cells R.slots
/-- a callee's contract -/
def Con (Z : State) (y : MethodName) (bytes : ByteArray) (ml : Nat) (ret : Option FieldType) (rm : Room) (as' : List Value) (h0 : Heap) (n0 : Nat) (Q : Option Value → Heap → Prop) : Prop :=
  ∀ (l : Launch) (ws : List Jvm.Cond), MetFree l y (head1 (Jvm.Cond.code y bytes ml ret :: ws) rm) (fun a U => a = as'.toArray ∧ Z.Warmed39 U.vm ∧ U.heap = h0) (fun _ _ _ _ _ => True) (fun _ U o U' => ∃ v L, o = .returned v ∧ (Q v U'.heap ∧ Fr n0 L) ∧ FrameEnd U o U' L rm.cells rm.slots)
/-- an instruction: what stands at pc, its length, the pc behind -/
def Ins1 (b : ByteArray) (pc : Nat) (i : Instr) (len nx : Nat) : Prop := decode b pc = .ok (i, len) ∧ pc + len = nx
/-- a jump: what stands at pc, the pc behind, the pc to which it leads -/
def Jmp1 (b : ByteArray) (pc : Nat) (i : Instr) (o : Int) (nx tg : Nat) : Prop := decode b pc = .ok (i, 3) ∧ pc + 3 = nx ∧ 0 ≤ (pc : Int) + o ∧ ((pc : Int) + o).toNat = tg
def cmpP : ClassFile.Cond → Int32 → Int32 → Prop
  | .eq, x, y => x.toInt = y.toInt
  | .ne, x, y => ¬ x.toInt = y.toInt
  | .lt, x, y => x.toInt < y.toInt
  | .ge, x, y => y.toInt ≤ x.toInt
  | .gt, x, y => y.toInt < x.toInt
  | .le, x, y => x.toInt ≤ y.toInt
def cmp0 : ClassFile.Cond → Int32 → Prop
  | .eq, x => x.toInt = 0
  | .ne, x => ¬ x.toInt = 0
  | .lt, x => x.toInt < 0
  | .ge, x => 0 ≤ x.toInt
  | .gt, x => 0 < x.toInt
  | .le, x => x.toInt ≤ 0
def cmpL : ClassFile.Cond → Int64 → Int64 → Prop
  | .eq, x, y => x.toInt = y.toInt
  | .ne, x, y => ¬ x.toInt = y.toInt
  | .lt, x, y => x.toInt < y.toInt
  | .ge, x, y => y.toInt ≤ x.toInt
  | .gt, x, y => y.toInt < x.toInt
  | .le, x, y => x.toInt ≤ y.toInt
theorem cmpP_iff (cd : ClassFile.Cond) (x y : Int32) : if_icmp.holds cd x y = true ↔ cmpP cd x y := by
  cases cd <;> simp [if_icmp.holds, cmpP, Int32.lt_iff_toInt_lt, Int32.le_iff_toInt_le, Int32.toInt_inj]
theorem cmpP_no {cd : ClassFile.Cond} {x y : Int32} (h : ¬ cmpP cd x y) : if_icmp.holds cd x y = false := by
  cases q : if_icmp.holds cd x y with
  | false => rfl
  | true => exact absurd ((cmpP_iff _ _ _).mp q) h
theorem cmp0_iff (cd : ClassFile.Cond) (x : Int32) : cmpP cd x 0 ↔ cmp0 cd x := by
  cases cd <;> simp [cmpP, cmp0]
theorem cmpL_iff (cd : ClassFile.Cond) (x y : Int64) : cmp0 cd (if x > y then 1 else if x = y then 0 else -1) ↔ cmpL cd x y := by
  have hc := c_lcmp x y
  show cmp0 cd (lcmpW x y) ↔ _
  cases cd <;> simp only [cmp0, cmpL] <;> omega
section WKit
variable {κ : KT} {R : Room} {Z : State} {a0 : Array Value} {own mnm : String} {bytes : ByteArray} {ml : Nat} {ret : Option FieldType} {n0 : Nat} {Q : Option Value → Heap → Prop} {h : Heap} {cs sl pc nx tg : Nat} {L : List Slot} {st rest : List Value}
theorem W.pure {pc' : Nat} {L' : List Slot} {st' : List Value} (C : Good κ R Z own mnm bytes ml ret) (k : W κ n0 Q h cs sl pc' L' st')
    (hs : ∀ {p : Program} {e : Env} {below : List Frame} {T target : State} {m : MethodId} {c : Code}, At T m c below → p.tables.exec = Jvm.exec → c.code = bytes → Steps p.tables e below (T.setTop (mkF m pc' L'.toArray st')) target → Steps p.tables e below (T.setTop (mkF m pc L.toArray st)) target) : W κ n0 Q h cs sl pc L st := by
  obtain ⟨p, l, e, R', s, m, args, below, meth, c⟩ := κ
  obtain ⟨hx, -, hby, -⟩ := C
  intro T locs X eT N h1 h2
  obtain ⟨s₂, o, a, r⟩ := k T locs X eT N h1 h2
  exact ⟨s₂, o, hs X.here hx hby a, r⟩
/-- more room taken than made -/
theorem W.more {cs' sl' : Nat} (h1 : cs ≤ cs') (h2 : sl ≤ sl') (C : Good κ R Z own mnm bytes ml ret) (g1 : cs' ≤ R.cells) (g2 : sl' ≤ R.slots) (k : W κ n0 Q h cs' sl' pc L st) : W κ n0 Q h cs sl pc L st := by
  obtain ⟨p, l, e, R', s, m, args, below, meth, c⟩ := κ
  obtain ⟨-, -, -, -, -, -, -, -, rfl⟩ := C
  intro T locs X eT N _ _
  exact k T locs (X.more h1 h2) eT N g1 g2
theorem W.post {Q' : Option Value → Heap → Prop} (hq : ∀ v h, Q v h → Q' v h) (k : W κ n0 Q h cs sl pc L st) : W κ n0 Q' h cs sl pc L st := by
  obtain ⟨p, l, e, R', s, m, args, below, meth, c⟩ := κ
  intro T locs X eT N h1 h2
  obtain ⟨s₂, o, a, b, c, v, L', d, ⟨f, f'⟩, g⟩ := k T locs X eT N h1 h2
  exact ⟨s₂, o, a, b, c, v, L', d, ⟨hq _ _ f, f'⟩, g⟩

theorem W.iadd {x y z : Int32} (C : Good κ R Z own mnm bytes ml ret) (hd : Ins1 bytes pc .iadd 1 nx) (hz : x + y = z) (k : W κ n0 Q h cs sl nx L (.int z :: rest)) : W κ n0 Q h cs sl pc L (.int y :: .int x :: rest) := by
  obtain ⟨hd, rfl⟩ := hd
  subst hz
  exact W.pure C k fun hA hx hby hr => XS.iadd hA hx rfl (hb hby hd) rfl hr
theorem W.isub {x y z : Int32} (C : Good κ R Z own mnm bytes ml ret) (hd : Ins1 bytes pc .isub 1 nx) (hz : x - y = z) (k : W κ n0 Q h cs sl nx L (.int z :: rest)) : W κ n0 Q h cs sl pc L (.int y :: .int x :: rest) := by
  obtain ⟨hd, rfl⟩ := hd
  subst hz
  exact W.pure C k fun hA hx hby hr => XS.isub hA hx rfl (hb hby hd) rfl hr
theorem W.imul {x y z : Int32} (C : Good κ R Z own mnm bytes ml ret) (hd : Ins1 bytes pc .imul 1 nx) (hz : x * y = z) (k : W κ n0 Q h cs sl nx L (.int z :: rest)) : W κ n0 Q h cs sl pc L (.int y :: .int x :: rest) := by
  obtain ⟨hd, rfl⟩ := hd
  subst hz
  exact W.pure C k fun hA hx hby hr => XS.imul hA hx rfl (hb hby hd) rfl hr
theorem W.iand {x y z : Int32} (C : Good κ R Z own mnm bytes ml ret) (hd : Ins1 bytes pc .iand 1 nx) (hz : x &&& y = z) (k : W κ n0 Q h cs sl nx L (.int z :: rest)) : W κ n0 Q h cs sl pc L (.int y :: .int x :: rest) := by
  obtain ⟨hd, rfl⟩ := hd
  subst hz
  exact W.pure C k fun hA hx hby hr => XS.iand hA hx rfl (hb hby hd) rfl hr
theorem W.ior {x y z : Int32} (C : Good κ R Z own mnm bytes ml ret) (hd : Ins1 bytes pc .ior 1 nx) (hz : x ||| y = z) (k : W κ n0 Q h cs sl nx L (.int z :: rest)) : W κ n0 Q h cs sl pc L (.int y :: .int x :: rest) := by
  obtain ⟨hd, rfl⟩ := hd
  subst hz
  exact W.pure C k fun hA hx hby hr => XS.ior hA hx rfl (hb hby hd) rfl hr
theorem W.ixor {x y z : Int32} (C : Good κ R Z own mnm bytes ml ret) (hd : Ins1 bytes pc .ixor 1 nx) (hz : x ^^^ y = z) (k : W κ n0 Q h cs sl nx L (.int z :: rest)) : W κ n0 Q h cs sl pc L (.int y :: .int x :: rest) := by
  obtain ⟨hd, rfl⟩ := hd
  subst hz
  exact W.pure C k fun hA hx hby hr => XS.ixor hA hx rfl (hb hby hd) rfl hr
theorem W.ladd {x y z : Int64} (C : Good κ R Z own mnm bytes ml ret) (hd : Ins1 bytes pc .ladd 1 nx) (hz : x + y = z) (k : W κ n0 Q h cs sl nx L (.long z :: rest)) : W κ n0 Q h cs sl pc L (.long y :: .long x :: rest) := by
  obtain ⟨hd, rfl⟩ := hd
  subst hz
  exact W.pure C k fun hA hx hby hr => XS.ladd hA hx rfl (hb hby hd) rfl hr
theorem W.lsub {x y z : Int64} (C : Good κ R Z own mnm bytes ml ret) (hd : Ins1 bytes pc .lsub 1 nx) (hz : x - y = z) (k : W κ n0 Q h cs sl nx L (.long z :: rest)) : W κ n0 Q h cs sl pc L (.long y :: .long x :: rest) := by
  obtain ⟨hd, rfl⟩ := hd
  subst hz
  exact W.pure C k fun hA hx hby hr => XS.lsub hA hx rfl (hb hby hd) rfl hr
theorem W.lmul {x y z : Int64} (C : Good κ R Z own mnm bytes ml ret) (hd : Ins1 bytes pc .lmul 1 nx) (hz : x * y = z) (k : W κ n0 Q h cs sl nx L (.long z :: rest)) : W κ n0 Q h cs sl pc L (.long y :: .long x :: rest) := by
  obtain ⟨hd, rfl⟩ := hd
  subst hz
  exact W.pure C k fun hA hx hby hr => XS.lmul hA hx rfl (hb hby hd) rfl hr
theorem W.land {x y z : Int64} (C : Good κ R Z own mnm bytes ml ret) (hd : Ins1 bytes pc .land 1 nx) (hz : x &&& y = z) (k : W κ n0 Q h cs sl nx L (.long z :: rest)) : W κ n0 Q h cs sl pc L (.long y :: .long x :: rest) := by
  obtain ⟨hd, rfl⟩ := hd
  subst hz
  exact W.pure C k fun hA hx hby hr => XS.land hA hx rfl (hb hby hd) rfl hr
theorem W.lor {x y z : Int64} (C : Good κ R Z own mnm bytes ml ret) (hd : Ins1 bytes pc .lor 1 nx) (hz : x ||| y = z) (k : W κ n0 Q h cs sl nx L (.long z :: rest)) : W κ n0 Q h cs sl pc L (.long y :: .long x :: rest) := by
  obtain ⟨hd, rfl⟩ := hd
  subst hz
  exact W.pure C k fun hA hx hby hr => XS.lor hA hx rfl (hb hby hd) rfl hr
theorem W.lxor {x y z : Int64} (C : Good κ R Z own mnm bytes ml ret) (hd : Ins1 bytes pc .lxor 1 nx) (hz : x ^^^ y = z) (k : W κ n0 Q h cs sl nx L (.long z :: rest)) : W κ n0 Q h cs sl pc L (.long y :: .long x :: rest) := by
  obtain ⟨hd, rfl⟩ := hd
  subst hz
  exact W.pure C k fun hA hx hby hr => XS.lxor hA hx rfl (hb hby hd) rfl hr
theorem W.idiv {x y z : Int32} (C : Good κ R Z own mnm bytes ml ret) (hd : Ins1 bytes pc .idiv 1 nx) (hy : y ≠ 0) (hz : x / y = z) (k : W κ n0 Q h cs sl nx L (.int z :: rest)) : W κ n0 Q h cs sl pc L (.int y :: .int x :: rest) := by
  obtain ⟨hd, rfl⟩ := hd
  subst hz
  exact W.pure C k fun hA hx hby hr => XS.idiv hA hx rfl (hb hby hd) rfl hy hr
theorem W.irem {x y z : Int32} (C : Good κ R Z own mnm bytes ml ret) (hd : Ins1 bytes pc .irem 1 nx) (hy : y ≠ 0) (hz : x % y = z) (k : W κ n0 Q h cs sl nx L (.int z :: rest)) : W κ n0 Q h cs sl pc L (.int y :: .int x :: rest) := by
  obtain ⟨hd, rfl⟩ := hd
  subst hz
  exact W.pure C k fun hA hx hby hr => XS.irem hA hx rfl (hb hby hd) rfl hy (by rw [irem_eq_mod]; exact hr)
theorem W.ldiv {x y z : Int64} (C : Good κ R Z own mnm bytes ml ret) (hd : Ins1 bytes pc .ldiv 1 nx) (hy : y ≠ 0) (hz : x / y = z) (k : W κ n0 Q h cs sl nx L (.long z :: rest)) : W κ n0 Q h cs sl pc L (.long y :: .long x :: rest) := by
  obtain ⟨hd, rfl⟩ := hd
  subst hz
  exact W.pure C k fun hA hx hby hr => XS.ldiv hA hx rfl (hb hby hd) rfl hy hr
theorem W.lrem {x y z : Int64} (C : Good κ R Z own mnm bytes ml ret) (hd : Ins1 bytes pc .lrem 1 nx) (hy : y ≠ 0) (hz : x - (x / y) * y = z) (k : W κ n0 Q h cs sl nx L (.long z :: rest)) : W κ n0 Q h cs sl pc L (.long y :: .long x :: rest) := by
  obtain ⟨hd, rfl⟩ := hd
  subst hz
  exact W.pure C k fun hA hx hby hr => XS.lrem hA hx rfl (hb hby hd) rfl hy hr
theorem W.ishl {x y z : Int32} (C : Good κ R Z own mnm bytes ml ret) (hd : Ins1 bytes pc .ishl 1 nx) (hz : x <<< (y &&& 31) = z) (k : W κ n0 Q h cs sl nx L (.int z :: rest)) : W κ n0 Q h cs sl pc L (.int y :: .int x :: rest) := by
  obtain ⟨hd, rfl⟩ := hd
  subst hz
  exact W.pure C k fun hA hx hby hr => XS.ishl hA hx rfl (hb hby hd) rfl hr
theorem W.ishr {x y z : Int32} (C : Good κ R Z own mnm bytes ml ret) (hd : Ins1 bytes pc .ishr 1 nx) (hz : x >>> (y &&& 31) = z) (k : W κ n0 Q h cs sl nx L (.int z :: rest)) : W κ n0 Q h cs sl pc L (.int y :: .int x :: rest) := by
  obtain ⟨hd, rfl⟩ := hd
  subst hz
  exact W.pure C k fun hA hx hby hr => XS.ishr hA hx rfl (hb hby hd) rfl hr
theorem W.iushr {x y z : Int32} (C : Good κ R Z own mnm bytes ml ret) (hd : Ins1 bytes pc .iushr 1 nx) (hz : (x.toUInt32 >>> (y &&& 31).toUInt32).toInt32 = z) (k : W κ n0 Q h cs sl nx L (.int z :: rest)) : W κ n0 Q h cs sl pc L (.int y :: .int x :: rest) := by
  obtain ⟨hd, rfl⟩ := hd
  subst hz
  exact W.pure C k fun hA hx hby hr => XS.iushr hA hx rfl (hb hby hd) rfl hr
theorem W.lshl {x z : Int64} {y : Int32} (C : Good κ R Z own mnm bytes ml ret) (hd : Ins1 bytes pc .lshl 1 nx) (hz : x <<< (y &&& 0x3f).toInt64 = z) (k : W κ n0 Q h cs sl nx L (.long z :: rest)) : W κ n0 Q h cs sl pc L (.int y :: .long x :: rest) := by
  obtain ⟨hd, rfl⟩ := hd
  subst hz
  exact W.pure C k fun hA hx hby hr => XS.lshl hA hx rfl (hb hby hd) rfl hr
theorem W.lshr {x z : Int64} {y : Int32} (C : Good κ R Z own mnm bytes ml ret) (hd : Ins1 bytes pc .lshr 1 nx) (hz : x >>> (y &&& 0x3f).toInt64 = z) (k : W κ n0 Q h cs sl nx L (.long z :: rest)) : W κ n0 Q h cs sl pc L (.int y :: .long x :: rest) := by
  obtain ⟨hd, rfl⟩ := hd
  subst hz
  exact W.pure C k fun hA hx hby hr => XS.lshr hA hx rfl (hb hby hd) rfl hr
theorem W.lushr {x z : Int64} {y : Int32} (C : Good κ R Z own mnm bytes ml ret) (hd : Ins1 bytes pc .lushr 1 nx) (hz : (x.toUInt64 >>> (y &&& 0x3f).toInt64.toUInt64).toInt64 = z) (k : W κ n0 Q h cs sl nx L (.long z :: rest)) : W κ n0 Q h cs sl pc L (.int y :: .long x :: rest) := by
  obtain ⟨hd, rfl⟩ := hd
  subst hz
  exact W.pure C k fun hA hx hby hr => XS.lushr hA hx rfl (hb hby hd) rfl hr
theorem W.ineg {x : Int32} {z : Int32} (C : Good κ R Z own mnm bytes ml ret) (hd : Ins1 bytes pc .ineg 1 nx) (hz : -x = z) (k : W κ n0 Q h cs sl nx L (.int z :: rest)) : W κ n0 Q h cs sl pc L (.int x :: rest) := by
  obtain ⟨hd, rfl⟩ := hd
  subst hz
  exact W.pure C k fun hA hx hby hr => XS.ineg hA hx rfl (hb hby hd) rfl hr
theorem W.lneg {x : Int64} {z : Int64} (C : Good κ R Z own mnm bytes ml ret) (hd : Ins1 bytes pc .lneg 1 nx) (hz : -x = z) (k : W κ n0 Q h cs sl nx L (.long z :: rest)) : W κ n0 Q h cs sl pc L (.long x :: rest) := by
  obtain ⟨hd, rfl⟩ := hd
  subst hz
  exact W.pure C k fun hA hx hby hr => XS.lneg hA hx rfl (hb hby hd) rfl hr
theorem W.i2l {x : Int32} {z : Int64} (C : Good κ R Z own mnm bytes ml ret) (hd : Ins1 bytes pc .i2l 1 nx) (hz : x.toInt64 = z) (k : W κ n0 Q h cs sl nx L (.long z :: rest)) : W κ n0 Q h cs sl pc L (.int x :: rest) := by
  obtain ⟨hd, rfl⟩ := hd
  subst hz
  exact W.pure C k fun hA hx hby hr => XS.i2l hA hx rfl (hb hby hd) rfl hr
theorem W.l2i {x : Int64} {z : Int32} (C : Good κ R Z own mnm bytes ml ret) (hd : Ins1 bytes pc .l2i 1 nx) (hz : x.toInt32 = z) (k : W κ n0 Q h cs sl nx L (.int z :: rest)) : W κ n0 Q h cs sl pc L (.long x :: rest) := by
  obtain ⟨hd, rfl⟩ := hd
  subst hz
  exact W.pure C k fun hA hx hby hr => XS.l2i hA hx rfl (hb hby hd) rfl hr
theorem W.i2b {x : Int32} {z : Int32} (C : Good κ R Z own mnm bytes ml ret) (hd : Ins1 bytes pc .i2b 1 nx) (hz : x.toInt8.toInt32 = z) (k : W κ n0 Q h cs sl nx L (.int z :: rest)) : W κ n0 Q h cs sl pc L (.int x :: rest) := by
  obtain ⟨hd, rfl⟩ := hd
  subst hz
  exact W.pure C k fun hA hx hby hr => XS.i2b hA hx rfl (hb hby hd) rfl hr
theorem W.i2s {x : Int32} {z : Int32} (C : Good κ R Z own mnm bytes ml ret) (hd : Ins1 bytes pc .i2s 1 nx) (hz : x.toInt16.toInt32 = z) (k : W κ n0 Q h cs sl nx L (.int z :: rest)) : W κ n0 Q h cs sl pc L (.int x :: rest) := by
  obtain ⟨hd, rfl⟩ := hd
  subst hz
  exact W.pure C k fun hA hx hby hr => XS.i2s hA hx rfl (hb hby hd) rfl hr
theorem W.i2c {x : Int32} {z : Int32} (C : Good κ R Z own mnm bytes ml ret) (hd : Ins1 bytes pc .i2c 1 nx) (hz : x.toUInt32.toUInt16.toUInt32.toInt32 = z) (k : W κ n0 Q h cs sl nx L (.int z :: rest)) : W κ n0 Q h cs sl pc L (.int x :: rest) := by
  obtain ⟨hd, rfl⟩ := hd
  subst hz
  exact W.pure C k fun hA hx hby hr => XS.i2c hA hx rfl (hb hby hd) rfl hr
theorem W.iconst {i : Int} {z : Int32} (C : Good κ R Z own mnm bytes ml ret) (hd : Ins1 bytes pc (.iconst i) 1 nx) (hz : Int32.ofInt i = z) (k : W κ n0 Q h cs sl nx L (.int z :: st)) : W κ n0 Q h cs sl pc L st := by
  obtain ⟨hd, rfl⟩ := hd
  subst hz
  exact W.pure C k fun hA hx hby hr => XS.iconst hA hx rfl (hb hby hd) hr
theorem W.bipush {i : Int} {z : Int32} (C : Good κ R Z own mnm bytes ml ret) (hd : Ins1 bytes pc (.bipush i) 2 nx) (hz : (Int8.ofInt i).toInt32 = z) (k : W κ n0 Q h cs sl nx L (.int z :: st)) : W κ n0 Q h cs sl pc L st := by
  obtain ⟨hd, rfl⟩ := hd
  subst hz
  exact W.pure C k fun hA hx hby hr => XS.bipush hA hx rfl (hb hby hd) hr
theorem W.sipush {i : Int} {z : Int32} (C : Good κ R Z own mnm bytes ml ret) (hd : Ins1 bytes pc (.sipush i) 3 nx) (hz : (Int16.ofInt i).toInt32 = z) (k : W κ n0 Q h cs sl nx L (.int z :: st)) : W κ n0 Q h cs sl pc L st := by
  obtain ⟨hd, rfl⟩ := hd
  subst hz
  exact W.pure C k fun hA hx hby hr => XS.sipush hA hx rfl (hb hby hd) hr
theorem W.lconst {i : Fin 2} {z : Int64} (C : Good κ R Z own mnm bytes ml ret) (hd : Ins1 bytes pc (.lconst i) 1 nx) (hz : Int64.ofNat i = z) (k : W κ n0 Q h cs sl nx L (.long z :: st)) : W κ n0 Q h cs sl pc L st := by
  obtain ⟨hd, rfl⟩ := hd
  subst hz
  exact W.pure C k fun hA hx hby hr => XS.lconst hA hx rfl (hb hby hd) hr
theorem W.aconst_null (C : Good κ R Z own mnm bytes ml ret) (hd : Ins1 bytes pc .aconst_null 1 nx) (k : W κ n0 Q h cs sl nx L (.null :: st)) : W κ n0 Q h cs sl pc L st := by
  obtain ⟨hd, rfl⟩ := hd
  exact W.pure C k fun hA hx hby hr => XS.aconstNull hA hx rfl (hb hby hd) hr
theorem W.iload {i : Nat} {v : Int32} (C : Good κ R Z own mnm bytes ml ret) (hd : Ins1 bytes pc (.iload i) 2 nx) (hl : L[i]? = some (.val (.int v))) (k : W κ n0 Q h cs sl nx L ((.int v) :: st)) : W κ n0 Q h cs sl pc L st := by
  obtain ⟨hd, rfl⟩ := hd
  exact W.pure C k fun hA hx hby hr => XS.iload hA hx rfl (hb hby hd) (by simpa using hl) hr
theorem W.iloadN {i : Fin 4} {v : Int32} (C : Good κ R Z own mnm bytes ml ret) (hd : Ins1 bytes pc (.iload_n i) 1 nx) (hl : L[i.val]? = some (.val (.int v))) (k : W κ n0 Q h cs sl nx L ((.int v) :: st)) : W κ n0 Q h cs sl pc L st := by
  obtain ⟨hd, rfl⟩ := hd
  exact W.pure C k fun hA hx hby hr => XS.iloadN hA hx rfl (hb hby hd) (by simpa using hl) hr
theorem W.lload {i : Nat} {v : Int64} (C : Good κ R Z own mnm bytes ml ret) (hd : Ins1 bytes pc (.lload i) 2 nx) (hl : L[i]? = some (.val (.long v))) (k : W κ n0 Q h cs sl nx L ((.long v) :: st)) : W κ n0 Q h cs sl pc L st := by
  obtain ⟨hd, rfl⟩ := hd
  exact W.pure C k fun hA hx hby hr => XS.lload hA hx rfl (hb hby hd) (by simpa using hl) hr
theorem W.lloadN {i : Fin 4} {v : Int64} (C : Good κ R Z own mnm bytes ml ret) (hd : Ins1 bytes pc (.lload_n i) 1 nx) (hl : L[i.val]? = some (.val (.long v))) (k : W κ n0 Q h cs sl nx L ((.long v) :: st)) : W κ n0 Q h cs sl pc L st := by
  obtain ⟨hd, rfl⟩ := hd
  exact W.pure C k fun hA hx hby hr => XS.lloadN hA hx rfl (hb hby hd) (by simpa using hl) hr
theorem W.aload {i : Nat} {v : Value} (C : Good κ R Z own mnm bytes ml ret) (hd : Ins1 bytes pc (.aload i) 2 nx) (hl : L[i]? = some (.val (v))) (hv : v.isRef = true) (k : W κ n0 Q h cs sl nx L ((v) :: st)) : W κ n0 Q h cs sl pc L st := by
  obtain ⟨hd, rfl⟩ := hd
  exact W.pure C k fun hA hx hby hr => XS.aload hA hx rfl (hb hby hd) (by simpa using hl) hv hr
theorem W.aloadN {i : Fin 4} {v : Value} (C : Good κ R Z own mnm bytes ml ret) (hd : Ins1 bytes pc (.aload_n i) 1 nx) (hl : L[i.val]? = some (.val (v))) (hv : v.isRef = true) (k : W κ n0 Q h cs sl nx L ((v) :: st)) : W κ n0 Q h cs sl pc L st := by
  obtain ⟨hd, rfl⟩ := hd
  exact W.pure C k fun hA hx hby hr => XS.aloadN hA hx rfl (hb hby hd) (by simpa using hl) hv hr
theorem W.istore {i : Nat} {L' : List Slot} {v : Int32} (C : Good κ R Z own mnm bytes ml ret) (hd : Ins1 bytes pc (.istore i) 2 nx) (hl : storeLocals L.toArray i (.int v) = some L'.toArray) (k : W κ n0 Q h cs sl nx L' rest) : W κ n0 Q h cs sl pc L ((.int v) :: rest) := by
  obtain ⟨hd, rfl⟩ := hd
  exact W.pure C k fun hA hx hby hr => XS.istore hA hx rfl (hb hby hd) rfl hl hr
theorem W.istoreN {i : Fin 4} {L' : List Slot} {v : Int32} (C : Good κ R Z own mnm bytes ml ret) (hd : Ins1 bytes pc (.istore_n i) 1 nx) (hl : storeLocals L.toArray i.val (.int v) = some L'.toArray) (k : W κ n0 Q h cs sl nx L' rest) : W κ n0 Q h cs sl pc L ((.int v) :: rest) := by
  obtain ⟨hd, rfl⟩ := hd
  exact W.pure C k fun hA hx hby hr => XS.istoreN hA hx rfl (hb hby hd) rfl hl hr
theorem W.lstore {i : Nat} {L' : List Slot} {v : Int64} (C : Good κ R Z own mnm bytes ml ret) (hd : Ins1 bytes pc (.lstore i) 2 nx) (hl : storeLocals L.toArray i (.long v) = some L'.toArray) (k : W κ n0 Q h cs sl nx L' rest) : W κ n0 Q h cs sl pc L ((.long v) :: rest) := by
  obtain ⟨hd, rfl⟩ := hd
  exact W.pure C k fun hA hx hby hr => XS.lstore hA hx rfl (hb hby hd) rfl hl hr
theorem W.lstoreN {i : Fin 4} {L' : List Slot} {v : Int64} (C : Good κ R Z own mnm bytes ml ret) (hd : Ins1 bytes pc (.lstore_n i) 1 nx) (hl : storeLocals L.toArray i.val (.long v) = some L'.toArray) (k : W κ n0 Q h cs sl nx L' rest) : W κ n0 Q h cs sl pc L ((.long v) :: rest) := by
  obtain ⟨hd, rfl⟩ := hd
  exact W.pure C k fun hA hx hby hr => XS.lstoreN hA hx rfl (hb hby hd) rfl hl hr
theorem W.astore {i : Nat} {L' : List Slot} {v : Value} (C : Good κ R Z own mnm bytes ml ret) (hd : Ins1 bytes pc (.astore i) 2 nx) (hl : storeLocals L.toArray i (v) = some L'.toArray) (hv : v.isRef = true) (k : W κ n0 Q h cs sl nx L' rest) : W κ n0 Q h cs sl pc L ((v) :: rest) := by
  obtain ⟨hd, rfl⟩ := hd
  exact W.pure C k fun hA hx hby hr => XS.astore hA hx rfl (hb hby hd) rfl hv hl hr
theorem W.astoreN {i : Fin 4} {L' : List Slot} {v : Value} (C : Good κ R Z own mnm bytes ml ret) (hd : Ins1 bytes pc (.astore_n i) 1 nx) (hl : storeLocals L.toArray i.val (v) = some L'.toArray) (hv : v.isRef = true) (k : W κ n0 Q h cs sl nx L' rest) : W κ n0 Q h cs sl pc L ((v) :: rest) := by
  obtain ⟨hd, rfl⟩ := hd
  exact W.pure C k fun hA hx hby hr => XS.astoreN hA hx rfl (hb hby hd) rfl hv hl hr
theorem W.iinc {i : Nat} {d : Int} {v z : Int32} {L' : List Slot} (C : Good κ R Z own mnm bytes ml ret) (hd : Ins1 bytes pc (.iinc i d) 3 nx) (hl : L[i]? = some (.val (.int v))) (hz : v + Int32.ofInt d = z) (hl' : storeLocals L.toArray i (.int z) = some L'.toArray) (k : W κ n0 Q h cs sl nx L' st) : W κ n0 Q h cs sl pc L st := by
  obtain ⟨hd, rfl⟩ := hd
  subst hz
  exact W.pure C k fun hA hx hby hr => XS.iinc hA hx rfl (hb hby hd) (by simpa using hl) hl' hr
theorem W.dup {x : Value} (C : Good κ R Z own mnm bytes ml ret) (hd : Ins1 bytes pc .dup 1 nx) (hc : x.category = 1) (k : W κ n0 Q h cs sl nx L (x :: x :: rest)) : W κ n0 Q h cs sl pc L (x :: rest) := by
  obtain ⟨hd, rfl⟩ := hd
  exact W.pure C k fun hA hx hby hr => XS.dup hA hx rfl (hb hby hd) rfl hc hr
theorem W.pop {x : Value} (C : Good κ R Z own mnm bytes ml ret) (hd : Ins1 bytes pc .pop 1 nx) (hc : x.category = 1) (k : W κ n0 Q h cs sl nx L rest) : W κ n0 Q h cs sl pc L (x :: rest) := by
  obtain ⟨hd, rfl⟩ := hd
  exact W.pure C k fun hA hx hby hr => XS.pop hA hx rfl (hb hby hd) rfl hc hr
theorem W.dup_x1 {x y : Value} (C : Good κ R Z own mnm bytes ml ret) (hd : Ins1 bytes pc .dup_x1 1 nx) (hc : x.category = 1) (hc' : y.category = 1) (k : W κ n0 Q h cs sl nx L (x :: y :: x :: rest)) : W κ n0 Q h cs sl pc L (x :: y :: rest) := by
  obtain ⟨hd, rfl⟩ := hd
  exact W.pure C k fun hA hx hby hr => XS.dupX1 hA hx rfl (hb hby hd) rfl hc hc' hr
theorem W.dup2 {x y : Value} (C : Good κ R Z own mnm bytes ml ret) (hd : Ins1 bytes pc .dup2 1 nx) (hc : x.category = 1) (hc' : y.category = 1) (k : W κ n0 Q h cs sl nx L (x :: y :: x :: y :: rest)) : W κ n0 Q h cs sl pc L (x :: y :: rest) := by
  obtain ⟨hd, rfl⟩ := hd
  exact W.pure C k fun hA hx hby hr => XT.dup2 hA hx rfl (hb hby hd) rfl hc hc' hr
theorem W.dup2L {x : Int64} (C : Good κ R Z own mnm bytes ml ret) (hd : Ins1 bytes pc .dup2 1 nx) (k : W κ n0 Q h cs sl nx L (.long x :: .long x :: rest)) : W κ n0 Q h cs sl pc L (.long x :: rest) := by
  obtain ⟨hd, rfl⟩ := hd
  exact W.pure C k fun hA hx hby hr => XT.dup2L hA hx rfl (hb hby hd) rfl hr
theorem W.dup_x2 {x y z : Value} (C : Good κ R Z own mnm bytes ml ret) (hd : Ins1 bytes pc .dup_x2 1 nx) (hc : x.category = 1) (hc' : y.category = 1) (hc2 : z.category = 1) (k : W κ n0 Q h cs sl nx L (x :: y :: z :: x :: rest)) : W κ n0 Q h cs sl pc L (x :: y :: z :: rest) := by
  obtain ⟨hd, rfl⟩ := hd
  refine W.pure C k fun {p e below T target m c} hA hx hby hr => ?_
  have hd' := hb hby hd
  jvm_step hA [hA.top, hx, hd', hc, hc', hc2]
  exact hr
theorem W.goto {o : Int} (C : Good κ R Z own mnm bytes ml ret) (hd : Jmp1 bytes pc (.goto o) o nx tg) (k : W κ n0 Q h cs sl tg L st) : W κ n0 Q h cs sl pc L st := by
  obtain ⟨hd, rfl, h1, h2⟩ := hd
  exact W.pure C k fun hA hx hby hr => XS.goto hA hx rfl rfl (hb hby hd) h1 h2 hr
theorem W.icmpY {o : Int} {cd : ClassFile.Cond} {x y : Int32} (C : Good κ R Z own mnm bytes ml ret) (hd : Jmp1 bytes pc (.if_icmp cd o) o nx tg) (hc : cmpP cd x y) (k : W κ n0 Q h cs sl tg L rest) : W κ n0 Q h cs sl pc L (.int y :: .int x :: rest) := by
  obtain ⟨hd, rfl, h1, h2⟩ := hd
  exact W.pure C k fun hA hx hby hr => XS.icmpYes hA hx rfl rfl (hb hby hd) rfl ((cmpP_iff _ _ _).mpr hc) h1 h2 hr
theorem W.icmpN {o : Int} {cd : ClassFile.Cond} {x y : Int32} (C : Good κ R Z own mnm bytes ml ret) (hd : Jmp1 bytes pc (.if_icmp cd o) o nx tg) (hc : ¬ cmpP cd x y) (k : W κ n0 Q h cs sl nx L rest) : W κ n0 Q h cs sl pc L (.int y :: .int x :: rest) := by
  obtain ⟨hd, rfl, h1, h2⟩ := hd
  exact W.pure C k fun hA hx hby hr => XS.icmpNo hA hx rfl (hb hby hd) rfl (cmpP_no hc) hr
theorem W.icmp {o : Int} {cd : ClassFile.Cond} {x y : Int32} (C : Good κ R Z own mnm bytes ml ret) (hd : Jmp1 bytes pc (.if_icmp cd o) o nx tg) (ky : cmpP cd x y → W κ n0 Q h cs sl tg L rest) (kn : ¬ cmpP cd x y → W κ n0 Q h cs sl nx L rest) : W κ n0 Q h cs sl pc L (.int y :: .int x :: rest) := by
  by_cases hc : cmpP cd x y
  · exact W.icmpY C hd hc (ky hc)
  · exact W.icmpN C hd hc (kn hc)
theorem W.ifY {o : Int} {cd : ClassFile.Cond} {x : Int32} (C : Good κ R Z own mnm bytes ml ret) (hd : Jmp1 bytes pc (.ifCond cd o) o nx tg) (hc : cmp0 cd x) (k : W κ n0 Q h cs sl tg L rest) : W κ n0 Q h cs sl pc L (.int x :: rest) := by
  obtain ⟨hd, rfl, h1, h2⟩ := hd
  exact W.pure C k fun hA hx hby hr => XS.ifYes hA hx rfl rfl (hb hby hd) rfl ((if0 _ _).trans ((cmpP_iff _ _ _).mpr ((cmp0_iff _ _).mpr hc))) h1 h2 hr
theorem W.ifN {o : Int} {cd : ClassFile.Cond} {x : Int32} (C : Good κ R Z own mnm bytes ml ret) (hd : Jmp1 bytes pc (.ifCond cd o) o nx tg) (hc : ¬ cmp0 cd x) (k : W κ n0 Q h cs sl nx L rest) : W κ n0 Q h cs sl pc L (.int x :: rest) := by
  obtain ⟨hd, rfl, h1, h2⟩ := hd
  exact W.pure C k fun hA hx hby hr => XS.ifNo hA hx rfl (hb hby hd) rfl ((if0 _ _).trans (cmpP_no fun q => hc ((cmp0_iff _ _).mp q))) hr
theorem W.ifc {o : Int} {cd : ClassFile.Cond} {x : Int32} (C : Good κ R Z own mnm bytes ml ret) (hd : Jmp1 bytes pc (.ifCond cd o) o nx tg) (ky : cmp0 cd x → W κ n0 Q h cs sl tg L rest) (kn : ¬ cmp0 cd x → W κ n0 Q h cs sl nx L rest) : W κ n0 Q h cs sl pc L (.int x :: rest) := by
  by_cases hc : cmp0 cd x
  · exact W.ifY C hd hc (ky hc)
  · exact W.ifN C hd hc (kn hc)
theorem W.lcmp {x y : Int64} (C : Good κ R Z own mnm bytes ml ret) (hd : Ins1 bytes pc .lcmp 1 nx) (k : W κ n0 Q h cs sl nx L (.int (if x > y then 1 else if x = y then 0 else -1) :: rest)) : W κ n0 Q h cs sl pc L (.long y :: .long x :: rest) := by
  obtain ⟨hd, rfl⟩ := hd
  exact W.pure C k fun hA hx hby hr => XS.lcmp hA hx rfl (hb hby hd) rfl hr
theorem W.lcY {pc1 : Nat} {o : Int} {cd : ClassFile.Cond} {x y : Int64} (C : Good κ R Z own mnm bytes ml ret) (hd1 : Ins1 bytes pc .lcmp 1 pc1) (hd : Jmp1 bytes pc1 (.ifCond cd o) o nx tg) (hc : cmpL cd x y) (k : W κ n0 Q h cs sl tg L rest) : W κ n0 Q h cs sl pc L (.long y :: .long x :: rest) :=
  W.lcmp C hd1 (W.ifY C hd ((cmpL_iff _ _ _).mpr hc) k)
theorem W.lcN {pc1 : Nat} {o : Int} {cd : ClassFile.Cond} {x y : Int64} (C : Good κ R Z own mnm bytes ml ret) (hd1 : Ins1 bytes pc .lcmp 1 pc1) (hd : Jmp1 bytes pc1 (.ifCond cd o) o nx tg) (hc : ¬ cmpL cd x y) (k : W κ n0 Q h cs sl nx L rest) : W κ n0 Q h cs sl pc L (.long y :: .long x :: rest) :=
  W.lcmp C hd1 (W.ifN C hd (fun q => hc ((cmpL_iff _ _ _).mp q)) k)
theorem W.lc {pc1 : Nat} {o : Int} {cd : ClassFile.Cond} {x y : Int64} (C : Good κ R Z own mnm bytes ml ret) (hd1 : Ins1 bytes pc .lcmp 1 pc1) (hd : Jmp1 bytes pc1 (.ifCond cd o) o nx tg) (ky : cmpL cd x y → W κ n0 Q h cs sl tg L rest) (kn : ¬ cmpL cd x y → W κ n0 Q h cs sl nx L rest) : W κ n0 Q h cs sl pc L (.long y :: .long x :: rest) := by
  by_cases hc : cmpL cd x y
  · exact W.lcY C hd1 hd hc (ky hc)
  · exact W.lcN C hd1 hd hc (kn hc)
theorem W.ifnullY {o : Int} (C : Good κ R Z own mnm bytes ml ret) (hd : Jmp1 bytes pc (.ifnull o) o nx tg) (k : W κ n0 Q h cs sl tg L rest) : W κ n0 Q h cs sl pc L (.null :: rest) := by
  obtain ⟨hd, rfl, h1, h2⟩ := hd
  exact W.pure C k fun hA hx hby hr => XS.ifnullYes hA hx rfl rfl (hb hby hd) rfl h1 h2 hr
theorem W.ifnullN {o : Int} {b : Addr} (C : Good κ R Z own mnm bytes ml ret) (hd : Jmp1 bytes pc (.ifnull o) o nx tg) (k : W κ n0 Q h cs sl nx L rest) : W κ n0 Q h cs sl pc L (.ref b :: rest) := by
  obtain ⟨hd, rfl, h1, h2⟩ := hd
  exact W.pure C k fun hA hx hby hr => XS.ifnullNo hA hx rfl (hb hby hd) rfl hr
theorem W.ifnonnullY {o : Int} {b : Addr} (C : Good κ R Z own mnm bytes ml ret) (hd : Jmp1 bytes pc (.ifnonnull o) o nx tg) (k : W κ n0 Q h cs sl tg L rest) : W κ n0 Q h cs sl pc L (.ref b :: rest) := by
  obtain ⟨hd, rfl, h1, h2⟩ := hd
  exact W.pure C k fun hA hx hby hr => XS.ifnonnullYes hA hx rfl rfl (hb hby hd) rfl h1 h2 hr
theorem W.ifnonnullN {o : Int} (C : Good κ R Z own mnm bytes ml ret) (hd : Jmp1 bytes pc (.ifnonnull o) o nx tg) (k : W κ n0 Q h cs sl nx L rest) : W κ n0 Q h cs sl pc L (.null :: rest) := by
  obtain ⟨hd, rfl, h1, h2⟩ := hd
  exact W.pure C k fun hA hx hby hr => XS.ifnonnullNo hA hx rfl (hb hby hd) rfl hr
/-! ### steps that read the tables -/
theorem W.ldc {i : Nat} {v : Int32} (C : Good κ R Z own mnm bytes ml ret) (hd : Ins1 bytes pc (.ldc i) 2 nx) (w : (Jvm.Cond.constant own i v).before a0 Z = true) (k : W κ n0 Q h cs sl nx L (.int v :: st)) : W κ n0 Q h cs sl pc L st := by
  obtain ⟨hd, rfl⟩ := hd
  obtain ⟨p, l, e, R', s, m, args, below, meth, c⟩ := κ
  obtain ⟨hx, hZ, hby, hml, hown, hret, hlk, hnm, rfl⟩ := C
  intro T locs X eT N h1 h2
  obtain ⟨s₂, o, a, r⟩ := k T locs X eT N h1 h2
  exact ⟨s₂, o, X.ldcInt hx hown (mvT hZ w) (g := mkF m pc L.toArray st) rfl (hb hby hd) _ a, r⟩
theorem W.ldcw {i : Nat} {v : Int32} (C : Good κ R Z own mnm bytes ml ret) (hd : Ins1 bytes pc (.ldc_w i) 3 nx) (w : (Jvm.Cond.constant own i v).before a0 Z = true) (k : W κ n0 Q h cs sl nx L (.int v :: st)) : W κ n0 Q h cs sl pc L st := by
  obtain ⟨hd, rfl⟩ := hd
  obtain ⟨p, l, e, R', s, m, args, below, meth, c⟩ := κ
  obtain ⟨hx, hZ, hby, hml, hown, hret, hlk, hnm, rfl⟩ := C
  intro T locs X eT N h1 h2
  obtain ⟨s₂, o, a, r⟩ := k T locs X eT N h1 h2
  exact ⟨s₂, o, X.ldcwInt hx hown (mvT hZ w) (g := mkF m pc L.toArray st) rfl (hb hby hd) _ a, r⟩
theorem W.ldc2 {i : Nat} {v : Int64} (C : Good κ R Z own mnm bytes ml ret) (hd : Ins1 bytes pc (.ldc2_w i) 3 nx) (w : (Jvm.Cond.constantLong own i v).before a0 Z = true) (k : W κ n0 Q h cs sl nx L (.long v :: st)) : W κ n0 Q h cs sl pc L st := by
  obtain ⟨hd, rfl⟩ := hd
  obtain ⟨p, l, e, R', s, m, args, below, meth, c⟩ := κ
  obtain ⟨hx, hZ, hby, hml, hown, hret, hlk, hnm, rfl⟩ := C
  intro T locs X eT N h1 h2
  obtain ⟨s₂, o, a, r⟩ := k T locs X eT N h1 h2
  exact ⟨s₂, o, X.ldc2Long hx hown (mvT hZ w) (g := mkF m pc L.toArray st) rfl (hb hby hd) _ a, r⟩
/-! ### arrays -/
/-- at a lies an array of ty whose values are vs -/
def Av (Z : State) (h : Heap) (a : Addr) (ty : FieldType) (vs : List Value) : Prop := ∃ c : Cell, Arr Z h a c ty ∧ c.slots.toList = vs ∧ vs.length < 2147483648
theorem Av.lt {a : Addr} {ty : FieldType} {vs : List Value} (A : Av Z h a ty vs) : a < h.size := by obtain ⟨c, A, -⟩ := A; exact A.lt
theorem Av.ext {h' : Heap} {a : Addr} {ty : FieldType} {vs : List Value} (A : Av Z h a ty vs) (E : Ext h h') : Av Z h' a ty vs := by obtain ⟨c, A, r⟩ := A; exact ⟨c, A.ext E, r⟩
theorem Av.keep {h' : Heap} {ws : List Addr} {a : Addr} {ty : FieldType} {vs : List Value} (A : Av Z h a ty vs) (K : Keep h h' ws) (q : a ∉ ws) : Av Z h' a ty vs := by obtain ⟨c, A, r⟩ := A; exact ⟨c, ⟨K.2.1 a c A.1 q, A.2⟩, r⟩
theorem Av.other {h' : Heap} {a b : Addr} {sl : Nat} {v : Value} {ty : FieldType} {vs : List Value} (A : Av Z h b ty vs) (W : Wr h h' a sl v) (q : b ≠ a) : Av Z h' b ty vs := by obtain ⟨c, A, r⟩ := A; exact ⟨c, A.other W q, r⟩
theorem Av.set {h' : Heap} {a : Addr} {i : Nat} {v : Value} {ty : FieldType} {vs : List Value} (A : Av Z h a ty vs) (W : Wr h h' a i v) : Av Z h' a ty (vs.set i v) := by
  obtain ⟨c, A, rfl, r⟩ := A
  exact ⟨_, A.same W, by simp [Cell.setSlot], by simpa using r⟩
theorem Av.ne_exa {a b : Addr} {C' : String} {kk : Nat} {ty : FieldType} {vs : List Value} (A : Av Z h a ty vs) (E : Exa Z h b C') (wi : (Jvm.Cond.instantiable C' kk).before a0 Z = true) : a ≠ b := by obtain ⟨c, A, -⟩ := A; exact (ne_arr E wi A).symm
theorem clampNat {j : Int32} {i : Nat} (hj : j.toInt = i) : j.toNatClampNeg = i := by
  have e : j.toNatClampNeg = j.toInt.toNat := rfl
  omega
theorem inB {c : Cell} {vs : List Value} {j : Int32} {i : Nat} (e : c.slots.toList = vs) (hj : j.toInt = i) (hi : i < vs.length) : ¬ (j < 0 ∨ c.slots.size ≤ j.toNatClampNeg) := by
  have e1 := clampNat hj
  have e2 : c.slots.size = vs.length := by rw [← e]; simp
  rw [e1, e2, Int32.lt_iff_toInt_lt, hj, Int32.toInt_zero]
  omega
theorem inV {c : Cell} {vs : List Value} {j : Int32} {i : Nat} {v : Value} (e : c.slots.toList = vs) (hj : j.toInt = i) (hv : vs[i]? = some v) : c.slots[j.toNatClampNeg]? = some v := by
  rw [clampNat hj, ← hv, ← e]; simp
theorem ltOf {vs : List Value} {i : Nat} {v : Value} (hv : vs[i]? = some v) : i < vs.length := (List.getElem?_eq_some_iff.mp hv).1

theorem W.iaload {a : Addr} {vs : List Value} {j : Int32} {i : Nat} {v : Int32} (C : Good κ R Z own mnm bytes ml ret) (hd : Ins1 bytes pc .iaload 1 nx) (A : Av Z h a .int vs) (hj : j.toInt = i) (hv : vs[i]? = some (.int v)) (k : W κ n0 Q h cs sl nx L ((.int v) :: rest)) : W κ n0 Q h cs sl pc L (.int j :: .ref a :: rest) := by
  obtain ⟨hd, rfl⟩ := hd
  obtain ⟨p, l, e, R', s, m, args, below, meth, c⟩ := κ
  obtain ⟨hx, hZ, hby, hml, hown, hret, hlk, hnm, rfl⟩ := C
  intro T locs X eT N h1 h2
  obtain ⟨s₂, o, b, r⟩ := k T locs X eT N h1 h2
  obtain ⟨cl, Ar, q1, q2⟩ := A
  exact ⟨s₂, o, X.iaload hx (j := j) (by rw [eT]; exact Ar.1) (State.isArrayOf_alike hZ.alike Ar.2.1) Ar.2.2 (inB q1 hj (ltOf hv)) (inV q1 hj hv) (g := mkF m pc L.toArray (.int j :: .ref a :: rest)) rfl rfl (hb hby hd) _ b, r⟩
theorem W.baload {a : Addr} {vs : List Value} {j : Int32} {i : Nat} {v : Int32} (C : Good κ R Z own mnm bytes ml ret) (hd : Ins1 bytes pc .baload 1 nx) (A : Av Z h a .byte vs) (hj : j.toInt = i) (hv : vs[i]? = some (.int v)) (k : W κ n0 Q h cs sl nx L ((.int v) :: rest)) : W κ n0 Q h cs sl pc L (.int j :: .ref a :: rest) := by
  obtain ⟨hd, rfl⟩ := hd
  obtain ⟨p, l, e, R', s, m, args, below, meth, c⟩ := κ
  obtain ⟨hx, hZ, hby, hml, hown, hret, hlk, hnm, rfl⟩ := C
  intro T locs X eT N h1 h2
  obtain ⟨s₂, o, b, r⟩ := k T locs X eT N h1 h2
  obtain ⟨cl, Ar, q1, q2⟩ := A
  exact ⟨s₂, o, X.baloadBytes hx (j := j) (by rw [eT]; exact Ar.1) (State.isArrayOf_alike hZ.alike Ar.2.1) Ar.2.2 (inB q1 hj (ltOf hv)) (inV q1 hj hv) (g := mkF m pc L.toArray (.int j :: .ref a :: rest)) rfl rfl (hb hby hd) _ b, r⟩
theorem W.zaload {a : Addr} {vs : List Value} {j : Int32} {i : Nat} {v : Int32} (C : Good κ R Z own mnm bytes ml ret) (hd : Ins1 bytes pc .baload 1 nx) (A : Av Z h a .boolean vs) (hj : j.toInt = i) (hv : vs[i]? = some (.int v)) (k : W κ n0 Q h cs sl nx L ((.int v) :: rest)) : W κ n0 Q h cs sl pc L (.int j :: .ref a :: rest) := by
  obtain ⟨hd, rfl⟩ := hd
  obtain ⟨p, l, e, R', s, m, args, below, meth, c⟩ := κ
  obtain ⟨hx, hZ, hby, hml, hown, hret, hlk, hnm, rfl⟩ := C
  intro T locs X eT N h1 h2
  obtain ⟨s₂, o, b, r⟩ := k T locs X eT N h1 h2
  obtain ⟨cl, Ar, q1, q2⟩ := A
  exact ⟨s₂, o, X.baloadBooleans hx (j := j) (by rw [eT]; exact Ar.1) (State.isArrayOf_alike hZ.alike Ar.2.1) Ar.2.2 (inB q1 hj (ltOf hv)) (inV q1 hj hv) (g := mkF m pc L.toArray (.int j :: .ref a :: rest)) rfl rfl (hb hby hd) _ b, r⟩
theorem W.laload {a : Addr} {vs : List Value} {j : Int32} {i : Nat} {v : Int64} (C : Good κ R Z own mnm bytes ml ret) (hd : Ins1 bytes pc .laload 1 nx) (A : Av Z h a .long vs) (hj : j.toInt = i) (hv : vs[i]? = some (.long v)) (k : W κ n0 Q h cs sl nx L ((.long v) :: rest)) : W κ n0 Q h cs sl pc L (.int j :: .ref a :: rest) := by
  obtain ⟨hd, rfl⟩ := hd
  obtain ⟨p, l, e, R', s, m, args, below, meth, c⟩ := κ
  obtain ⟨hx, hZ, hby, hml, hown, hret, hlk, hnm, rfl⟩ := C
  intro T locs X eT N h1 h2
  obtain ⟨s₂, o, b, r⟩ := k T locs X eT N h1 h2
  obtain ⟨cl, Ar, q1, q2⟩ := A
  exact ⟨s₂, o, X.laload hx (j := j) (by rw [eT]; exact Ar.1) (State.isArrayOf_alike hZ.alike Ar.2.1) Ar.2.2 (inB q1 hj (ltOf hv)) (inV q1 hj hv) (g := mkF m pc L.toArray (.int j :: .ref a :: rest)) rfl rfl (hb hby hd) _ b, r⟩
theorem W.caload {a : Addr} {vs : List Value} {j : Int32} {i : Nat} {v : Int32} (C : Good κ R Z own mnm bytes ml ret) (hd : Ins1 bytes pc .caload 1 nx) (A : Av Z h a .char vs) (hj : j.toInt = i) (hv : vs[i]? = some (.int v)) (k : W κ n0 Q h cs sl nx L ((.int v) :: rest)) : W κ n0 Q h cs sl pc L (.int j :: .ref a :: rest) := by
  obtain ⟨hd, rfl⟩ := hd
  obtain ⟨p, l, e, R', s, m, args, below, meth, c⟩ := κ
  obtain ⟨hx, hZ, hby, hml, hown, hret, hlk, hnm, rfl⟩ := C
  intro T locs X eT N h1 h2
  obtain ⟨s₂, o, b, r⟩ := k T locs X eT N h1 h2
  obtain ⟨cl, Ar, q1, q2⟩ := A
  exact ⟨s₂, o, X.caload hx (j := j) (by rw [eT]; exact Ar.1) (State.isArrayOf_alike hZ.alike Ar.2.1) Ar.2.2 (inB q1 hj (ltOf hv)) (inV q1 hj hv) (g := mkF m pc L.toArray (.int j :: .ref a :: rest)) rfl rfl (hb hby hd) _ b, r⟩
theorem W.aaload {a : Addr} {ty : FieldType} {vs : List Value} {j : Int32} {i : Nat} {v : Value} (C : Good κ R Z own mnm bytes ml ret) (hd : Ins1 bytes pc .aaload 1 nx) (A : Av Z h a ty vs) (hty : ty.isReference = true) (hj : j.toInt = i) (hv : vs[i]? = some v) (k : W κ n0 Q h cs sl nx L (v :: rest)) : W κ n0 Q h cs sl pc L (.int j :: .ref a :: rest) := by
  obtain ⟨hd, rfl⟩ := hd
  obtain ⟨p, l, e, R', s, m, args, below, meth, c⟩ := κ
  obtain ⟨hx, hZ, hby, hml, hown, hret, hlk, hnm, rfl⟩ := C
  intro T locs X eT N h1 h2
  obtain ⟨s₂, o, b, r⟩ := k T locs X eT N h1 h2
  obtain ⟨cl, Ar, q1, q2⟩ := A
  exact ⟨s₂, o, X.aaload hx (j := j) (by rw [eT]; exact Ar.1) (State.isArrayOf_alike hZ.alike Ar.2.1) hty Ar.2.2 (inB q1 hj (ltOf hv)) (inV q1 hj hv) (g := mkF m pc L.toArray (.int j :: .ref a :: rest)) rfl rfl (hb hby hd) _ b, r⟩
theorem W.arraylength {a : Addr} {ty : FieldType} {vs : List Value} {z : Int32} (C : Good κ R Z own mnm bytes ml ret) (hd : Ins1 bytes pc .arraylength 1 nx) (A : Av Z h a ty vs) (hz : z.toInt = vs.length) (k : W κ n0 Q h cs sl nx L (.int z :: rest)) : W κ n0 Q h cs sl pc L (.ref a :: rest) := by
  obtain ⟨hd, rfl⟩ := hd
  obtain ⟨p, l, e, R', s, m, args, below, meth, c⟩ := κ
  obtain ⟨hx, hZ, hby, hml, hown, hret, hlk, hnm, rfl⟩ := C
  intro T locs X eT N h1 h2
  obtain ⟨s₂, o, b, r⟩ := k T locs X eT N h1 h2
  obtain ⟨cl, Ar, q1, q2⟩ := A
  have e2 : cl.slots.size = vs.length := by rw [← q1]; simp
  have e3 : cl.slots.size.toInt32 = z := Int32.toInt_inj.mp (by rw [hz, e2]; exact Int32.toInt_ofNat_of_lt q2)
  refine ⟨s₂, o, X.arraylength hx (by rw [eT]; exact Ar.1) (State.isArrayOf_alike hZ.alike Ar.2.1) (g := mkF m pc L.toArray (.ref a :: rest)) rfl rfl (hb hby hd) _ ?_, r⟩
  rw [e3]; exact b
theorem W.iastore {a : Addr} {vs : List Value} {j : Int32} {i : Nat} {x : Int32} (C : Good κ R Z own mnm bytes ml ret) (hd : Ins1 bytes pc .iastore 1 nx) (A : Av Z h a .int vs) (hj : j.toInt = i) (hi : i < vs.length) (hn : n0 ≤ a) (k : ∀ h', Wr h h' a i (.int x) → Av Z h' a .int (vs.set i (.int x)) → W κ n0 Q h' cs sl nx L rest) : W κ n0 Q h cs sl pc L ((.int x) :: .int j :: .ref a :: rest) := by
  obtain ⟨hd, rfl⟩ := hd
  obtain ⟨p, l, e, R', s, m, args, below, meth, c⟩ := κ
  obtain ⟨hx, hZ, hby, hml, hown, hret, hlk, hnm, rfl⟩ := C
  intro T locs X eT N h1 h2
  have A' := A
  obtain ⟨cl, Ar, q1, q2⟩ := A'
  obtain ⟨T', h', X', e', W', st'⟩ := stI X hx hZ eT Ar (j := j) (inB q1 hj hi) (g := mkF m pc L.toArray ((.int x) :: .int j :: .ref a :: rest)) rfl rfl (hb hby hd)
  have N' := Fr.snoc X' N hn
  rw [clampNat hj] at W'
  obtain ⟨s₂, o, b, r⟩ := k h' W' (A.set W') T' _ X' e' N' h1 h2
  exact ⟨s₂, o, st' _ b, r⟩
theorem W.bastore {a : Addr} {vs : List Value} {j : Int32} {i : Nat} {x : Int32} (C : Good κ R Z own mnm bytes ml ret) (hd : Ins1 bytes pc .bastore 1 nx) (A : Av Z h a .byte vs) (hj : j.toInt = i) (hi : i < vs.length) (hn : n0 ≤ a) (k : ∀ h', Wr h h' a i (.int x.toInt8.toInt32) → Av Z h' a .byte (vs.set i (.int x.toInt8.toInt32)) → W κ n0 Q h' cs sl nx L rest) : W κ n0 Q h cs sl pc L ((.int x) :: .int j :: .ref a :: rest) := by
  obtain ⟨hd, rfl⟩ := hd
  obtain ⟨p, l, e, R', s, m, args, below, meth, c⟩ := κ
  obtain ⟨hx, hZ, hby, hml, hown, hret, hlk, hnm, rfl⟩ := C
  intro T locs X eT N h1 h2
  have A' := A
  obtain ⟨cl, Ar, q1, q2⟩ := A'
  obtain ⟨T', h', X', e', W', st'⟩ := stB X hx hZ eT Ar (j := j) (inB q1 hj hi) (g := mkF m pc L.toArray ((.int x) :: .int j :: .ref a :: rest)) rfl rfl (hb hby hd)
  have N' := Fr.snoc X' N hn
  rw [clampNat hj] at W'
  obtain ⟨s₂, o, b, r⟩ := k h' W' (A.set W') T' _ X' e' N' h1 h2
  exact ⟨s₂, o, st' _ b, r⟩
theorem W.zastore {a : Addr} {vs : List Value} {j : Int32} {i : Nat} {x : Int32} (C : Good κ R Z own mnm bytes ml ret) (hd : Ins1 bytes pc .bastore 1 nx) (A : Av Z h a .boolean vs) (hj : j.toInt = i) (hi : i < vs.length) (hn : n0 ≤ a) (k : ∀ h', Wr h h' a i (.int (x &&& 1)) → Av Z h' a .boolean (vs.set i (.int (x &&& 1))) → W κ n0 Q h' cs sl nx L rest) : W κ n0 Q h cs sl pc L ((.int x) :: .int j :: .ref a :: rest) := by
  obtain ⟨hd, rfl⟩ := hd
  obtain ⟨p, l, e, R', s, m, args, below, meth, c⟩ := κ
  obtain ⟨hx, hZ, hby, hml, hown, hret, hlk, hnm, rfl⟩ := C
  intro T locs X eT N h1 h2
  have A' := A
  obtain ⟨cl, Ar, q1, q2⟩ := A'
  obtain ⟨T', h', X', e', W', st'⟩ := stZ X hx hZ eT Ar (j := j) (inB q1 hj hi) (g := mkF m pc L.toArray ((.int x) :: .int j :: .ref a :: rest)) rfl rfl (hb hby hd)
  have N' := Fr.snoc X' N hn
  rw [clampNat hj] at W'
  obtain ⟨s₂, o, b, r⟩ := k h' W' (A.set W') T' _ X' e' N' h1 h2
  exact ⟨s₂, o, st' _ b, r⟩
theorem W.lastore {a : Addr} {vs : List Value} {j : Int32} {i : Nat} {x : Int64} (C : Good κ R Z own mnm bytes ml ret) (hd : Ins1 bytes pc .lastore 1 nx) (A : Av Z h a .long vs) (hj : j.toInt = i) (hi : i < vs.length) (hn : n0 ≤ a) (k : ∀ h', Wr h h' a i (.long x) → Av Z h' a .long (vs.set i (.long x)) → W κ n0 Q h' cs sl nx L rest) : W κ n0 Q h cs sl pc L ((.long x) :: .int j :: .ref a :: rest) := by
  obtain ⟨hd, rfl⟩ := hd
  obtain ⟨p, l, e, R', s, m, args, below, meth, c⟩ := κ
  obtain ⟨hx, hZ, hby, hml, hown, hret, hlk, hnm, rfl⟩ := C
  intro T locs X eT N h1 h2
  have A' := A
  obtain ⟨cl, Ar, q1, q2⟩ := A'
  obtain ⟨T', h', X', e', W', st'⟩ := stJ X hx hZ eT Ar (j := j) (inB q1 hj hi) (g := mkF m pc L.toArray ((.long x) :: .int j :: .ref a :: rest)) rfl rfl (hb hby hd)
  have N' := Fr.snoc X' N hn
  rw [clampNat hj] at W'
  obtain ⟨s₂, o, b, r⟩ := k h' W' (A.set W') T' _ X' e' N' h1 h2
  exact ⟨s₂, o, st' _ b, r⟩
theorem W.castore {a : Addr} {vs : List Value} {j : Int32} {i : Nat} {x : Int32} (C : Good κ R Z own mnm bytes ml ret) (hd : Ins1 bytes pc .castore 1 nx) (A : Av Z h a .char vs) (hj : j.toInt = i) (hi : i < vs.length) (hn : n0 ≤ a) (k : ∀ h', Wr h h' a i (.int (nar .char x)) → Av Z h' a .char (vs.set i (.int (nar .char x))) → W κ n0 Q h' cs sl nx L rest) : W κ n0 Q h cs sl pc L ((.int x) :: .int j :: .ref a :: rest) := by
  obtain ⟨hd, rfl⟩ := hd
  obtain ⟨p, l, e, R', s, m, args, below, meth, c⟩ := κ
  obtain ⟨hx, hZ, hby, hml, hown, hret, hlk, hnm, rfl⟩ := C
  intro T locs X eT N h1 h2
  have A' := A
  obtain ⟨cl, Ar, q1, q2⟩ := A'
  obtain ⟨T', h', X', e', W', st'⟩ := stC X hx hZ eT Ar (j := j) (inB q1 hj hi) (g := mkF m pc L.toArray ((.int x) :: .int j :: .ref a :: rest)) rfl rfl (hb hby hd)
  have N' := Fr.snoc X' N hn
  rw [clampNat hj] at W'
  obtain ⟨s₂, o, b, r⟩ := k h' W' (A.set W') T' _ X' e' N' h1 h2
  exact ⟨s₂, o, st' _ b, r⟩
theorem Av.of_new {h' : Heap} {a : Addr} {cA : ClassId} {ty : FieldType} {n : Int32} (A : Arr Z h' a (newA cA ty n) ty) : Av Z h' a ty (List.replicate n.toNatClampNeg (defaultValue ty)) := by
  refine ⟨_, A, by simp [newA], ?_⟩
  have e : n.toNatClampNeg = n.toInt.toNat := rfl
  have := Int32.toInt_lt n
  rw [List.length_replicate]; omega
theorem W.newarray {aty : ArrayType} {ty : FieldType} {n : Int32} {vs : List Value} (cap : Nat) (C : Good κ R Z own mnm bytes ml ret) (hd : Ins1 bytes pc (.newarray aty) 2 nx) (hty : newarray.typeOf aty = ty) (w : (Jvm.Cond.arrayClass ty).before a0 Z = true) (hn : 0 ≤ n.toInt) (hcap : n.toInt ≤ cap) (hvs : List.replicate n.toNatClampNeg (defaultValue ty) = vs) (hb8 : cap * 8 ≤ 536870912) (hc : cs + 1 ≤ R.cells) (hl : sl + cap ≤ R.slots) (k : ∀ h' a, h.size = a → Ext h h' → Av Z h' a ty vs → W κ n0 Q h' (cs + 1) (sl + cap) nx L (.ref a :: rest)) : W κ n0 Q h cs sl pc L (.int n :: rest) := by
  subst hty
  obtain ⟨hd, rfl⟩ := hd
  obtain ⟨p, l, e, R', s, m, args, below, meth, c⟩ := κ
  obtain ⟨hx, hZ, hby, hml, hown, hret, hlk, hnm, rfl⟩ := C
  intro T locs X eT N h1 h2
  have hn' : ¬ n < 0 := by rw [Int32.lt_iff_toInt_lt, Int32.toInt_zero]; omega
  have hc' : n.toNatClampNeg ≤ cap := by have e : n.toNatClampNeg = n.toInt.toNat := rfl; omega
  obtain ⟨T', h', cA, X', e', E', A', st'⟩ := newP X hx hZ w eT (g := mkF m pc L.toArray (.int n :: rest)) rfl (hb hby hd) rfl hn' (cap := cap) hc' hb8 hc hl
  obtain ⟨s₂, o, b, r⟩ := k h' _ rfl E' (hvs ▸ Av.of_new A') T' _ X' e' N hc hl
  exact ⟨s₂, o, st' _ b, r⟩
/-! ### objects -/
theorem W.new {i : Nat} {C' : String} {nf : Nat} (C : Good κ R Z own mnm bytes ml ret) (hd : Ins1 bytes pc (.new i) 3 nx) (w1 : (Jvm.Cond.classLink own i C').before a0 Z = true) (w2 : (Jvm.Cond.instantiable C' nf).before a0 Z = true) (w3 : (Jvm.Cond.initialized C').before a0 Z = true) (hc : cs + 1 ≤ R.cells) (hl : sl + nf ≤ R.slots)
    (k : ∀ h' a, h.size = a → Ext h h' → Exa Z h' a C' → (∀ {O nm d : String} {ty : FieldType}, Laid Z a0 C' O nm d → parseFieldDescriptor d = some ty → Fld Z h' a O nm d (defaultValue ty)) → W κ n0 Q h' (cs + 1) (sl + nf) nx L (.ref a :: st)) : W κ n0 Q h cs sl pc L st := by
  obtain ⟨hd, rfl⟩ := hd
  obtain ⟨p, l, e, R', s, m, args, below, meth, c⟩ := κ
  obtain ⟨hx, hZ, hby, hml, hown, hret, hlk, hnm, rfl⟩ := C
  intro T locs X eT N h1 h2
  obtain ⟨T', h', X', e', E', A', D', -, st'⟩ := newO X hx hZ hown w1 w2 w3 eT (g := mkF m pc L.toArray st) rfl (hb hby hd) hc hl
  obtain ⟨s₂, o, b, r⟩ := k h' _ rfl E' A' D' T' _ X' e' N hc hl
  exact ⟨s₂, o, st' _ b, r⟩
theorem W.getfield {i : Nat} {R0 O nm d host : String} {a : Addr} {v : Value} (C : Good κ R Z own mnm bytes ml ret) (hd : Ins1 bytes pc (.getfield i) 3 nx) (w : (Jvm.Cond.fieldLink own i R0 nm d).before a0 Z = true ∨ (Jvm.Cond.fieldLinkNest own i R0 nm d host).before a0 Z = true) (via : Via Z R0 O nm d) (F : Fld Z h a O nm d v) (k : W κ n0 Q h cs sl nx L (v :: rest)) : W κ n0 Q h cs sl pc L (.ref a :: rest) := by
  obtain ⟨hd, rfl⟩ := hd
  obtain ⟨p, l, e, R', s, m, args, below, meth, c⟩ := κ
  obtain ⟨hx, hZ, hby, hml, hown, hret, hlk, hnm, rfl⟩ := C
  intro T locs X eT N h1 h2
  obtain ⟨T', X', e', st'⟩ := getF X hx hZ hown w via eT F (g := mkF m pc L.toArray (.ref a :: rest)) rfl rfl (hb hby hd)
  obtain ⟨s₂, o, b, r⟩ := k T' _ X' e' N h1 h2
  exact ⟨s₂, o, st' _ b, r⟩
theorem W.getstatic {i : Nat} {R0 O nm d host : String} {v : Value} (C : Good κ R Z own mnm bytes ml ret) (hd : Ins1 bytes pc (.getstatic i) 3 nx) (w : (Jvm.Cond.fieldLink own i R0 nm d).before a0 Z = true ∨ (Jvm.Cond.fieldLinkNest own i R0 nm d host).before a0 Z = true) (via : Via Z R0 O nm d) (F : Sta Z h O nm d v) (k : W κ n0 Q h cs sl nx L (v :: st)) : W κ n0 Q h cs sl pc L st := by
  obtain ⟨hd, rfl⟩ := hd
  obtain ⟨p, l, e, R', s, m, args, below, meth, c⟩ := κ
  obtain ⟨hx, hZ, hby, hml, hown, hret, hlk, hnm, rfl⟩ := C
  intro T locs X eT N h1 h2
  obtain ⟨T', X', e', st'⟩ := getS2 X hx hZ hown w via eT F (g := mkF m pc L.toArray st) rfl (hb hby hd)
  obtain ⟨s₂, o, b, r⟩ := k T' _ X' e' N h1 h2
  exact ⟨s₂, o, st' _ b, r⟩
theorem W.putfield {i kk : Nat} {R0 O nm d host C' : String} {ty : FieldType} {a : Addr} {v old : Value} (C : Good κ R Z own mnm bytes ml ret) (hd : Ins1 bytes pc (.putfield i) 3 nx) (w : (Jvm.Cond.fieldLink own i R0 nm d).before a0 Z = true ∨ (Jvm.Cond.fieldLinkNest own i R0 nm d host).before a0 Z = true) (via : Via Z R0 O nm d) (F : Fld Z h a O nm d old) (E : Exa Z h a C')
    (Ly : (Jvm.Cond.lays C' O nm d).before a0 Z = true ∨ ((Jvm.Cond.laysFinal C' O nm d).before a0 Z = true ∧ own = O ∧ mnm = "<init>")) (wi : (Jvm.Cond.instantiable C' kk).before a0 Z = true) (hty : parseFieldDescriptor d = some ty) (hnw : narrow ty v = v) (hf : fits ty v = true) (hn : n0 ≤ a)
    (k : ∀ h', Wr h h' a (Jvm.RoadKit.slotOf Z O nm d) v → Fld Z h' a O nm d v → W κ n0 Q h' cs sl nx L rest) : W κ n0 Q h cs sl pc L (v :: .ref a :: rest) := by
  obtain ⟨hd, rfl⟩ := hd
  obtain ⟨p, l, e, R', s, m, args, below, meth, c⟩ := κ
  obtain ⟨hx, hZ, hby, hml, hown, hret, hlk, hnm, rfl⟩ := C
  intro T locs X eT N h1 h2
  obtain ⟨T', h', X', e', W', st'⟩ := putF X hx hZ hown w via eT F E (Ly.imp id fun q => ⟨q.1, q.2.1, hnm.trans q.2.2⟩) wi hty hnw hf (g := mkF m pc L.toArray (v :: .ref a :: rest)) rfl rfl (hb hby hd)
  have N' := Fr.snoc X' N hn
  obtain ⟨s₂, o, b, r⟩ := k h' W' (F.same W') T' _ X' e' N' h1 h2
  exact ⟨s₂, o, st' _ b, r⟩
theorem W.putfieldN {i kk : Nat} {R0 O nm d C' : String} {ty : FieldType} {a : Addr} {v v' old : Value} (C : Good κ R Z own mnm bytes ml ret) (hd : Ins1 bytes pc (.putfield i) 3 nx) (w : (Jvm.Cond.fieldLink own i R0 nm d).before a0 Z = true) (via : Via Z R0 O nm d) (F : Fld Z h a O nm d old) (E : Exa Z h a C')
    (Ly : (Jvm.Cond.lays C' O nm d).before a0 Z = true ∨ ((Jvm.Cond.laysFinal C' O nm d).before a0 Z = true ∧ own = O ∧ mnm = "<init>")) (wi : (Jvm.Cond.instantiable C' kk).before a0 Z = true) (hty : parseFieldDescriptor d = some ty) (hnw : narrow ty v = v') (hf : fits ty v' = true) (hn : n0 ≤ a)
    (k : ∀ h', Wr h h' a (Jvm.RoadKit.slotOf Z O nm d) v' → Fld Z h' a O nm d v' → W κ n0 Q h' cs sl nx L rest) : W κ n0 Q h cs sl pc L (v :: .ref a :: rest) := by
  obtain ⟨hd, rfl⟩ := hd
  obtain ⟨p, l, e, R', s, m, args, below, meth, c⟩ := κ
  obtain ⟨hx, hZ, hby, hml, hown, hret, hlk, hnm, rfl⟩ := C
  intro T locs X eT N h1 h2
  obtain ⟨T', h', X', e', W', st'⟩ := putFN X hx hZ hown w via eT F E (Ly.imp id fun q => ⟨q.1, q.2.1, hnm.trans q.2.2⟩) wi hty hnw hf (g := mkF m pc L.toArray (v :: .ref a :: rest)) rfl rfl (hb hby hd)
  have N' := Fr.snoc X' N hn
  obtain ⟨s₂, o, b, r⟩ := k h' W' (F.same W') T' _ X' e' N' h1 h2
  exact ⟨s₂, o, st' _ b, r⟩
/-! ### returns -/
theorem W.ireturn {z : Int32} (C : Good κ R Z own mnm bytes ml (some .int)) (hd : Ins1 bytes pc .ireturn 1 nx) (hq : Q (some (.int z)) h) : W κ n0 Q h cs sl pc L (.int z :: rest) := by
  obtain ⟨p, l, e, R', s, m, args, below, meth, c⟩ := κ
  obtain ⟨hx, hZ, hby, hml, hown, hret, hlk, hnm, rfl⟩ := C
  intro T locs X eT N h1 h2
  obtain ⟨fs, hr, hrun, hended, hW, hsame⟩ := X.leave (v := some (.int z)) (fun h => by rw [hret] at h; cases h) hlk
  refine ⟨_, _, retOut X hx hret rfl (Or.inl ⟨rfl, Or.inl rfl, z, rfl⟩) (hb hby hd.1) hr, hrun, hended, _, _, rfl, ⟨?_, N⟩, ⟨_, rfl⟩, hW, hsame.mono h1 h2⟩
  show Q _ T.heap
  rw [eT]; exact hq
theorem W.nreturn {t : FieldType} {z : Int32} (C : Good κ R Z own mnm bytes ml (some t)) (ht : t = .boolean ∨ t = .byte ∨ t = .char ∨ t = .short) (hd : Ins1 bytes pc .ireturn 1 nx) (hq : Q (some (.int (nar t z))) h) : W κ n0 Q h cs sl pc L (.int z :: rest) := by
  obtain ⟨p, l, e, R', s, m, args, below, meth, c⟩ := κ
  obtain ⟨hx, hZ, hby, hml, hown, hret, hlk, hnm, rfl⟩ := C
  intro T locs X eT N h1 h2
  obtain ⟨fs, hr, hrun, hended, hW, hsame⟩ := X.leave (v := some (.int (nar t z))) (fun h => by rw [hret] at h; cases h) hlk
  refine ⟨_, _, retN X hx hret ht (hb hby hd.1) hr, hrun, hended, _, _, rfl, ⟨?_, N⟩, ⟨_, rfl⟩, hW, hsame.mono h1 h2⟩
  show Q _ T.heap
  rw [eT]; exact hq
theorem W.zreturn {z : Int32} (C : Good κ R Z own mnm bytes ml (some .boolean)) (hd : Ins1 bytes pc .ireturn 1 nx) (hq : Q (some (.int (z &&& 1))) h) : W κ n0 Q h cs sl pc L (.int z :: rest) := W.nreturn C (Or.inl rfl) hd hq
theorem W.lreturn {z : Int64} (C : Good κ R Z own mnm bytes ml (some .long)) (hd : Ins1 bytes pc .lreturn 1 nx) (hq : Q (some (.long z)) h) : W κ n0 Q h cs sl pc L (.long z :: rest) := by
  obtain ⟨p, l, e, R', s, m, args, below, meth, c⟩ := κ
  obtain ⟨hx, hZ, hby, hml, hown, hret, hlk, hnm, rfl⟩ := C
  intro T locs X eT N h1 h2
  obtain ⟨fs, hr, hrun, hended, hW, hsame⟩ := X.leave (v := some (.long z)) (fun h => by rw [hret] at h; cases h) hlk
  refine ⟨_, _, retOut X hx hret rfl (Or.inr (Or.inl ⟨rfl, rfl, z, rfl⟩)) (hb hby hd.1) hr, hrun, hended, _, _, rfl, ⟨?_, N⟩, ⟨_, rfl⟩, hW, hsame.mono h1 h2⟩
  show Q _ T.heap
  rw [eT]; exact hq
theorem W.areturn {t : FieldType} {v : Value} (C : Good κ R Z own mnm bytes ml (some t)) (ht : t.isReference = true) (hv : v.isRef = true) (hd : Ins1 bytes pc .areturn 1 nx) (hq : Q (some v) h) : W κ n0 Q h cs sl pc L (v :: rest) := by
  obtain ⟨p, l, e, R', s, m, args, below, meth, c⟩ := κ
  obtain ⟨hx, hZ, hby, hml, hown, hret, hlk, hnm, rfl⟩ := C
  intro T locs X eT N h1 h2
  obtain ⟨fs, hr, hrun, hended, hW, hsame⟩ := X.leave (v := some v) (fun h => by rw [hret] at h; cases h) hlk
  have hnw : narrow t v = v := by cases t <;> first | (cases ht; done) | (cases v <;> first | rfl | (cases hv; done))
  refine ⟨_, _, retOut X hx hret hnw (Or.inr (Or.inr (Or.inr (Or.inr ⟨rfl, ht, hv⟩)))) (hb hby hd.1) hr, hrun, hended, _, _, rfl, ⟨?_, N⟩, ⟨_, rfl⟩, hW, hsame.mono h1 h2⟩
  show Q _ T.heap
  rw [eT]; exact hq
theorem W.vreturn (C : Good κ R Z own mnm bytes ml none) (hd : Ins1 bytes pc .return_ 1 nx) (hq : Q none h) : W κ n0 Q h cs sl pc L [] := by
  obtain ⟨p, l, e, R', s, m, args, below, meth, c⟩ := κ
  obtain ⟨hx, hZ, hby, hml, hown, hret, hlk, hnm, rfl⟩ := C
  intro T locs X eT N h1 h2
  obtain ⟨fs, hr, hrun, hended, hW, hsame⟩ := X.leave (v := none) (fun _ => rfl) hlk
  refine ⟨_, _, X.returnOut hx hret (hb hby hd.1) hr, hrun, hended, _, _, rfl, ⟨?_, N⟩, ⟨_, rfl⟩, hW, hsame.mono h1 h2⟩
  show Q _ T.heap
  rw [eT]; exact hq
/-! ### calls -/
theorem Con.of {y : MethodName} {cb : ByteArray} {cml : Nat} {cret : Option FieldType} {rm : Room} {as' : List Value} {h0 : Heap} {L : List Slot} (hy : plainFor y = true) (hef : ∀ m, entryFrame m as'.toArray cml = mkF m 0 L.toArray []) (k : ∀ κ (Qx : Option Value → Heap → Prop), (∀ v h', Q v h' → Qx v h') → Good κ rm Z y.cls y.name cb cml cret → W κ n0 Qx h0 0 0 0 L []) : Con Z y cb cml cret rm as' h0 n0 Q := by
  intro l ws
  refine MetFree.of_bodySF hy hisR ?_
  intro p e s m args below meth c s₁ Bd hml0 hP hK
  obtain ⟨rfl, hZ, hh⟩ := hP
  have X0 : Stand p l e rm s m as'.toArray below meth c s₁ [] 0 0 := Stand.of_body Bd
  have e0 : s₁.heap = h0 := by rw [← hh, Bd.state]; rfl
  rw [hef m]
  exact k (p, l, e, rm, s, m, as'.toArray, below, meth, c) Q (fun _ _ q => q) ⟨Bd.exec, hZ, Bd.bytes, hml0, findClass_of_methodNamed Bd.named, Bd.returns, BodyLoose.notSynchronized Bd, (name_of_methodNamed Bd.named Bd.method).1, rfl⟩ s₁ [] X0 e0 (Fr.nil n0) (Nat.zero_le _) (Nat.zero_le _)
theorem Con.post {y : MethodName} {cb : ByteArray} {cml : Nat} {cret : Option FieldType} {rm : Room} {as' : List Value} {h0 : Heap} {Q' : Option Value → Heap → Prop} (hq : ∀ v h, Q v h → Q' v h) (k : Con Z y cb cml cret rm as' h0 n0 Q) : Con Z y cb cml cret rm as' h0 n0 Q' := by
  intro l ws p e h1 h2 h3 s m args below h4 h5 h6 h7
  obtain ⟨n, o, g1, g2, g3, v, L, e1, ⟨e2, e3⟩, e4⟩ := k l ws p e h1 h2 h3 s m args below h4 h5 h6 h7
  exact ⟨n, o, g1, g2, g3, v, L, e1, ⟨hq _ _ e2, e3⟩, e4⟩
theorem W.callS {i : Nat} {y : MethodName} {cb : ByteArray} {cml wt : Nat} {cret : Option FieldType} {rm : Room} {as' : List Value} {Qc : Option Value → Heap → Prop} {ps : List FieldType} {rt : Option FieldType} (C : Good κ R Z own mnm bytes ml ret) (hd : Ins1 bytes pc (.invokestatic i) 3 nx)
    (w1 : (Jvm.Cond.methodLink own i y).before a0 Z = true) (w2 : (Jvm.Cond.static y).before a0 Z = true) (w3 : (Jvm.Cond.initialized y.cls).before a0 Z = true) (w4 : (Jvm.Cond.code y cb cml cret).before a0 Z = true) (hy : y.cls ≠ "java/lang/invoke/MethodHandle" ∧ y.cls ≠ "java/lang/invoke/VarHandle")
    (hpd : parseMethodDescriptor y.desc = some ⟨ps, rt⟩) (hlen : as'.length = ps.length) (hM : Con Z y cb cml cret rm as' h n0 Qc) (hst : st = as'.reverse ++ rest) (hL : L.length = ml) (hwt : 2 * 0 + (rest.map fun v => v.category).sum ≤ wt)
    (hfr : rm.frames + 1 ≤ R.frames) (hlo : wt + (cml + 11) + rm.locals ≤ R.locals) (hcs : cs + rm.cells ≤ R.cells) (hsl : sl + rm.slots ≤ R.slots)
    (k : ∀ v h', Qc v h' → W κ n0 Q h' (cs + rm.cells) (sl + rm.slots) nx L (v.toList ++ rest)) : W κ n0 Q h cs sl pc L st := by
  obtain ⟨hd, rfl⟩ := hd
  obtain ⟨p, l, e, R', s, m, args, below, meth, c⟩ := κ
  obtain ⟨hx, hZ, hby, hml, hown, hret, hlk, hnm, rfl⟩ := C
  intro T locs X eT N h1 h2
  obtain ⟨v, _, ⟨T2, L2, k2, n2⟩, -, X2, ⟨Lc, hQ, l2, y2, z2⟩, st2⟩ := Jvm.LawKit.callS X hx (y := y) hown (mvT hZ w1) (mvT hZ w2) (mvT hZ w3) (mvT hZ w4) hy (backOf (W := wt) (Q := fun v h L => Qc v h ∧ Fr n0 L) (hM l []) hZ w4 w3 hfr hlo) (g := mkF m pc L.toArray st) rfl (by show L.toArray.size = _; rw [hml, ← hL]; simp) (argsL := as') (rest := rest) (lenOf hpd hlen) hst hwt (hb hby hd) (fun _ _ => ⟨rfl, eT, hcs, hsl⟩)
  dsimp only [Pt.U, Pt.locs, Pt.cells, Pt.slots] at X2 l2 y2 z2 st2 hQ
  subst l2 y2 z2
  obtain ⟨s₂, o, b, r⟩ := k v T2.heap hQ.1 T2 _ X2 rfl (Fr.app N hQ.2) hcs hsl
  exact ⟨s₂, o, st2 _ b, r⟩
theorem W.callC {i : Nat} {y : MethodName} {cb : ByteArray} {cml wt : Nat} {rm : Room} {a : Addr} {as' : List Value} {Qc : Option Value → Heap → Prop} {ps : List FieldType} {rt : Option FieldType} (C : Good κ R Z own mnm bytes ml ret) (hd : Ins1 bytes pc (.invokespecial i) 3 nx) (hy1 : y.name = "<init>")
    (w1 : (Jvm.Cond.methodLink own i y).before a0 Z = true) (w2 : (Jvm.Cond.instanceMethod y).before a0 Z = true) (w3 : (Jvm.Cond.initialized y.cls).before a0 Z = true) (w4 : (Jvm.Cond.code y cb cml none).before a0 Z = true) (hy : y.cls ≠ "java/lang/invoke/MethodHandle" ∧ y.cls ≠ "java/lang/invoke/VarHandle")
    (hpd : parseMethodDescriptor y.desc = some ⟨ps, rt⟩) (hlen : as'.length = ps.length) (hM : Con Z y cb cml none rm (.ref a :: as') h n0 Qc) (hst : st = as'.reverse ++ .ref a :: rest) (hL : L.length = ml) (hwt : 2 * 0 + (rest.map fun v => v.category).sum ≤ wt)
    (hfr : rm.frames + 1 ≤ R.frames) (hlo : wt + (cml + 11) + rm.locals ≤ R.locals) (hcs : cs + rm.cells ≤ R.cells) (hsl : sl + rm.slots ≤ R.slots)
    (k : ∀ v h', Qc v h' → W κ n0 Q h' (cs + rm.cells) (sl + rm.slots) nx L (v.toList ++ rest)) : W κ n0 Q h cs sl pc L st := by
  obtain ⟨hd, rfl⟩ := hd
  obtain ⟨p, l, e, R', s, m, args, below, meth, c⟩ := κ
  obtain ⟨hx, hZ, hby, hml, hown, hret, hlk, hnm, rfl⟩ := C
  intro T locs X eT N h1 h2
  obtain ⟨v, _, ⟨T2, L2, k2, n2⟩, -, X2, ⟨Lc, hQ, l2, y2, z2⟩, st2⟩ := X.specialBack hx (y := y) hy1 hown (mvT hZ w1) (mvT hZ w2) (mvT hZ w4) hy (backOf (W := wt) (Q := fun v h L => Qc v h ∧ Fr n0 L) (hM l []) hZ w4 w3 hfr hlo) (g := mkF m pc L.toArray st) rfl (by show L.toArray.size = _; rw [hml, ← hL]; simp) (Steps.refl _) (a := a) (argsL := as') (rest := rest) (lenOf hpd hlen) hst hwt (hb hby hd) (fun _ _ => ⟨rfl, eT, hcs, hsl⟩)
  dsimp only [Pt.U, Pt.locs, Pt.cells, Pt.slots] at X2 l2 y2 z2 st2 hQ
  subst l2 y2 z2
  obtain ⟨s₂, o, b, r⟩ := k v T2.heap hQ.1 T2 _ X2 rfl (Fr.app N hQ.2) hcs hsl
  exact ⟨s₂, o, st2.trans b, r⟩
theorem W.callV {i : Nat} {C' : String} {y : MethodName} {cb : ByteArray} {cml wt : Nat} {cret : Option FieldType} {rm : Room} {a : Addr} {as' : List Value} {Qc : Option Value → Heap → Prop} {ps : List FieldType} {rt : Option FieldType} (C : Good κ R Z own mnm bytes ml ret) (hd : Ins1 bytes pc (.invokevirtual i) 3 nx)
    (w1 : (Jvm.Cond.methodLink own i y).before a0 Z = true) (w2 : (Jvm.Cond.declares y).before a0 Z = true) (w5 : (Jvm.Cond.selects C' y y).before a0 Z = true) (w6 : (Jvm.Cond.instanceMethod y).before a0 Z = true) (w3 : (Jvm.Cond.initialized y.cls).before a0 Z = true) (w4 : (Jvm.Cond.code y cb cml cret).before a0 Z = true) (hy : y.cls ≠ "java/lang/invoke/MethodHandle" ∧ y.cls ≠ "java/lang/invoke/VarHandle")
    (E : Exa Z h a C') (hpd : parseMethodDescriptor y.desc = some ⟨ps, rt⟩) (hlen : as'.length = ps.length) (hM : Con Z y cb cml cret rm (.ref a :: as') h n0 Qc) (hst : st = as'.reverse ++ .ref a :: rest) (hL : L.length = ml) (hwt : 2 * 0 + (rest.map fun v => v.category).sum ≤ wt)
    (hfr : rm.frames + 1 ≤ R.frames) (hlo : wt + (cml + 11) + rm.locals ≤ R.locals) (hcs : cs + rm.cells ≤ R.cells) (hsl : sl + rm.slots ≤ R.slots)
    (k : ∀ v h', Qc v h' → W κ n0 Q h' (cs + rm.cells) (sl + rm.slots) nx L (v.toList ++ rest)) : W κ n0 Q h cs sl pc L st := by
  obtain ⟨hd, rfl⟩ := hd
  obtain ⟨p, l, e, R', s, m, args, below, meth, c⟩ := κ
  obtain ⟨hx, hZ, hby, hml, hown, hret, hlk, hnm, rfl⟩ := C
  intro T locs X eT N h1 h2
  obtain ⟨cq, kq, qa, qb, qc⟩ := isOf hZ eT E
  obtain ⟨v, _, ⟨T2, L2, k2, n2⟩, -, X2, ⟨Lc, hQ, l2, y2, z2⟩, st2⟩ := X.virtualBack hx (y := y) (z := y) hown (mvT hZ w1) (mvT hZ w2) (notFace_of_selects (args := #[]) (mvT hZ w5)) (mvT hZ w5) (mvT hZ w6) hy (backOf (W := wt) (Q := fun v h L => Qc v h ∧ Fr n0 L) (hM l []) hZ w4 w3 hfr hlo) qa qc (g := mkF m pc L.toArray st) rfl (by show L.toArray.size = _; rw [hml, ← hL]; simp) (Steps.refl _) (argsL := as') (rest := rest) (lenOf hpd hlen) hst hwt (hb hby hd) (fun _ _ => ⟨rfl, eT, hcs, hsl⟩)
  dsimp only [Pt.U, Pt.locs, Pt.cells, Pt.slots] at X2 l2 y2 z2 st2 hQ
  subst l2 y2 z2
  obtain ⟨s₂, o, b, r⟩ := k v T2.heap hQ.1 T2 _ X2 rfl (Fr.app N hQ.2) hcs hsl
  exact ⟨s₂, o, st2.trans b, r⟩
theorem W.callP {i kk : Nat} {y : MethodName} {cb : ByteArray} {cml wt : Nat} {cret : Option FieldType} {rm : Room} {a : Addr} {as' : List Value} {Qc : Option Value → Heap → Prop} {ps : List FieldType} {rt : Option FieldType} (C : Good κ R Z own mnm bytes ml ret) (hd : Ins1 bytes pc (.invokevirtual i) 3 nx)
    (w1 : (Jvm.Cond.methodLink own i y).before a0 Z = true) (w6 : (Jvm.Cond.instanceMethod y).before a0 Z = true) (wi : (Jvm.Cond.instantiable y.cls kk).before a0 Z = true) (w7 : (Jvm.Cond.privateMethod y).before a0 Z = true) (w3 : (Jvm.Cond.initialized y.cls).before a0 Z = true) (w4 : (Jvm.Cond.code y cb cml cret).before a0 Z = true) (hy : y.cls ≠ "java/lang/invoke/MethodHandle" ∧ y.cls ≠ "java/lang/invoke/VarHandle")
    (E : Exa Z h a y.cls) (hpd : parseMethodDescriptor y.desc = some ⟨ps, rt⟩) (hlen : as'.length = ps.length) (hM : Con Z y cb cml cret rm (.ref a :: as') h n0 Qc) (hst : st = as'.reverse ++ .ref a :: rest) (hL : L.length = ml) (hwt : 2 * 0 + (rest.map fun v => v.category).sum ≤ wt)
    (hfr : rm.frames + 1 ≤ R.frames) (hlo : wt + (cml + 11) + rm.locals ≤ R.locals) (hcs : cs + rm.cells ≤ R.cells) (hsl : sl + rm.slots ≤ R.slots)
    (k : ∀ v h', Qc v h' → W κ n0 Q h' (cs + rm.cells) (sl + rm.slots) nx L (v.toList ++ rest)) : W κ n0 Q h cs sl pc L st := by
  obtain ⟨hd, rfl⟩ := hd
  obtain ⟨p, l, e, R', s, m, args, below, meth, c⟩ := κ
  obtain ⟨hx, hZ, hby, hml, hown, hret, hlk, hnm, rfl⟩ := C
  intro T locs X eT N h1 h2
  obtain ⟨cq, q1, q2⟩ := E.cell
  have hpr := Cond.privateMethod_at (mvP hZ w7 (args := args))
  have hin : (Jvm.Cond.instanceMethod y).before args s = true := mvT hZ w6
  obtain ⟨cc, kc, c1, c2, -, c4, -⟩ := Cond.instantiable_spec (mvT (args := args) hZ wi)
  have hse := selects_self_of_private c1 c2 (Bool.or_eq_false_iff.mp c4).1 hpr hin hy
  obtain ⟨v, _, ⟨T2, L2, k2, n2⟩, -, X2, ⟨Lc, hQ, l2, y2, z2⟩, st2⟩ := X.privateBack hx (y := y) hown (mvT hZ w1) hin hse hpr (mvT hZ w4) hy (backOf (W := wt) (Q := fun v h L => Qc v h ∧ Fr n0 L) (hM l []) hZ w4 w3 hfr hlo) (g := mkF m pc L.toArray st) rfl (by show L.toArray.size = _; rw [hml, ← hL]; simp) (Steps.refl _) (a := a) (by rw [eT]; exact q1) q2 (argsL := as') (rest := rest) (lenOf hpd hlen) hst hwt (hb hby hd) (fun _ _ => ⟨rfl, eT, hcs, hsl⟩)
  dsimp only [Pt.U, Pt.locs, Pt.cells, Pt.slots] at X2 l2 y2 z2 st2 hQ
  subst l2 y2 z2
  obtain ⟨s₂, o, b, r⟩ := k v T2.heap hQ.1 T2 _ X2 rfl (Fr.app N hQ.2) hcs hsl
  exact ⟨s₂, o, st2.trans b, r⟩
theorem W.initO {i : Nat} {a : Addr} {wt : Nat} (C : Good κ R Z own mnm bytes ml ret) (hd : Ins1 bytes pc (.invokespecial i) 3 nx) (w1 : (Jvm.Cond.methodLink own i Lib.objectInit).before a0 Z = true) (w2 : (Jvm.Cond.instanceMethod Lib.objectInit).before a0 Z = true) (w3 : (Jvm.Cond.code Lib.objectInit ⟨#[0xb1]⟩ 1 none).before a0 Z = true)
    (hL : L.length = ml) (hfr : 1 ≤ R.frames) (hwt : 2 * 0 + (rest.map fun v => v.category).sum ≤ wt) (hlo : wt + 12 ≤ R.locals) (k : W κ n0 Q h cs sl nx L rest) : W κ n0 Q h cs sl pc L (.ref a :: rest) := by
  obtain ⟨hd, rfl⟩ := hd
  obtain ⟨p, l, e, R', s, m, args, below, meth, c⟩ := κ
  obtain ⟨hx, hZ, hby, hml, hown, hret, hlk, hnm, rfl⟩ := C
  intro T locs X eT N h1 h2
  obtain ⟨T', X', e', st'⟩ := initO X hx hZ hown w1 w2 w3 eT (g := mkF m pc L.toArray (.ref a :: rest)) rfl (by show L.toArray.size = _; rw [hml, ← hL]; simp) rfl (hb hby hd) hfr hwt hlo
  obtain ⟨s₂, o, b, r⟩ := k T' _ X' e' N h1 h2
  exact ⟨s₂, o, st' _ b, r⟩
end WKit
/-- a value of one word stored over one word -/
theorem st1 {L : List Slot} {k : Nat} {o : Slot} {v : Value} (hold : L[k]? = some o) (ho : One o) (hv : v.category = 1) : storeLocals L.toArray k v = some (L.set k (.val v)).toArray := by
  have := XS.store1 (l := L.toArray) (i := k) (v := v) (o := o) (by simpa using hold) ho hv
  rw [this]; simp
theorem ofNat_toInt {n : Nat} (h : n < 2147483648) : (Int32.ofNat n).toInt = n := Int32.toInt_ofNat_of_lt h
theorem natOf {x : Int32} (h : 0 ≤ x.toInt) : ∃ n : Nat, x = Int32.ofNat n ∧ n < 2147483648 ∧ x.toInt = n := by
  have h2 := Int32.toInt_lt x
  refine ⟨x.toInt.toNat, Int32.toInt_inj.mp ?_, by omega, by omega⟩
  rw [ofNat_toInt (by omega)]; omega
theorem own_get {bs : List Int32} {i : Nat} (hi : i < bs.length) : (bs.map Value.int)[i]? = some (.int (bs.getD i 0)) := by simp [List.getD, hi]
theorem own_set {Z : State} {h : Heap} {a : Addr} {ty : FieldType} {bs : List Int32} {i : Nat} {v : Int32} (A : Av Z h a ty ((bs.map Value.int).set i (.int v))) : Av Z h a ty ((bs.set i v).map Value.int) := by rw [List.map_set]; exact A
/-- the byte of q at the shift s, as bastore leaves it -/
def own_by (q : Int64) (s : Int32) : Int32 := ((q.toUInt64 >>> (s &&& 0x3f).toInt64.toUInt64).toInt64).toInt32.toInt8.toInt32.toInt8.toInt32
theorem own_b8 {x y : Int32} (h : (x.toInt - y.toInt) % 256 = 0) : x.toInt8.toInt32 = y.toInt8.toInt32 := by
  apply Int32.toInt_inj.mp
  have h1 := c_i2b x
  have h2 := c_i2b y
  omega
theorem own_p0 {x : Int32} {i : Nat} (h : x.toInt = i) (hi : i ≤ 100) : (x + (0 : Int32)).toInt = ((i + 0 : Nat) : Int) := by
  have t1 := rng32 x
  have t2 : (0 : Int32).toInt = 0 := rfl
  have t3 := rng32 (x + (0 : Int32))
  have t4 := c_iadd x (0 : Int32)
  omega
theorem own_p1 {x : Int32} {i : Nat} (h : x.toInt = i) (hi : i ≤ 100) : (x + (1 : Int32)).toInt = ((i + 1 : Nat) : Int) := by
  have t1 := rng32 x
  have t2 : (1 : Int32).toInt = 1 := rfl
  have t3 := rng32 (x + (1 : Int32))
  have t4 := c_iadd x (1 : Int32)
  omega
theorem own_p2 {x : Int32} {i : Nat} (h : x.toInt = i) (hi : i ≤ 100) : (x + (2 : Int32)).toInt = ((i + 2 : Nat) : Int) := by
  have t1 := rng32 x
  have t2 : (2 : Int32).toInt = 2 := rfl
  have t3 := rng32 (x + (2 : Int32))
  have t4 := c_iadd x (2 : Int32)
  omega
theorem own_p3 {x : Int32} {i : Nat} (h : x.toInt = i) (hi : i ≤ 100) : (x + (3 : Int32)).toInt = ((i + 3 : Nat) : Int) := by
  have t1 := rng32 x
  have t2 : (3 : Int32).toInt = 3 := rfl
  have t3 := rng32 (x + (3 : Int32))
  have t4 := c_iadd x (3 : Int32)
  omega
theorem own_p4 {x : Int32} {i : Nat} (h : x.toInt = i) (hi : i ≤ 100) : (x + (4 : Int32)).toInt = ((i + 4 : Nat) : Int) := by
  have t1 := rng32 x
  have t2 : (4 : Int32).toInt = 4 := rfl
  have t3 := rng32 (x + (4 : Int32))
  have t4 := c_iadd x (4 : Int32)
  omega
theorem own_p5 {x : Int32} {i : Nat} (h : x.toInt = i) (hi : i ≤ 100) : (x + (5 : Int32)).toInt = ((i + 5 : Nat) : Int) := by
  have t1 := rng32 x
  have t2 : (5 : Int32).toInt = 5 := rfl
  have t3 := rng32 (x + (5 : Int32))
  have t4 := c_iadd x (5 : Int32)
  omega
theorem own_p6 {x : Int32} {i : Nat} (h : x.toInt = i) (hi : i ≤ 100) : (x + (6 : Int32)).toInt = ((i + 6 : Nat) : Int) := by
  have t1 := rng32 x
  have t2 : (6 : Int32).toInt = 6 := rfl
  have t3 := rng32 (x + (6 : Int32))
  have t4 := c_iadd x (6 : Int32)
  omega
theorem own_p7 {x : Int32} {i : Nat} (h : x.toInt = i) (hi : i ≤ 100) : (x + (7 : Int32)).toInt = ((i + 7 : Nat) : Int) := by
  have t1 := rng32 x
  have t2 : (7 : Int32).toInt = 7 := rfl
  have t3 := rng32 (x + (7 : Int32))
  have t4 := c_iadd x (7 : Int32)
  omega
theorem own_p8 {x : Int32} {i : Nat} (h : x.toInt = i) (hi : i ≤ 100) : (x + (8 : Int32)).toInt = ((i + 8 : Nat) : Int) := by
  have t1 := rng32 x
  have t2 : (8 : Int32).toInt = 8 := rfl
  have t3 := rng32 (x + (8 : Int32))
  have t4 := c_iadd x (8 : Int32)
  omega
theorem own_p9 {x : Int32} {i : Nat} (h : x.toInt = i) (hi : i ≤ 100) : (x + (9 : Int32)).toInt = ((i + 9 : Nat) : Int) := by
  have t1 := rng32 x
  have t2 : (9 : Int32).toInt = 9 := rfl
  have t3 := rng32 (x + (9 : Int32))
  have t4 := c_iadd x (9 : Int32)
  omega
theorem own_p10 {x : Int32} {i : Nat} (h : x.toInt = i) (hi : i ≤ 100) : (x + (10 : Int32)).toInt = ((i + 10 : Nat) : Int) := by
  have t1 := rng32 x
  have t2 : (10 : Int32).toInt = 10 := rfl
  have t3 := rng32 (x + (10 : Int32))
  have t4 := c_iadd x (10 : Int32)
  omega
abbrev y3 : MethodName := ⟨"com/example/hearts_content/heartscontent/websocket/Framing", "writeLength", "([BIJI)I"⟩
theorem m3_0 : Ins1 prog_26_method_5_code 0 (.iconst 0) 1 1 := ⟨by decide +kernel, rfl⟩
theorem m3_1 : Ins1 prog_26_method_5_code 1 (.istore 5) 2 3 := ⟨by decide +kernel, rfl⟩
theorem m3_3 : Ins1 prog_26_method_5_code 3 (.iload 5) 2 5 := ⟨by decide +kernel, rfl⟩
theorem m3_5 : Ins1 prog_26_method_5_code 5 (.iload 4) 2 7 := ⟨by decide +kernel, rfl⟩
theorem m3_7 : Jmp1 prog_26_method_5_code 7 (.if_icmp .ge 29) 29 10 36 := ⟨by decide +kernel, rfl, by decide, by decide⟩
theorem m3_10 : Ins1 prog_26_method_5_code 10 (.aload_n 0) 1 11 := ⟨by decide +kernel, rfl⟩
theorem m3_11 : Ins1 prog_26_method_5_code 11 (.iload_n 1) 1 12 := ⟨by decide +kernel, rfl⟩
theorem m3_12 : Ins1 prog_26_method_5_code 12 (.iload 5) 2 14 := ⟨by decide +kernel, rfl⟩
theorem m3_14 : Ins1 prog_26_method_5_code 14 (.iadd) 1 15 := ⟨by decide +kernel, rfl⟩
theorem m3_15 : Ins1 prog_26_method_5_code 15 (.lload_n 2) 1 16 := ⟨by decide +kernel, rfl⟩
theorem m3_16 : Ins1 prog_26_method_5_code 16 (.bipush 8) 2 18 := ⟨by decide +kernel, rfl⟩
theorem m3_18 : Ins1 prog_26_method_5_code 18 (.iload 4) 2 20 := ⟨by decide +kernel, rfl⟩
theorem m3_20 : Ins1 prog_26_method_5_code 20 (.iconst 1) 1 21 := ⟨by decide +kernel, rfl⟩
theorem m3_21 : Ins1 prog_26_method_5_code 21 (.isub) 1 22 := ⟨by decide +kernel, rfl⟩
theorem m3_22 : Ins1 prog_26_method_5_code 22 (.iload 5) 2 24 := ⟨by decide +kernel, rfl⟩
theorem m3_24 : Ins1 prog_26_method_5_code 24 (.isub) 1 25 := ⟨by decide +kernel, rfl⟩
theorem m3_25 : Ins1 prog_26_method_5_code 25 (.imul) 1 26 := ⟨by decide +kernel, rfl⟩
theorem m3_26 : Ins1 prog_26_method_5_code 26 (.lushr) 1 27 := ⟨by decide +kernel, rfl⟩
theorem m3_27 : Ins1 prog_26_method_5_code 27 (.l2i) 1 28 := ⟨by decide +kernel, rfl⟩
theorem m3_28 : Ins1 prog_26_method_5_code 28 (.i2b) 1 29 := ⟨by decide +kernel, rfl⟩
theorem m3_29 : Ins1 prog_26_method_5_code 29 (.bastore) 1 30 := ⟨by decide +kernel, rfl⟩
theorem m3_30 : Ins1 prog_26_method_5_code 30 (.iinc 5 1) 3 33 := ⟨by decide +kernel, rfl⟩
theorem m3_33 : Jmp1 prog_26_method_5_code 33 (.goto (-30)) (-30) 36 3 := ⟨by decide +kernel, rfl, by decide, by decide⟩
theorem m3_36 : Ins1 prog_26_method_5_code 36 (.iload_n 1) 1 37 := ⟨by decide +kernel, rfl⟩
theorem m3_37 : Ins1 prog_26_method_5_code 37 (.iload 4) 2 39 := ⟨by decide +kernel, rfl⟩
theorem m3_39 : Ins1 prog_26_method_5_code 39 (.iadd) 1 40 := ⟨by decide +kernel, rfl⟩
theorem m3_40 : Ins1 prog_26_method_5_code 40 (.ireturn) 1 41 := ⟨by decide +kernel, rfl⟩
theorem pl3 : plainFor y3 = true := plainFor_of_name (show plainName "com/example/hearts_content/heartscontent/websocket/Framing" = true by first | (simp [plainName, overriddenIn]; done) | decide +kernel)
theorem pd3 : parseMethodDescriptor "([BIJI)I" = some ⟨[(.array .byte), .int, .long, .int], some .int⟩ := by decide +kernel
set_option maxRecDepth 65536 in
set_option maxHeartbeats 4000000 in
theorem own_wl2 (Z : State) (a0 : Array Value) (hw : ∀ d ∈ tables_1, d.before a0 Z = true) (a : Addr) (x : Int32) (q : Int64) (h : Heap) (n0 : Nat) (bs : List Int32) (p N : Nat) (A0 : Av Z h a .byte (bs.map Value.int)) (hl : bs.length = N) (hN : p + 2 ≤ N) (hN2 : N ≤ 100) (hx : x.toInt = p) (g0 : n0 ≤ a) :
    Con Z y3 prog_26_method_5_code 6 (some .int) ({ frames := 0, cells := 0, slots := 0, locals := 0 } : Room) [.ref a, .int x, .long q, .int (2 : Int32)] h n0 (fun v h' => Keep h h' [a] ∧ Av Z h' a .byte (((bs.set (p + 0) (own_by q (8 : Int32))).set (p + 1) (own_by q (0 : Int32))).map Value.int) ∧ ∃ r : Int32, v = some (.int r) ∧ r.toInt = ((p + 2 : Nat) : Int)) := by
  refine Con.of pl3 (L := [.val (.ref a), .val (.int x), .val (.long q), .second, .val (.int (2 : Int32)), .unset]) (fun m => by first | (simp [entryFrame, mkF, argsToLocals, Value.category]; done) | rfl) ?_
  intro κ Qx hQ C
  have K0 := Keep.refl h [a]
  refine W.iconst C m3_0 (z := (0 : Int32)) rfl ?_
  refine W.istore C m3_1 (L' := [.val (.ref a), .val (.int x), .val (.long q), .second, .val (.int (2 : Int32)), .val (.int (0 : Int32))]) rfl ?_
  refine W.iload C m3_3 rfl ?_
  refine W.iload C m3_5 rfl ?_
  refine W.icmpN C m3_7 (show ¬ ((2 : Int) ≤ (0 : Int)) from (by decide)) ?_
  refine W.aloadN C m3_10 rfl rfl ?_
  refine W.iloadN C m3_11 rfl ?_
  refine W.iload C m3_12 rfl ?_
  refine W.iadd C m3_14 rfl ?_
  refine W.lloadN C m3_15 rfl ?_
  refine W.bipush C m3_16 (z := (8 : Int32)) rfl ?_
  refine W.iload C m3_18 rfl ?_
  refine W.iconst C m3_20 (z := (1 : Int32)) rfl ?_
  refine W.isub C m3_21 (z := (1 : Int32)) rfl ?_
  refine W.iload C m3_22 rfl ?_
  refine W.isub C m3_24 (z := (1 : Int32)) rfl ?_
  refine W.imul C m3_25 (z := (8 : Int32)) rfl ?_
  refine W.lushr C m3_26 rfl ?_
  refine W.l2i C m3_27 rfl ?_
  refine W.i2b C m3_28 rfl ?_
  refine W.bastore C m3_29 A0 (i := (p + 0)) (own_p0 hx (by omega)) (by rw [List.length_map, hl]; omega) g0 ?_
  intro h1 W2 A3
  have K4 := K0.wr W2 (Or.inl (List.mem_of_getElem? (i := 0) rfl))
  have A6 := own_set A3
  obtain ⟨bs5, hbs5⟩ : ∃ l : List Int32, l = bs.set (p + 0) (q.toUInt64 >>> ((8 : Int32) &&& 0x3f).toInt64.toUInt64).toInt64.toInt32.toInt8.toInt32.toInt8.toInt32 := ⟨_, rfl⟩
  rw [← hbs5] at A6
  have hlbs5 : bs5.length = N := by rw [hbs5, List.length_set]; exact hl
  refine W.iinc C m3_30 rfl (z := (1 : Int32)) rfl (L' := [.val (.ref a), .val (.int x), .val (.long q), .second, .val (.int (2 : Int32)), .val (.int (1 : Int32))]) rfl ?_
  refine W.goto C m3_33 ?_
  refine W.iload C m3_3 rfl ?_
  refine W.iload C m3_5 rfl ?_
  refine W.icmpN C m3_7 (show ¬ ((2 : Int) ≤ (1 : Int)) from (by decide)) ?_
  refine W.aloadN C m3_10 rfl rfl ?_
  refine W.iloadN C m3_11 rfl ?_
  refine W.iload C m3_12 rfl ?_
  refine W.iadd C m3_14 rfl ?_
  refine W.lloadN C m3_15 rfl ?_
  refine W.bipush C m3_16 (z := (8 : Int32)) rfl ?_
  refine W.iload C m3_18 rfl ?_
  refine W.iconst C m3_20 (z := (1 : Int32)) rfl ?_
  refine W.isub C m3_21 (z := (1 : Int32)) rfl ?_
  refine W.iload C m3_22 rfl ?_
  refine W.isub C m3_24 (z := (0 : Int32)) rfl ?_
  refine W.imul C m3_25 (z := (0 : Int32)) rfl ?_
  refine W.lushr C m3_26 rfl ?_
  refine W.l2i C m3_27 rfl ?_
  refine W.i2b C m3_28 rfl ?_
  refine W.bastore C m3_29 A6 (i := (p + 1)) (own_p1 hx (by omega)) (by rw [List.length_map, hlbs5]; omega) g0 ?_
  intro h7 W8 A9
  have K10 := K4.wr W8 (Or.inl (List.mem_of_getElem? (i := 0) rfl))
  have A12 := own_set A9
  obtain ⟨bs11, hbs11⟩ : ∃ l : List Int32, l = bs5.set (p + 1) (q.toUInt64 >>> ((0 : Int32) &&& 0x3f).toInt64.toUInt64).toInt64.toInt32.toInt8.toInt32.toInt8.toInt32 := ⟨_, rfl⟩
  rw [← hbs11] at A12
  have hlbs11 : bs11.length = N := by rw [hbs11, List.length_set]; exact hlbs5
  refine W.iinc C m3_30 rfl (z := (2 : Int32)) rfl (L' := [.val (.ref a), .val (.int x), .val (.long q), .second, .val (.int (2 : Int32)), .val (.int (2 : Int32))]) rfl ?_
  refine W.goto C m3_33 ?_
  refine W.iload C m3_3 rfl ?_
  refine W.iload C m3_5 rfl ?_
  refine W.icmpY C m3_7 (show (2 : Int) ≤ (2 : Int) from (by decide)) ?_
  refine W.iloadN C m3_36 rfl ?_
  refine W.iload C m3_37 rfl ?_
  refine W.iadd C m3_39 rfl ?_
  refine W.ireturn C m3_40 (hQ _ _ ?_)
  have hfin : bs11 = ((bs.set (p + 0) (own_by q (8 : Int32))).set (p + 1) (own_by q (0 : Int32))) := by rw [hbs11, hbs5]; rfl
  rw [hfin] at A12
  exact ⟨K10, A12, _, rfl, own_p2 hx (by omega)⟩

set_option maxRecDepth 65536 in
set_option maxHeartbeats 4000000 in
theorem own_wl8 (Z : State) (a0 : Array Value) (hw : ∀ d ∈ tables_1, d.before a0 Z = true) (a : Addr) (x : Int32) (q : Int64) (h : Heap) (n0 : Nat) (bs : List Int32) (p N : Nat) (A0 : Av Z h a .byte (bs.map Value.int)) (hl : bs.length = N) (hN : p + 8 ≤ N) (hN2 : N ≤ 100) (hx : x.toInt = p) (g0 : n0 ≤ a) :
    Con Z y3 prog_26_method_5_code 6 (some .int) ({ frames := 0, cells := 0, slots := 0, locals := 0 } : Room) [.ref a, .int x, .long q, .int (8 : Int32)] h n0 (fun v h' => Keep h h' [a] ∧ Av Z h' a .byte (((((((((bs.set (p + 0) (own_by q (56 : Int32))).set (p + 1) (own_by q (48 : Int32))).set (p + 2) (own_by q (40 : Int32))).set (p + 3) (own_by q (32 : Int32))).set (p + 4) (own_by q (24 : Int32))).set (p + 5) (own_by q (16 : Int32))).set (p + 6) (own_by q (8 : Int32))).set (p + 7) (own_by q (0 : Int32))).map Value.int) ∧ ∃ r : Int32, v = some (.int r) ∧ r.toInt = ((p + 8 : Nat) : Int)) := by
  refine Con.of pl3 (L := [.val (.ref a), .val (.int x), .val (.long q), .second, .val (.int (8 : Int32)), .unset]) (fun m => by first | (simp [entryFrame, mkF, argsToLocals, Value.category]; done) | rfl) ?_
  intro κ Qx hQ C
  have K0 := Keep.refl h [a]
  refine W.iconst C m3_0 (z := (0 : Int32)) rfl ?_
  refine W.istore C m3_1 (L' := [.val (.ref a), .val (.int x), .val (.long q), .second, .val (.int (8 : Int32)), .val (.int (0 : Int32))]) rfl ?_
  refine W.iload C m3_3 rfl ?_
  refine W.iload C m3_5 rfl ?_
  refine W.icmpN C m3_7 (show ¬ ((8 : Int) ≤ (0 : Int)) from (by decide)) ?_
  refine W.aloadN C m3_10 rfl rfl ?_
  refine W.iloadN C m3_11 rfl ?_
  refine W.iload C m3_12 rfl ?_
  refine W.iadd C m3_14 rfl ?_
  refine W.lloadN C m3_15 rfl ?_
  refine W.bipush C m3_16 (z := (8 : Int32)) rfl ?_
  refine W.iload C m3_18 rfl ?_
  refine W.iconst C m3_20 (z := (1 : Int32)) rfl ?_
  refine W.isub C m3_21 (z := (7 : Int32)) rfl ?_
  refine W.iload C m3_22 rfl ?_
  refine W.isub C m3_24 (z := (7 : Int32)) rfl ?_
  refine W.imul C m3_25 (z := (56 : Int32)) rfl ?_
  refine W.lushr C m3_26 rfl ?_
  refine W.l2i C m3_27 rfl ?_
  refine W.i2b C m3_28 rfl ?_
  refine W.bastore C m3_29 A0 (i := (p + 0)) (own_p0 hx (by omega)) (by rw [List.length_map, hl]; omega) g0 ?_
  intro h1 W2 A3
  have K4 := K0.wr W2 (Or.inl (List.mem_of_getElem? (i := 0) rfl))
  have A6 := own_set A3
  obtain ⟨bs5, hbs5⟩ : ∃ l : List Int32, l = bs.set (p + 0) (q.toUInt64 >>> ((56 : Int32) &&& 0x3f).toInt64.toUInt64).toInt64.toInt32.toInt8.toInt32.toInt8.toInt32 := ⟨_, rfl⟩
  rw [← hbs5] at A6
  have hlbs5 : bs5.length = N := by rw [hbs5, List.length_set]; exact hl
  refine W.iinc C m3_30 rfl (z := (1 : Int32)) rfl (L' := [.val (.ref a), .val (.int x), .val (.long q), .second, .val (.int (8 : Int32)), .val (.int (1 : Int32))]) rfl ?_
  refine W.goto C m3_33 ?_
  refine W.iload C m3_3 rfl ?_
  refine W.iload C m3_5 rfl ?_
  refine W.icmpN C m3_7 (show ¬ ((8 : Int) ≤ (1 : Int)) from (by decide)) ?_
  refine W.aloadN C m3_10 rfl rfl ?_
  refine W.iloadN C m3_11 rfl ?_
  refine W.iload C m3_12 rfl ?_
  refine W.iadd C m3_14 rfl ?_
  refine W.lloadN C m3_15 rfl ?_
  refine W.bipush C m3_16 (z := (8 : Int32)) rfl ?_
  refine W.iload C m3_18 rfl ?_
  refine W.iconst C m3_20 (z := (1 : Int32)) rfl ?_
  refine W.isub C m3_21 (z := (7 : Int32)) rfl ?_
  refine W.iload C m3_22 rfl ?_
  refine W.isub C m3_24 (z := (6 : Int32)) rfl ?_
  refine W.imul C m3_25 (z := (48 : Int32)) rfl ?_
  refine W.lushr C m3_26 rfl ?_
  refine W.l2i C m3_27 rfl ?_
  refine W.i2b C m3_28 rfl ?_
  refine W.bastore C m3_29 A6 (i := (p + 1)) (own_p1 hx (by omega)) (by rw [List.length_map, hlbs5]; omega) g0 ?_
  intro h7 W8 A9
  have K10 := K4.wr W8 (Or.inl (List.mem_of_getElem? (i := 0) rfl))
  have A12 := own_set A9
  obtain ⟨bs11, hbs11⟩ : ∃ l : List Int32, l = bs5.set (p + 1) (q.toUInt64 >>> ((48 : Int32) &&& 0x3f).toInt64.toUInt64).toInt64.toInt32.toInt8.toInt32.toInt8.toInt32 := ⟨_, rfl⟩
  rw [← hbs11] at A12
  have hlbs11 : bs11.length = N := by rw [hbs11, List.length_set]; exact hlbs5
  refine W.iinc C m3_30 rfl (z := (2 : Int32)) rfl (L' := [.val (.ref a), .val (.int x), .val (.long q), .second, .val (.int (8 : Int32)), .val (.int (2 : Int32))]) rfl ?_
  refine W.goto C m3_33 ?_
  refine W.iload C m3_3 rfl ?_
  refine W.iload C m3_5 rfl ?_
  refine W.icmpN C m3_7 (show ¬ ((8 : Int) ≤ (2 : Int)) from (by decide)) ?_
  refine W.aloadN C m3_10 rfl rfl ?_
  refine W.iloadN C m3_11 rfl ?_
  refine W.iload C m3_12 rfl ?_
  refine W.iadd C m3_14 rfl ?_
  refine W.lloadN C m3_15 rfl ?_
  refine W.bipush C m3_16 (z := (8 : Int32)) rfl ?_
  refine W.iload C m3_18 rfl ?_
  refine W.iconst C m3_20 (z := (1 : Int32)) rfl ?_
  refine W.isub C m3_21 (z := (7 : Int32)) rfl ?_
  refine W.iload C m3_22 rfl ?_
  refine W.isub C m3_24 (z := (5 : Int32)) rfl ?_
  refine W.imul C m3_25 (z := (40 : Int32)) rfl ?_
  refine W.lushr C m3_26 rfl ?_
  refine W.l2i C m3_27 rfl ?_
  refine W.i2b C m3_28 rfl ?_
  refine W.bastore C m3_29 A12 (i := (p + 2)) (own_p2 hx (by omega)) (by rw [List.length_map, hlbs11]; omega) g0 ?_
  intro h13 W14 A15
  have K16 := K10.wr W14 (Or.inl (List.mem_of_getElem? (i := 0) rfl))
  have A18 := own_set A15
  obtain ⟨bs17, hbs17⟩ : ∃ l : List Int32, l = bs11.set (p + 2) (q.toUInt64 >>> ((40 : Int32) &&& 0x3f).toInt64.toUInt64).toInt64.toInt32.toInt8.toInt32.toInt8.toInt32 := ⟨_, rfl⟩
  rw [← hbs17] at A18
  have hlbs17 : bs17.length = N := by rw [hbs17, List.length_set]; exact hlbs11
  refine W.iinc C m3_30 rfl (z := (3 : Int32)) rfl (L' := [.val (.ref a), .val (.int x), .val (.long q), .second, .val (.int (8 : Int32)), .val (.int (3 : Int32))]) rfl ?_
  refine W.goto C m3_33 ?_
  refine W.iload C m3_3 rfl ?_
  refine W.iload C m3_5 rfl ?_
  refine W.icmpN C m3_7 (show ¬ ((8 : Int) ≤ (3 : Int)) from (by decide)) ?_
  refine W.aloadN C m3_10 rfl rfl ?_
  refine W.iloadN C m3_11 rfl ?_
  refine W.iload C m3_12 rfl ?_
  refine W.iadd C m3_14 rfl ?_
  refine W.lloadN C m3_15 rfl ?_
  refine W.bipush C m3_16 (z := (8 : Int32)) rfl ?_
  refine W.iload C m3_18 rfl ?_
  refine W.iconst C m3_20 (z := (1 : Int32)) rfl ?_
  refine W.isub C m3_21 (z := (7 : Int32)) rfl ?_
  refine W.iload C m3_22 rfl ?_
  refine W.isub C m3_24 (z := (4 : Int32)) rfl ?_
  refine W.imul C m3_25 (z := (32 : Int32)) rfl ?_
  refine W.lushr C m3_26 rfl ?_
  refine W.l2i C m3_27 rfl ?_
  refine W.i2b C m3_28 rfl ?_
  refine W.bastore C m3_29 A18 (i := (p + 3)) (own_p3 hx (by omega)) (by rw [List.length_map, hlbs17]; omega) g0 ?_
  intro h19 W20 A21
  have K22 := K16.wr W20 (Or.inl (List.mem_of_getElem? (i := 0) rfl))
  have A24 := own_set A21
  obtain ⟨bs23, hbs23⟩ : ∃ l : List Int32, l = bs17.set (p + 3) (q.toUInt64 >>> ((32 : Int32) &&& 0x3f).toInt64.toUInt64).toInt64.toInt32.toInt8.toInt32.toInt8.toInt32 := ⟨_, rfl⟩
  rw [← hbs23] at A24
  have hlbs23 : bs23.length = N := by rw [hbs23, List.length_set]; exact hlbs17
  refine W.iinc C m3_30 rfl (z := (4 : Int32)) rfl (L' := [.val (.ref a), .val (.int x), .val (.long q), .second, .val (.int (8 : Int32)), .val (.int (4 : Int32))]) rfl ?_
  refine W.goto C m3_33 ?_
  refine W.iload C m3_3 rfl ?_
  refine W.iload C m3_5 rfl ?_
  refine W.icmpN C m3_7 (show ¬ ((8 : Int) ≤ (4 : Int)) from (by decide)) ?_
  refine W.aloadN C m3_10 rfl rfl ?_
  refine W.iloadN C m3_11 rfl ?_
  refine W.iload C m3_12 rfl ?_
  refine W.iadd C m3_14 rfl ?_
  refine W.lloadN C m3_15 rfl ?_
  refine W.bipush C m3_16 (z := (8 : Int32)) rfl ?_
  refine W.iload C m3_18 rfl ?_
  refine W.iconst C m3_20 (z := (1 : Int32)) rfl ?_
  refine W.isub C m3_21 (z := (7 : Int32)) rfl ?_
  refine W.iload C m3_22 rfl ?_
  refine W.isub C m3_24 (z := (3 : Int32)) rfl ?_
  refine W.imul C m3_25 (z := (24 : Int32)) rfl ?_
  refine W.lushr C m3_26 rfl ?_
  refine W.l2i C m3_27 rfl ?_
  refine W.i2b C m3_28 rfl ?_
  refine W.bastore C m3_29 A24 (i := (p + 4)) (own_p4 hx (by omega)) (by rw [List.length_map, hlbs23]; omega) g0 ?_
  intro h25 W26 A27
  have K28 := K22.wr W26 (Or.inl (List.mem_of_getElem? (i := 0) rfl))
  have A30 := own_set A27
  obtain ⟨bs29, hbs29⟩ : ∃ l : List Int32, l = bs23.set (p + 4) (q.toUInt64 >>> ((24 : Int32) &&& 0x3f).toInt64.toUInt64).toInt64.toInt32.toInt8.toInt32.toInt8.toInt32 := ⟨_, rfl⟩
  rw [← hbs29] at A30
  have hlbs29 : bs29.length = N := by rw [hbs29, List.length_set]; exact hlbs23
  refine W.iinc C m3_30 rfl (z := (5 : Int32)) rfl (L' := [.val (.ref a), .val (.int x), .val (.long q), .second, .val (.int (8 : Int32)), .val (.int (5 : Int32))]) rfl ?_
  refine W.goto C m3_33 ?_
  refine W.iload C m3_3 rfl ?_
  refine W.iload C m3_5 rfl ?_
  refine W.icmpN C m3_7 (show ¬ ((8 : Int) ≤ (5 : Int)) from (by decide)) ?_
  refine W.aloadN C m3_10 rfl rfl ?_
  refine W.iloadN C m3_11 rfl ?_
  refine W.iload C m3_12 rfl ?_
  refine W.iadd C m3_14 rfl ?_
  refine W.lloadN C m3_15 rfl ?_
  refine W.bipush C m3_16 (z := (8 : Int32)) rfl ?_
  refine W.iload C m3_18 rfl ?_
  refine W.iconst C m3_20 (z := (1 : Int32)) rfl ?_
  refine W.isub C m3_21 (z := (7 : Int32)) rfl ?_
  refine W.iload C m3_22 rfl ?_
  refine W.isub C m3_24 (z := (2 : Int32)) rfl ?_
  refine W.imul C m3_25 (z := (16 : Int32)) rfl ?_
  refine W.lushr C m3_26 rfl ?_
  refine W.l2i C m3_27 rfl ?_
  refine W.i2b C m3_28 rfl ?_
  refine W.bastore C m3_29 A30 (i := (p + 5)) (own_p5 hx (by omega)) (by rw [List.length_map, hlbs29]; omega) g0 ?_
  intro h31 W32 A33
  have K34 := K28.wr W32 (Or.inl (List.mem_of_getElem? (i := 0) rfl))
  have A36 := own_set A33
  obtain ⟨bs35, hbs35⟩ : ∃ l : List Int32, l = bs29.set (p + 5) (q.toUInt64 >>> ((16 : Int32) &&& 0x3f).toInt64.toUInt64).toInt64.toInt32.toInt8.toInt32.toInt8.toInt32 := ⟨_, rfl⟩
  rw [← hbs35] at A36
  have hlbs35 : bs35.length = N := by rw [hbs35, List.length_set]; exact hlbs29
  refine W.iinc C m3_30 rfl (z := (6 : Int32)) rfl (L' := [.val (.ref a), .val (.int x), .val (.long q), .second, .val (.int (8 : Int32)), .val (.int (6 : Int32))]) rfl ?_
  refine W.goto C m3_33 ?_
  refine W.iload C m3_3 rfl ?_
  refine W.iload C m3_5 rfl ?_
  refine W.icmpN C m3_7 (show ¬ ((8 : Int) ≤ (6 : Int)) from (by decide)) ?_
  refine W.aloadN C m3_10 rfl rfl ?_
  refine W.iloadN C m3_11 rfl ?_
  refine W.iload C m3_12 rfl ?_
  refine W.iadd C m3_14 rfl ?_
  refine W.lloadN C m3_15 rfl ?_
  refine W.bipush C m3_16 (z := (8 : Int32)) rfl ?_
  refine W.iload C m3_18 rfl ?_
  refine W.iconst C m3_20 (z := (1 : Int32)) rfl ?_
  refine W.isub C m3_21 (z := (7 : Int32)) rfl ?_
  refine W.iload C m3_22 rfl ?_
  refine W.isub C m3_24 (z := (1 : Int32)) rfl ?_
  refine W.imul C m3_25 (z := (8 : Int32)) rfl ?_
  refine W.lushr C m3_26 rfl ?_
  refine W.l2i C m3_27 rfl ?_
  refine W.i2b C m3_28 rfl ?_
  refine W.bastore C m3_29 A36 (i := (p + 6)) (own_p6 hx (by omega)) (by rw [List.length_map, hlbs35]; omega) g0 ?_
  intro h37 W38 A39
  have K40 := K34.wr W38 (Or.inl (List.mem_of_getElem? (i := 0) rfl))
  have A42 := own_set A39
  obtain ⟨bs41, hbs41⟩ : ∃ l : List Int32, l = bs35.set (p + 6) (q.toUInt64 >>> ((8 : Int32) &&& 0x3f).toInt64.toUInt64).toInt64.toInt32.toInt8.toInt32.toInt8.toInt32 := ⟨_, rfl⟩
  rw [← hbs41] at A42
  have hlbs41 : bs41.length = N := by rw [hbs41, List.length_set]; exact hlbs35
  refine W.iinc C m3_30 rfl (z := (7 : Int32)) rfl (L' := [.val (.ref a), .val (.int x), .val (.long q), .second, .val (.int (8 : Int32)), .val (.int (7 : Int32))]) rfl ?_
  refine W.goto C m3_33 ?_
  refine W.iload C m3_3 rfl ?_
  refine W.iload C m3_5 rfl ?_
  refine W.icmpN C m3_7 (show ¬ ((8 : Int) ≤ (7 : Int)) from (by decide)) ?_
  refine W.aloadN C m3_10 rfl rfl ?_
  refine W.iloadN C m3_11 rfl ?_
  refine W.iload C m3_12 rfl ?_
  refine W.iadd C m3_14 rfl ?_
  refine W.lloadN C m3_15 rfl ?_
  refine W.bipush C m3_16 (z := (8 : Int32)) rfl ?_
  refine W.iload C m3_18 rfl ?_
  refine W.iconst C m3_20 (z := (1 : Int32)) rfl ?_
  refine W.isub C m3_21 (z := (7 : Int32)) rfl ?_
  refine W.iload C m3_22 rfl ?_
  refine W.isub C m3_24 (z := (0 : Int32)) rfl ?_
  refine W.imul C m3_25 (z := (0 : Int32)) rfl ?_
  refine W.lushr C m3_26 rfl ?_
  refine W.l2i C m3_27 rfl ?_
  refine W.i2b C m3_28 rfl ?_
  refine W.bastore C m3_29 A42 (i := (p + 7)) (own_p7 hx (by omega)) (by rw [List.length_map, hlbs41]; omega) g0 ?_
  intro h43 W44 A45
  have K46 := K40.wr W44 (Or.inl (List.mem_of_getElem? (i := 0) rfl))
  have A48 := own_set A45
  obtain ⟨bs47, hbs47⟩ : ∃ l : List Int32, l = bs41.set (p + 7) (q.toUInt64 >>> ((0 : Int32) &&& 0x3f).toInt64.toUInt64).toInt64.toInt32.toInt8.toInt32.toInt8.toInt32 := ⟨_, rfl⟩
  rw [← hbs47] at A48
  have hlbs47 : bs47.length = N := by rw [hbs47, List.length_set]; exact hlbs41
  refine W.iinc C m3_30 rfl (z := (8 : Int32)) rfl (L' := [.val (.ref a), .val (.int x), .val (.long q), .second, .val (.int (8 : Int32)), .val (.int (8 : Int32))]) rfl ?_
  refine W.goto C m3_33 ?_
  refine W.iload C m3_3 rfl ?_
  refine W.iload C m3_5 rfl ?_
  refine W.icmpY C m3_7 (show (8 : Int) ≤ (8 : Int) from (by decide)) ?_
  refine W.iloadN C m3_36 rfl ?_
  refine W.iload C m3_37 rfl ?_
  refine W.iadd C m3_39 rfl ?_
  refine W.ireturn C m3_40 (hQ _ _ ?_)
  have hfin : bs47 = ((((((((bs.set (p + 0) (own_by q (56 : Int32))).set (p + 1) (own_by q (48 : Int32))).set (p + 2) (own_by q (40 : Int32))).set (p + 3) (own_by q (32 : Int32))).set (p + 4) (own_by q (24 : Int32))).set (p + 5) (own_by q (16 : Int32))).set (p + 6) (own_by q (8 : Int32))).set (p + 7) (own_by q (0 : Int32))) := by rw [hbs47, hbs41, hbs35, hbs29, hbs23, hbs17, hbs11, hbs5]; rfl
  rw [hfin] at A48
  exact ⟨K46, A48, _, rfl, own_p8 hx (by omega)⟩
abbrev y1 : MethodName := ⟨"com/example/hearts_content/heartscontent/websocket/Framing", "writeHeader", "([BIIJZ)I"⟩
theorem m1_0 : Ins1 prog_26_method_3_code 0 (.iload_n 1) 1 1 := ⟨by decide +kernel, rfl⟩
theorem m1_1 : Ins1 prog_26_method_3_code 1 (.istore 6) 2 3 := ⟨by decide +kernel, rfl⟩
theorem m1_3 : Ins1 prog_26_method_3_code 3 (.aload_n 0) 1 4 := ⟨by decide +kernel, rfl⟩
theorem m1_4 : Ins1 prog_26_method_3_code 4 (.iload 6) 2 6 := ⟨by decide +kernel, rfl⟩
theorem m1_6 : Ins1 prog_26_method_3_code 6 (.iinc 6 1) 3 9 := ⟨by decide +kernel, rfl⟩
theorem m1_9 : Ins1 prog_26_method_3_code 9 (.sipush 128) 3 12 := ⟨by decide +kernel, rfl⟩
theorem m1_12 : Ins1 prog_26_method_3_code 12 (.iload_n 2) 1 13 := ⟨by decide +kernel, rfl⟩
theorem m1_13 : Ins1 prog_26_method_3_code 13 (.ior) 1 14 := ⟨by decide +kernel, rfl⟩
theorem m1_14 : Ins1 prog_26_method_3_code 14 (.i2b) 1 15 := ⟨by decide +kernel, rfl⟩
theorem m1_15 : Ins1 prog_26_method_3_code 15 (.bastore) 1 16 := ⟨by decide +kernel, rfl⟩
theorem m1_16 : Ins1 prog_26_method_3_code 16 (.iload 5) 2 18 := ⟨by decide +kernel, rfl⟩
theorem m1_18 : Jmp1 prog_26_method_3_code 18 (.ifCond .eq 9) 9 21 27 := ⟨by decide +kernel, rfl, by decide, by decide⟩
theorem m1_21 : Ins1 prog_26_method_3_code 21 (.sipush 128) 3 24 := ⟨by decide +kernel, rfl⟩
theorem m1_24 : Jmp1 prog_26_method_3_code 24 (.goto 4) 4 27 28 := ⟨by decide +kernel, rfl, by decide, by decide⟩
theorem m1_27 : Ins1 prog_26_method_3_code 27 (.iconst 0) 1 28 := ⟨by decide +kernel, rfl⟩
theorem m1_28 : Ins1 prog_26_method_3_code 28 (.istore 7) 2 30 := ⟨by decide +kernel, rfl⟩
theorem m1_30 : Ins1 prog_26_method_3_code 30 (.lload_n 3) 1 31 := ⟨by decide +kernel, rfl⟩
theorem m1_31 : Ins1 prog_26_method_3_code 31 (.ldc2_w 9) 3 34 := ⟨by decide +kernel, rfl⟩
theorem m1_34 : Ins1 prog_26_method_3_code 34 (.lcmp) 1 35 := ⟨by decide +kernel, rfl⟩
theorem m1_35 : Jmp1 prog_26_method_3_code 35 (.ifCond .gt 20) 20 38 55 := ⟨by decide +kernel, rfl, by decide, by decide⟩
theorem m1_38 : Ins1 prog_26_method_3_code 38 (.aload_n 0) 1 39 := ⟨by decide +kernel, rfl⟩
theorem m1_39 : Ins1 prog_26_method_3_code 39 (.iload 6) 2 41 := ⟨by decide +kernel, rfl⟩
theorem m1_41 : Ins1 prog_26_method_3_code 41 (.iinc 6 1) 3 44 := ⟨by decide +kernel, rfl⟩
theorem m1_44 : Ins1 prog_26_method_3_code 44 (.iload 7) 2 46 := ⟨by decide +kernel, rfl⟩
theorem m1_46 : Ins1 prog_26_method_3_code 46 (.i2l) 1 47 := ⟨by decide +kernel, rfl⟩
theorem m1_47 : Ins1 prog_26_method_3_code 47 (.lload_n 3) 1 48 := ⟨by decide +kernel, rfl⟩
theorem m1_48 : Ins1 prog_26_method_3_code 48 (.lor) 1 49 := ⟨by decide +kernel, rfl⟩
theorem m1_49 : Ins1 prog_26_method_3_code 49 (.l2i) 1 50 := ⟨by decide +kernel, rfl⟩
theorem m1_50 : Ins1 prog_26_method_3_code 50 (.i2b) 1 51 := ⟨by decide +kernel, rfl⟩
theorem m1_51 : Ins1 prog_26_method_3_code 51 (.bastore) 1 52 := ⟨by decide +kernel, rfl⟩
theorem m1_52 : Jmp1 prog_26_method_3_code 52 (.goto 61) 61 55 113 := ⟨by decide +kernel, rfl, by decide, by decide⟩
theorem m1_55 : Ins1 prog_26_method_3_code 55 (.lload_n 3) 1 56 := ⟨by decide +kernel, rfl⟩
theorem m1_56 : Ins1 prog_26_method_3_code 56 (.ldc2_w 11) 3 59 := ⟨by decide +kernel, rfl⟩
theorem m1_59 : Ins1 prog_26_method_3_code 59 (.lcmp) 1 60 := ⟨by decide +kernel, rfl⟩
theorem m1_60 : Jmp1 prog_26_method_3_code 60 (.ifCond .gt 29) 29 63 89 := ⟨by decide +kernel, rfl, by decide, by decide⟩
theorem m1_63 : Ins1 prog_26_method_3_code 63 (.aload_n 0) 1 64 := ⟨by decide +kernel, rfl⟩
theorem m1_64 : Ins1 prog_26_method_3_code 64 (.iload 6) 2 66 := ⟨by decide +kernel, rfl⟩
theorem m1_66 : Ins1 prog_26_method_3_code 66 (.iinc 6 1) 3 69 := ⟨by decide +kernel, rfl⟩
theorem m1_69 : Ins1 prog_26_method_3_code 69 (.iload 7) 2 71 := ⟨by decide +kernel, rfl⟩
theorem m1_71 : Ins1 prog_26_method_3_code 71 (.bipush 126) 2 73 := ⟨by decide +kernel, rfl⟩
theorem m1_73 : Ins1 prog_26_method_3_code 73 (.ior) 1 74 := ⟨by decide +kernel, rfl⟩
theorem m1_74 : Ins1 prog_26_method_3_code 74 (.i2b) 1 75 := ⟨by decide +kernel, rfl⟩
theorem m1_75 : Ins1 prog_26_method_3_code 75 (.bastore) 1 76 := ⟨by decide +kernel, rfl⟩
theorem m1_76 : Ins1 prog_26_method_3_code 76 (.aload_n 0) 1 77 := ⟨by decide +kernel, rfl⟩
theorem m1_77 : Ins1 prog_26_method_3_code 77 (.iload 6) 2 79 := ⟨by decide +kernel, rfl⟩
theorem m1_79 : Ins1 prog_26_method_3_code 79 (.lload_n 3) 1 80 := ⟨by decide +kernel, rfl⟩
theorem m1_80 : Ins1 prog_26_method_3_code 80 (.iconst 2) 1 81 := ⟨by decide +kernel, rfl⟩
theorem m1_81 : Ins1 prog_26_method_3_code 81 (.invokestatic 13) 3 84 := ⟨by decide +kernel, rfl⟩
theorem m1_84 : Ins1 prog_26_method_3_code 84 (.istore 6) 2 86 := ⟨by decide +kernel, rfl⟩
theorem m1_86 : Jmp1 prog_26_method_3_code 86 (.goto 27) 27 89 113 := ⟨by decide +kernel, rfl, by decide, by decide⟩
theorem m1_89 : Ins1 prog_26_method_3_code 89 (.aload_n 0) 1 90 := ⟨by decide +kernel, rfl⟩
theorem m1_90 : Ins1 prog_26_method_3_code 90 (.iload 6) 2 92 := ⟨by decide +kernel, rfl⟩
theorem m1_92 : Ins1 prog_26_method_3_code 92 (.iinc 6 1) 3 95 := ⟨by decide +kernel, rfl⟩
theorem m1_95 : Ins1 prog_26_method_3_code 95 (.iload 7) 2 97 := ⟨by decide +kernel, rfl⟩
theorem m1_97 : Ins1 prog_26_method_3_code 97 (.bipush 127) 2 99 := ⟨by decide +kernel, rfl⟩
theorem m1_99 : Ins1 prog_26_method_3_code 99 (.ior) 1 100 := ⟨by decide +kernel, rfl⟩
theorem m1_100 : Ins1 prog_26_method_3_code 100 (.i2b) 1 101 := ⟨by decide +kernel, rfl⟩
theorem m1_101 : Ins1 prog_26_method_3_code 101 (.bastore) 1 102 := ⟨by decide +kernel, rfl⟩
theorem m1_102 : Ins1 prog_26_method_3_code 102 (.aload_n 0) 1 103 := ⟨by decide +kernel, rfl⟩
theorem m1_103 : Ins1 prog_26_method_3_code 103 (.iload 6) 2 105 := ⟨by decide +kernel, rfl⟩
theorem m1_105 : Ins1 prog_26_method_3_code 105 (.lload_n 3) 1 106 := ⟨by decide +kernel, rfl⟩
theorem m1_106 : Ins1 prog_26_method_3_code 106 (.bipush 8) 2 108 := ⟨by decide +kernel, rfl⟩
theorem m1_108 : Ins1 prog_26_method_3_code 108 (.invokestatic 13) 3 111 := ⟨by decide +kernel, rfl⟩
theorem m1_111 : Ins1 prog_26_method_3_code 111 (.istore 6) 2 113 := ⟨by decide +kernel, rfl⟩
theorem m1_113 : Ins1 prog_26_method_3_code 113 (.iload 6) 2 115 := ⟨by decide +kernel, rfl⟩
theorem m1_115 : Ins1 prog_26_method_3_code 115 (.ireturn) 1 116 := ⟨by decide +kernel, rfl⟩
theorem pl1 : plainFor y1 = true := plainFor_of_name (show plainName "com/example/hearts_content/heartscontent/websocket/Framing" = true by first | (simp [plainName, overriddenIn]; done) | decide +kernel)
theorem pd1 : parseMethodDescriptor "([BIIJZ)I" = some ⟨[(.array .byte), .int, .int, .long, .boolean], some .int⟩ := by decide +kernel
set_option maxRecDepth 65536 in
set_option maxHeartbeats 4000000 in
theorem own_wh (Z : State) (a0 : Array Value) (hw : ∀ d ∈ tables_1, d.before a0 Z = true) (a : Addr) (x : Int32) (op : Int32) (q : Int64) (z : Int32) (bs : List Int32) (p N : Nat) (h : Heap) (n0 : Nat) (A0 : Av Z h a .byte (bs.map Value.int)) (hl : bs.length = N) (hN : p + 10 ≤ N) (hN2 : N ≤ 90) (hx : x.toInt = p) (g0 : n0 ≤ a) :
    Con Z y1 prog_26_method_3_code 8 (some .int) ({ frames := 1, cells := 0, slots := 0, locals := 17 } : Room) [(.ref a), (.int x), (.int op), (.long q), (.int z)] h n0 (fun v h' => Keep h h' [a] ∧ ∃ (mk : Int32) (cs : List Int32) (r : Int32), v = some (.int r) ∧ Av Z h' a .byte (cs.map Value.int) ∧ ((z.toInt = 0 ∧ mk.toInt = 0) ∨ (¬ z.toInt = 0 ∧ mk.toInt = 128)) ∧ ((q.toInt ≤ 125 ∧ r.toInt = ((p + 2 : Nat) : Int) ∧ cs = ((bs.set p (((128 : Int32) ||| op).toInt8.toInt32.toInt8.toInt32)).set (p + 1) ((mk.toInt64 ||| q).toInt32.toInt8.toInt32.toInt8.toInt32))) ∨ (125 < q.toInt ∧ q.toInt ≤ 65535 ∧ r.toInt = ((p + 4 : Nat) : Int) ∧ cs = ((((bs.set p (((128 : Int32) ||| op).toInt8.toInt32.toInt8.toInt32)).set (p + 1) ((mk ||| (126 : Int32)).toInt8.toInt32.toInt8.toInt32)).set ((p + 2) + 0) (own_by q (8 : Int32))).set ((p + 2) + 1) (own_by q (0 : Int32)))) ∨ (65535 < q.toInt ∧ r.toInt = ((p + 10 : Nat) : Int) ∧ cs = ((((((((((bs.set p (((128 : Int32) ||| op).toInt8.toInt32.toInt8.toInt32)).set (p + 1) ((mk ||| (127 : Int32)).toInt8.toInt32.toInt8.toInt32)).set ((p + 2) + 0) (own_by q (56 : Int32))).set ((p + 2) + 1) (own_by q (48 : Int32))).set ((p + 2) + 2) (own_by q (40 : Int32))).set ((p + 2) + 3) (own_by q (32 : Int32))).set ((p + 2) + 4) (own_by q (24 : Int32))).set ((p + 2) + 5) (own_by q (16 : Int32))).set ((p + 2) + 6) (own_by q (8 : Int32))).set ((p + 2) + 7) (own_by q (0 : Int32)))))) := by
  refine Con.of pl1 (L := [.val (.ref a), .val (.int x), .val (.int op), .val (.long q), .second, .val (.int z), .unset, .unset]) (fun m => by first | (simp [entryFrame, mkF, argsToLocals, Value.category]; done) | rfl) ?_
  intro κ Qx hQ C
  have K0 := Keep.refl h [a]
  refine W.iloadN C m1_0 rfl ?_
  refine W.istore C m1_1 (L' := [.val (.ref a), .val (.int x), .val (.int op), .val (.long q), .second, .val (.int z), .val (.int x), .unset]) rfl ?_
  refine W.aloadN C m1_3 rfl rfl ?_
  refine W.iload C m1_4 rfl ?_
  refine W.iinc C m1_6 rfl (z := (x + (1 : Int32))) rfl (L' := [.val (.ref a), .val (.int x), .val (.int op), .val (.long q), .second, .val (.int z), .val (.int (x + (1 : Int32))), .unset]) rfl ?_
  generalize hv1 : (x + (1 : Int32)) = v1
  have hxv1 : v1.toInt = ((p + 1 : Nat) : Int) := by rw [← hv1]; exact own_p1 hx (by omega)
  refine W.sipush C m1_9 (z := (128 : Int32)) rfl ?_
  refine W.iloadN C m1_12 rfl ?_
  refine W.ior C m1_13 rfl ?_
  refine W.i2b C m1_14 rfl ?_
  refine W.bastore C m1_15 A0 (i := p) hx (by rw [List.length_map, hl]; omega) g0 ?_
  intro h2 W3 A4
  have K5 := K0.wr W3 (Or.inl (List.mem_of_getElem? (i := 0) rfl))
  have A7 := own_set A4
  obtain ⟨bs6, hbs6⟩ : ∃ l : List Int32, l = bs.set p ((128 : Int32) ||| op).toInt8.toInt32.toInt8.toInt32 := ⟨_, rfl⟩
  rw [← hbs6] at A7
  have hlbs6 : bs6.length = N := by rw [hbs6, List.length_set]; exact hl
  refine W.iload C m1_16 rfl ?_
  suffices J18 : ∀ (mk : Int32), (((z.toInt = (0 : Int)) ∧ (mk.toInt = (0 : Int))) ∨ ((¬ z.toInt = (0 : Int)) ∧ (mk.toInt = (128 : Int)))) → W κ n0 Qx h2 0 0 28 [.val (.ref a), .val (.int x), .val (.int op), .val (.long q), .second, .val (.int z), .val (.int v1), .unset] [(.int mk)] by
    refine W.ifc C m1_18 ?_ ?_
    · intro (h18 : z.toInt = (0 : Int))
      refine W.iconst C m1_27 (z := (0 : Int32)) rfl ?_
      exact J18 _ (Or.inl ⟨h18, rfl⟩)
    · intro (h18 : ¬ (z.toInt = (0 : Int)))
      refine W.sipush C m1_21 (z := (128 : Int32)) rfl ?_
      refine W.goto C m1_24 ?_
      exact J18 _ (Or.inr (⟨h18, rfl⟩))
  intro mk hJ18
  refine W.istore C m1_28 (L' := [.val (.ref a), .val (.int x), .val (.int op), .val (.long q), .second, .val (.int z), .val (.int v1), .val (.int mk)]) rfl ?_
  refine W.lloadN C m1_30 rfl ?_
  refine W.ldc2 C m1_31 (hw _ (List.mem_of_getElem? (i := 6) rfl)) ?_
  refine W.lc C m1_34 m1_35 ?_ ?_
  · intro (h34 : (125 : Int) < q.toInt)
    refine W.lloadN C m1_55 rfl ?_
    refine W.ldc2 C m1_56 (hw _ (List.mem_of_getElem? (i := 12) rfl)) ?_
    refine W.lc C m1_59 m1_60 ?_ ?_
    · intro (h59 : (65535 : Int) < q.toInt)
      refine W.aloadN C m1_89 rfl rfl ?_
      refine W.iload C m1_90 rfl ?_
      refine W.iinc C m1_92 rfl (z := (v1 + (1 : Int32))) rfl (L' := [.val (.ref a), .val (.int x), .val (.int op), .val (.long q), .second, .val (.int z), .val (.int (v1 + (1 : Int32))), .val (.int mk)]) rfl ?_
      generalize hv8 : (v1 + (1 : Int32)) = v8
      have hxv8 : v8.toInt = ((p + 2 : Nat) : Int) := by rw [← hv8]; exact own_p1 hxv1 (by omega)
      refine W.iload C m1_95 rfl ?_
      refine W.bipush C m1_97 (z := (127 : Int32)) rfl ?_
      refine W.ior C m1_99 rfl ?_
      refine W.i2b C m1_100 rfl ?_
      refine W.bastore C m1_101 A7 (i := (p + 1)) hxv1 (by rw [List.length_map, hlbs6]; omega) g0 ?_
      intro h9 W10 A11
      have K12 := K5.wr W10 (Or.inl (List.mem_of_getElem? (i := 0) rfl))
      have A14 := own_set A11
      obtain ⟨bs13, hbs13⟩ : ∃ l : List Int32, l = bs6.set (p + 1) (mk ||| (127 : Int32)).toInt8.toInt32.toInt8.toInt32 := ⟨_, rfl⟩
      rw [← hbs13] at A14
      have hlbs13 : bs13.length = N := by rw [hbs13, List.length_set]; exact hlbs6
      refine W.aloadN C m1_102 rfl rfl ?_
      refine W.iload C m1_103 rfl ?_
      refine W.lloadN C m1_105 rfl ?_
      refine W.bipush C m1_106 (z := (8 : Int32)) rfl ?_
      refine W.callS (y := y3) (wt := 0) C m1_108 (hw _ (List.mem_of_getElem? (i := 13) rfl)) (hw _ (List.mem_of_getElem? (i := 14) rfl)) (hw _ (List.mem_of_getElem? (i := 4) rfl)) (hw _ (List.mem_of_getElem? (i := 15) rfl)) (by decide) pd3 rfl (own_wl8 Z a0 hw a v8 q h9 n0 bs13 (p + 2) N A14 hlbs13 (by omega) (by omega) hxv8 g0) (as' := [(.ref a), (.int v8), (.long q), (.int (8 : Int32))]) (rest := []) rfl rfl (Nat.le_of_eq rfl) (by decide) (by decide) (by decide) (by decide) ?_
      intro r20 h18 q19
      obtain ⟨K15, A16, r17, rfl, hr17⟩ := q19
      have K21 := Keep.trans K12 K15 (allS (Or.inl (List.mem_of_getElem? (i := 0) rfl)) all0)
      obtain ⟨bs22, hbs22⟩ : ∃ l : List Int32, l = ((((((((bs13.set ((p + 2) + 0) (own_by q (56 : Int32))).set ((p + 2) + 1) (own_by q (48 : Int32))).set ((p + 2) + 2) (own_by q (40 : Int32))).set ((p + 2) + 3) (own_by q (32 : Int32))).set ((p + 2) + 4) (own_by q (24 : Int32))).set ((p + 2) + 5) (own_by q (16 : Int32))).set ((p + 2) + 6) (own_by q (8 : Int32))).set ((p + 2) + 7) (own_by q (0 : Int32))) := ⟨_, rfl⟩
      rw [← hbs22] at A16
      show W κ n0 Qx h18 0 0 111 [.val (.ref a), .val (.int x), .val (.int op), .val (.long q), .second, .val (.int z), .val (.int v8), .val (.int mk)] [(.int r17)]
      refine W.istore C m1_111 (L' := [.val (.ref a), .val (.int x), .val (.int op), .val (.long q), .second, .val (.int z), .val (.int r17), .val (.int mk)]) rfl ?_
      refine W.iload C m1_113 rfl ?_
      refine W.ireturn C m1_115 (hQ _ _ ?_)
      have hfin : bs22 = ((((((((((bs.set p (((128 : Int32) ||| op).toInt8.toInt32.toInt8.toInt32)).set (p + 1) ((mk ||| (127 : Int32)).toInt8.toInt32.toInt8.toInt32)).set ((p + 2) + 0) (own_by q (56 : Int32))).set ((p + 2) + 1) (own_by q (48 : Int32))).set ((p + 2) + 2) (own_by q (40 : Int32))).set ((p + 2) + 3) (own_by q (32 : Int32))).set ((p + 2) + 4) (own_by q (24 : Int32))).set ((p + 2) + 5) (own_by q (16 : Int32))).set ((p + 2) + 6) (own_by q (8 : Int32))).set ((p + 2) + 7) (own_by q (0 : Int32))) := by rw [hbs22, hbs13, hbs6]
      exact ⟨K21, mk, _, _, rfl, A16, hJ18, Or.inr (Or.inr ⟨by omega, by omega, hfin⟩)⟩
    · intro (h59 : ¬ ((65535 : Int) < q.toInt))
      replace h59 : q.toInt ≤ (65535 : Int) := by omega
      refine W.aloadN C m1_63 rfl rfl ?_
      refine W.iload C m1_64 rfl ?_
      refine W.iinc C m1_66 rfl (z := (v1 + (1 : Int32))) rfl (L' := [.val (.ref a), .val (.int x), .val (.int op), .val (.long q), .second, .val (.int z), .val (.int (v1 + (1 : Int32))), .val (.int mk)]) rfl ?_
      generalize hv8 : (v1 + (1 : Int32)) = v8
      have hxv8 : v8.toInt = ((p + 2 : Nat) : Int) := by rw [← hv8]; exact own_p1 hxv1 (by omega)
      refine W.iload C m1_69 rfl ?_
      refine W.bipush C m1_71 (z := (126 : Int32)) rfl ?_
      refine W.ior C m1_73 rfl ?_
      refine W.i2b C m1_74 rfl ?_
      refine W.bastore C m1_75 A7 (i := (p + 1)) hxv1 (by rw [List.length_map, hlbs6]; omega) g0 ?_
      intro h9 W10 A11
      have K12 := K5.wr W10 (Or.inl (List.mem_of_getElem? (i := 0) rfl))
      have A14 := own_set A11
      obtain ⟨bs13, hbs13⟩ : ∃ l : List Int32, l = bs6.set (p + 1) (mk ||| (126 : Int32)).toInt8.toInt32.toInt8.toInt32 := ⟨_, rfl⟩
      rw [← hbs13] at A14
      have hlbs13 : bs13.length = N := by rw [hbs13, List.length_set]; exact hlbs6
      refine W.aloadN C m1_76 rfl rfl ?_
      refine W.iload C m1_77 rfl ?_
      refine W.lloadN C m1_79 rfl ?_
      refine W.iconst C m1_80 (z := (2 : Int32)) rfl ?_
      refine W.callS (y := y3) (wt := 0) C m1_81 (hw _ (List.mem_of_getElem? (i := 13) rfl)) (hw _ (List.mem_of_getElem? (i := 14) rfl)) (hw _ (List.mem_of_getElem? (i := 4) rfl)) (hw _ (List.mem_of_getElem? (i := 15) rfl)) (by decide) pd3 rfl (own_wl2 Z a0 hw a v8 q h9 n0 bs13 (p + 2) N A14 hlbs13 (by omega) (by omega) hxv8 g0) (as' := [(.ref a), (.int v8), (.long q), (.int (2 : Int32))]) (rest := []) rfl rfl (Nat.le_of_eq rfl) (by decide) (by decide) (by decide) (by decide) ?_
      intro r20 h18 q19
      obtain ⟨K15, A16, r17, rfl, hr17⟩ := q19
      have K21 := Keep.trans K12 K15 (allS (Or.inl (List.mem_of_getElem? (i := 0) rfl)) all0)
      obtain ⟨bs22, hbs22⟩ : ∃ l : List Int32, l = ((bs13.set ((p + 2) + 0) (own_by q (8 : Int32))).set ((p + 2) + 1) (own_by q (0 : Int32))) := ⟨_, rfl⟩
      rw [← hbs22] at A16
      show W κ n0 Qx h18 0 0 84 [.val (.ref a), .val (.int x), .val (.int op), .val (.long q), .second, .val (.int z), .val (.int v8), .val (.int mk)] [(.int r17)]
      refine W.istore C m1_84 (L' := [.val (.ref a), .val (.int x), .val (.int op), .val (.long q), .second, .val (.int z), .val (.int r17), .val (.int mk)]) rfl ?_
      refine W.goto C m1_86 ?_
      refine W.iload C m1_113 rfl ?_
      refine W.ireturn C m1_115 (hQ _ _ ?_)
      have hfin : bs22 = ((((bs.set p (((128 : Int32) ||| op).toInt8.toInt32.toInt8.toInt32)).set (p + 1) ((mk ||| (126 : Int32)).toInt8.toInt32.toInt8.toInt32)).set ((p + 2) + 0) (own_by q (8 : Int32))).set ((p + 2) + 1) (own_by q (0 : Int32))) := by rw [hbs22, hbs13, hbs6]
      exact ⟨K21, mk, _, _, rfl, A16, hJ18, Or.inr (Or.inl ⟨by omega, by omega, by omega, hfin⟩)⟩
  · intro (h34 : ¬ ((125 : Int) < q.toInt))
    replace h34 : q.toInt ≤ (125 : Int) := by omega
    refine W.aloadN C m1_38 rfl rfl ?_
    refine W.iload C m1_39 rfl ?_
    refine W.iinc C m1_41 rfl (z := (v1 + (1 : Int32))) rfl (L' := [.val (.ref a), .val (.int x), .val (.int op), .val (.long q), .second, .val (.int z), .val (.int (v1 + (1 : Int32))), .val (.int mk)]) rfl ?_
    generalize hv8 : (v1 + (1 : Int32)) = v8
    have hxv8 : v8.toInt = ((p + 2 : Nat) : Int) := by rw [← hv8]; exact own_p1 hxv1 (by omega)
    refine W.iload C m1_44 rfl ?_
    refine W.i2l C m1_46 rfl ?_
    refine W.lloadN C m1_47 rfl ?_
    refine W.lor C m1_48 rfl ?_
    refine W.l2i C m1_49 rfl ?_
    refine W.i2b C m1_50 rfl ?_
    refine W.bastore C m1_51 A7 (i := (p + 1)) hxv1 (by rw [List.length_map, hlbs6]; omega) g0 ?_
    intro h9 W10 A11
    have K12 := K5.wr W10 (Or.inl (List.mem_of_getElem? (i := 0) rfl))
    have A14 := own_set A11
    obtain ⟨bs13, hbs13⟩ : ∃ l : List Int32, l = bs6.set (p + 1) (mk.toInt64 ||| q).toInt32.toInt8.toInt32.toInt8.toInt32 := ⟨_, rfl⟩
    rw [← hbs13] at A14
    have hlbs13 : bs13.length = N := by rw [hbs13, List.length_set]; exact hlbs6
    refine W.goto C m1_52 ?_
    refine W.iload C m1_113 rfl ?_
    refine W.ireturn C m1_115 (hQ _ _ ?_)
    have hfin : bs13 = ((bs.set p (((128 : Int32) ||| op).toInt8.toInt32.toInt8.toInt32)).set (p + 1) ((mk.toInt64 ||| q).toInt32.toInt8.toInt32.toInt8.toInt32)) := by rw [hbs13, hbs6]
    exact ⟨K12, mk, _, _, rfl, A14, hJ18, Or.inl ⟨by omega, by omega, hfin⟩⟩
abbrev y2 : MethodName := ⟨"com/example/hearts_content/heartscontent/websocket/FramingWriteHeaderPinLaw", "same", "([B[B)Z"⟩
theorem m2_0 : Ins1 method_3_code 0 (.aload_n 0) 1 1 := ⟨by decide +kernel, rfl⟩
theorem m2_1 : Ins1 method_3_code 1 (.iconst 0) 1 2 := ⟨by decide +kernel, rfl⟩
theorem m2_2 : Ins1 method_3_code 2 (.baload) 1 3 := ⟨by decide +kernel, rfl⟩
theorem m2_3 : Ins1 method_3_code 3 (.aload_n 1) 1 4 := ⟨by decide +kernel, rfl⟩
theorem m2_4 : Ins1 method_3_code 4 (.iconst 0) 1 5 := ⟨by decide +kernel, rfl⟩
theorem m2_5 : Ins1 method_3_code 5 (.baload) 1 6 := ⟨by decide +kernel, rfl⟩
theorem m2_6 : Jmp1 method_3_code 6 (.if_icmp .ne 162) 162 9 168 := ⟨by decide +kernel, rfl, by decide, by decide⟩
theorem m2_9 : Ins1 method_3_code 9 (.aload_n 0) 1 10 := ⟨by decide +kernel, rfl⟩
theorem m2_10 : Ins1 method_3_code 10 (.iconst 1) 1 11 := ⟨by decide +kernel, rfl⟩
theorem m2_11 : Ins1 method_3_code 11 (.baload) 1 12 := ⟨by decide +kernel, rfl⟩
theorem m2_12 : Ins1 method_3_code 12 (.aload_n 1) 1 13 := ⟨by decide +kernel, rfl⟩
theorem m2_13 : Ins1 method_3_code 13 (.iconst 1) 1 14 := ⟨by decide +kernel, rfl⟩
theorem m2_14 : Ins1 method_3_code 14 (.baload) 1 15 := ⟨by decide +kernel, rfl⟩
theorem m2_15 : Jmp1 method_3_code 15 (.if_icmp .ne 153) 153 18 168 := ⟨by decide +kernel, rfl, by decide, by decide⟩
theorem m2_18 : Ins1 method_3_code 18 (.aload_n 0) 1 19 := ⟨by decide +kernel, rfl⟩
theorem m2_19 : Ins1 method_3_code 19 (.iconst 2) 1 20 := ⟨by decide +kernel, rfl⟩
theorem m2_20 : Ins1 method_3_code 20 (.baload) 1 21 := ⟨by decide +kernel, rfl⟩
theorem m2_21 : Ins1 method_3_code 21 (.aload_n 1) 1 22 := ⟨by decide +kernel, rfl⟩
theorem m2_22 : Ins1 method_3_code 22 (.iconst 2) 1 23 := ⟨by decide +kernel, rfl⟩
theorem m2_23 : Ins1 method_3_code 23 (.baload) 1 24 := ⟨by decide +kernel, rfl⟩
theorem m2_24 : Jmp1 method_3_code 24 (.if_icmp .ne 144) 144 27 168 := ⟨by decide +kernel, rfl, by decide, by decide⟩
theorem m2_27 : Ins1 method_3_code 27 (.aload_n 0) 1 28 := ⟨by decide +kernel, rfl⟩
theorem m2_28 : Ins1 method_3_code 28 (.iconst 3) 1 29 := ⟨by decide +kernel, rfl⟩
theorem m2_29 : Ins1 method_3_code 29 (.baload) 1 30 := ⟨by decide +kernel, rfl⟩
theorem m2_30 : Ins1 method_3_code 30 (.aload_n 1) 1 31 := ⟨by decide +kernel, rfl⟩
theorem m2_31 : Ins1 method_3_code 31 (.iconst 3) 1 32 := ⟨by decide +kernel, rfl⟩
theorem m2_32 : Ins1 method_3_code 32 (.baload) 1 33 := ⟨by decide +kernel, rfl⟩
theorem m2_33 : Jmp1 method_3_code 33 (.if_icmp .ne 135) 135 36 168 := ⟨by decide +kernel, rfl, by decide, by decide⟩
theorem m2_36 : Ins1 method_3_code 36 (.aload_n 0) 1 37 := ⟨by decide +kernel, rfl⟩
theorem m2_37 : Ins1 method_3_code 37 (.iconst 4) 1 38 := ⟨by decide +kernel, rfl⟩
theorem m2_38 : Ins1 method_3_code 38 (.baload) 1 39 := ⟨by decide +kernel, rfl⟩
theorem m2_39 : Ins1 method_3_code 39 (.aload_n 1) 1 40 := ⟨by decide +kernel, rfl⟩
theorem m2_40 : Ins1 method_3_code 40 (.iconst 4) 1 41 := ⟨by decide +kernel, rfl⟩
theorem m2_41 : Ins1 method_3_code 41 (.baload) 1 42 := ⟨by decide +kernel, rfl⟩
theorem m2_42 : Jmp1 method_3_code 42 (.if_icmp .ne 126) 126 45 168 := ⟨by decide +kernel, rfl, by decide, by decide⟩
theorem m2_45 : Ins1 method_3_code 45 (.aload_n 0) 1 46 := ⟨by decide +kernel, rfl⟩
theorem m2_46 : Ins1 method_3_code 46 (.iconst 5) 1 47 := ⟨by decide +kernel, rfl⟩
theorem m2_47 : Ins1 method_3_code 47 (.baload) 1 48 := ⟨by decide +kernel, rfl⟩
theorem m2_48 : Ins1 method_3_code 48 (.aload_n 1) 1 49 := ⟨by decide +kernel, rfl⟩
theorem m2_49 : Ins1 method_3_code 49 (.iconst 5) 1 50 := ⟨by decide +kernel, rfl⟩
theorem m2_50 : Ins1 method_3_code 50 (.baload) 1 51 := ⟨by decide +kernel, rfl⟩
theorem m2_51 : Jmp1 method_3_code 51 (.if_icmp .ne 117) 117 54 168 := ⟨by decide +kernel, rfl, by decide, by decide⟩
theorem m2_54 : Ins1 method_3_code 54 (.aload_n 0) 1 55 := ⟨by decide +kernel, rfl⟩
theorem m2_55 : Ins1 method_3_code 55 (.bipush 6) 2 57 := ⟨by decide +kernel, rfl⟩
theorem m2_57 : Ins1 method_3_code 57 (.baload) 1 58 := ⟨by decide +kernel, rfl⟩
theorem m2_58 : Ins1 method_3_code 58 (.aload_n 1) 1 59 := ⟨by decide +kernel, rfl⟩
theorem m2_59 : Ins1 method_3_code 59 (.bipush 6) 2 61 := ⟨by decide +kernel, rfl⟩
theorem m2_61 : Ins1 method_3_code 61 (.baload) 1 62 := ⟨by decide +kernel, rfl⟩
theorem m2_62 : Jmp1 method_3_code 62 (.if_icmp .ne 106) 106 65 168 := ⟨by decide +kernel, rfl, by decide, by decide⟩
theorem m2_65 : Ins1 method_3_code 65 (.aload_n 0) 1 66 := ⟨by decide +kernel, rfl⟩
theorem m2_66 : Ins1 method_3_code 66 (.bipush 7) 2 68 := ⟨by decide +kernel, rfl⟩
theorem m2_68 : Ins1 method_3_code 68 (.baload) 1 69 := ⟨by decide +kernel, rfl⟩
theorem m2_69 : Ins1 method_3_code 69 (.aload_n 1) 1 70 := ⟨by decide +kernel, rfl⟩
theorem m2_70 : Ins1 method_3_code 70 (.bipush 7) 2 72 := ⟨by decide +kernel, rfl⟩
theorem m2_72 : Ins1 method_3_code 72 (.baload) 1 73 := ⟨by decide +kernel, rfl⟩
theorem m2_73 : Jmp1 method_3_code 73 (.if_icmp .ne 95) 95 76 168 := ⟨by decide +kernel, rfl, by decide, by decide⟩
theorem m2_76 : Ins1 method_3_code 76 (.aload_n 0) 1 77 := ⟨by decide +kernel, rfl⟩
theorem m2_77 : Ins1 method_3_code 77 (.bipush 8) 2 79 := ⟨by decide +kernel, rfl⟩
theorem m2_79 : Ins1 method_3_code 79 (.baload) 1 80 := ⟨by decide +kernel, rfl⟩
theorem m2_80 : Ins1 method_3_code 80 (.aload_n 1) 1 81 := ⟨by decide +kernel, rfl⟩
theorem m2_81 : Ins1 method_3_code 81 (.bipush 8) 2 83 := ⟨by decide +kernel, rfl⟩
theorem m2_83 : Ins1 method_3_code 83 (.baload) 1 84 := ⟨by decide +kernel, rfl⟩
theorem m2_84 : Jmp1 method_3_code 84 (.if_icmp .ne 84) 84 87 168 := ⟨by decide +kernel, rfl, by decide, by decide⟩
theorem m2_87 : Ins1 method_3_code 87 (.aload_n 0) 1 88 := ⟨by decide +kernel, rfl⟩
theorem m2_88 : Ins1 method_3_code 88 (.bipush 9) 2 90 := ⟨by decide +kernel, rfl⟩
theorem m2_90 : Ins1 method_3_code 90 (.baload) 1 91 := ⟨by decide +kernel, rfl⟩
theorem m2_91 : Ins1 method_3_code 91 (.aload_n 1) 1 92 := ⟨by decide +kernel, rfl⟩
theorem m2_92 : Ins1 method_3_code 92 (.bipush 9) 2 94 := ⟨by decide +kernel, rfl⟩
theorem m2_94 : Ins1 method_3_code 94 (.baload) 1 95 := ⟨by decide +kernel, rfl⟩
theorem m2_95 : Jmp1 method_3_code 95 (.if_icmp .ne 73) 73 98 168 := ⟨by decide +kernel, rfl, by decide, by decide⟩
theorem m2_98 : Ins1 method_3_code 98 (.aload_n 0) 1 99 := ⟨by decide +kernel, rfl⟩
theorem m2_99 : Ins1 method_3_code 99 (.bipush 10) 2 101 := ⟨by decide +kernel, rfl⟩
theorem m2_101 : Ins1 method_3_code 101 (.baload) 1 102 := ⟨by decide +kernel, rfl⟩
theorem m2_102 : Ins1 method_3_code 102 (.aload_n 1) 1 103 := ⟨by decide +kernel, rfl⟩
theorem m2_103 : Ins1 method_3_code 103 (.bipush 10) 2 105 := ⟨by decide +kernel, rfl⟩
theorem m2_105 : Ins1 method_3_code 105 (.baload) 1 106 := ⟨by decide +kernel, rfl⟩
theorem m2_106 : Jmp1 method_3_code 106 (.if_icmp .ne 62) 62 109 168 := ⟨by decide +kernel, rfl, by decide, by decide⟩
theorem m2_109 : Ins1 method_3_code 109 (.aload_n 0) 1 110 := ⟨by decide +kernel, rfl⟩
theorem m2_110 : Ins1 method_3_code 110 (.bipush 11) 2 112 := ⟨by decide +kernel, rfl⟩
theorem m2_112 : Ins1 method_3_code 112 (.baload) 1 113 := ⟨by decide +kernel, rfl⟩
theorem m2_113 : Ins1 method_3_code 113 (.aload_n 1) 1 114 := ⟨by decide +kernel, rfl⟩
theorem m2_114 : Ins1 method_3_code 114 (.bipush 11) 2 116 := ⟨by decide +kernel, rfl⟩
theorem m2_116 : Ins1 method_3_code 116 (.baload) 1 117 := ⟨by decide +kernel, rfl⟩
theorem m2_117 : Jmp1 method_3_code 117 (.if_icmp .ne 51) 51 120 168 := ⟨by decide +kernel, rfl, by decide, by decide⟩
theorem m2_120 : Ins1 method_3_code 120 (.aload_n 0) 1 121 := ⟨by decide +kernel, rfl⟩
theorem m2_121 : Ins1 method_3_code 121 (.bipush 12) 2 123 := ⟨by decide +kernel, rfl⟩
theorem m2_123 : Ins1 method_3_code 123 (.baload) 1 124 := ⟨by decide +kernel, rfl⟩
theorem m2_124 : Ins1 method_3_code 124 (.aload_n 1) 1 125 := ⟨by decide +kernel, rfl⟩
theorem m2_125 : Ins1 method_3_code 125 (.bipush 12) 2 127 := ⟨by decide +kernel, rfl⟩
theorem m2_127 : Ins1 method_3_code 127 (.baload) 1 128 := ⟨by decide +kernel, rfl⟩
theorem m2_128 : Jmp1 method_3_code 128 (.if_icmp .ne 40) 40 131 168 := ⟨by decide +kernel, rfl, by decide, by decide⟩
theorem m2_131 : Ins1 method_3_code 131 (.aload_n 0) 1 132 := ⟨by decide +kernel, rfl⟩
theorem m2_132 : Ins1 method_3_code 132 (.bipush 13) 2 134 := ⟨by decide +kernel, rfl⟩
theorem m2_134 : Ins1 method_3_code 134 (.baload) 1 135 := ⟨by decide +kernel, rfl⟩
theorem m2_135 : Ins1 method_3_code 135 (.aload_n 1) 1 136 := ⟨by decide +kernel, rfl⟩
theorem m2_136 : Ins1 method_3_code 136 (.bipush 13) 2 138 := ⟨by decide +kernel, rfl⟩
theorem m2_138 : Ins1 method_3_code 138 (.baload) 1 139 := ⟨by decide +kernel, rfl⟩
theorem m2_139 : Jmp1 method_3_code 139 (.if_icmp .ne 29) 29 142 168 := ⟨by decide +kernel, rfl, by decide, by decide⟩
theorem m2_142 : Ins1 method_3_code 142 (.aload_n 0) 1 143 := ⟨by decide +kernel, rfl⟩
theorem m2_143 : Ins1 method_3_code 143 (.bipush 14) 2 145 := ⟨by decide +kernel, rfl⟩
theorem m2_145 : Ins1 method_3_code 145 (.baload) 1 146 := ⟨by decide +kernel, rfl⟩
theorem m2_146 : Ins1 method_3_code 146 (.aload_n 1) 1 147 := ⟨by decide +kernel, rfl⟩
theorem m2_147 : Ins1 method_3_code 147 (.bipush 14) 2 149 := ⟨by decide +kernel, rfl⟩
theorem m2_149 : Ins1 method_3_code 149 (.baload) 1 150 := ⟨by decide +kernel, rfl⟩
theorem m2_150 : Jmp1 method_3_code 150 (.if_icmp .ne 18) 18 153 168 := ⟨by decide +kernel, rfl, by decide, by decide⟩
theorem m2_153 : Ins1 method_3_code 153 (.aload_n 0) 1 154 := ⟨by decide +kernel, rfl⟩
theorem m2_154 : Ins1 method_3_code 154 (.bipush 15) 2 156 := ⟨by decide +kernel, rfl⟩
theorem m2_156 : Ins1 method_3_code 156 (.baload) 1 157 := ⟨by decide +kernel, rfl⟩
theorem m2_157 : Ins1 method_3_code 157 (.aload_n 1) 1 158 := ⟨by decide +kernel, rfl⟩
theorem m2_158 : Ins1 method_3_code 158 (.bipush 15) 2 160 := ⟨by decide +kernel, rfl⟩
theorem m2_160 : Ins1 method_3_code 160 (.baload) 1 161 := ⟨by decide +kernel, rfl⟩
theorem m2_161 : Jmp1 method_3_code 161 (.if_icmp .ne 7) 7 164 168 := ⟨by decide +kernel, rfl, by decide, by decide⟩
theorem m2_164 : Ins1 method_3_code 164 (.iconst 1) 1 165 := ⟨by decide +kernel, rfl⟩
theorem m2_165 : Jmp1 method_3_code 165 (.goto 4) 4 168 169 := ⟨by decide +kernel, rfl, by decide, by decide⟩
theorem m2_169 : Ins1 method_3_code 169 (.ireturn) 1 170 := ⟨by decide +kernel, rfl⟩
theorem pl2 : plainFor y2 = true := plainFor_of_name (show plainName "com/example/hearts_content/heartscontent/websocket/FramingWriteHeaderPinLaw" = true by first | (simp [plainName, overriddenIn]; done) | decide +kernel)
theorem pd2 : parseMethodDescriptor "([B[B)Z" = some ⟨[(.array .byte), (.array .byte)], some .boolean⟩ := by decide +kernel
set_option maxRecDepth 65536 in
set_option maxHeartbeats 4000000 in
theorem own_same (Z : State) (a0 : Array Value) (hw : ∀ d ∈ tables_1, d.before a0 Z = true) (a : Addr) (b : Addr) (bs : List Int32) (h : Heap) (n0 : Nat) (A0 : Av Z h a .byte (bs.map Value.int)) (A1 : Av Z h b .byte (bs.map Value.int)) (hl : bs.length = 16) :
    Con Z y2 method_3_code 2 (some .boolean) ({ frames := 0, cells := 0, slots := 0, locals := 0 } : Room) [(.ref a), (.ref b)] h n0 (fun v h' => h = h' ∧ v = some (.int 1)) := by
  refine Con.of pl2 (L := [.val (.ref a), .val (.ref b)]) (fun m => by first | (simp [entryFrame, mkF, argsToLocals, Value.category]; done) | rfl) ?_
  intro κ Qx hQ C
  refine W.aloadN C m2_0 rfl rfl ?_
  refine W.iconst C m2_1 (z := (0 : Int32)) rfl ?_
  refine W.baload C m2_2 A0 (i := 0) rfl (own_get (by omega)) ?_
  refine W.aloadN C m2_3 rfl rfl ?_
  refine W.iconst C m2_4 (z := (0 : Int32)) rfl ?_
  refine W.baload C m2_5 A1 (i := 0) rfl (own_get (by omega)) ?_
  refine W.icmpN C m2_6 (show ¬ ¬ ((bs.getD 0 0)).toInt = ((bs.getD 0 0)).toInt from (fun q => q rfl)) ?_
  refine W.aloadN C m2_9 rfl rfl ?_
  refine W.iconst C m2_10 (z := (1 : Int32)) rfl ?_
  refine W.baload C m2_11 A0 (i := 1) rfl (own_get (by omega)) ?_
  refine W.aloadN C m2_12 rfl rfl ?_
  refine W.iconst C m2_13 (z := (1 : Int32)) rfl ?_
  refine W.baload C m2_14 A1 (i := 1) rfl (own_get (by omega)) ?_
  refine W.icmpN C m2_15 (show ¬ ¬ ((bs.getD 1 0)).toInt = ((bs.getD 1 0)).toInt from (fun q => q rfl)) ?_
  refine W.aloadN C m2_18 rfl rfl ?_
  refine W.iconst C m2_19 (z := (2 : Int32)) rfl ?_
  refine W.baload C m2_20 A0 (i := 2) rfl (own_get (by omega)) ?_
  refine W.aloadN C m2_21 rfl rfl ?_
  refine W.iconst C m2_22 (z := (2 : Int32)) rfl ?_
  refine W.baload C m2_23 A1 (i := 2) rfl (own_get (by omega)) ?_
  refine W.icmpN C m2_24 (show ¬ ¬ ((bs.getD 2 0)).toInt = ((bs.getD 2 0)).toInt from (fun q => q rfl)) ?_
  refine W.aloadN C m2_27 rfl rfl ?_
  refine W.iconst C m2_28 (z := (3 : Int32)) rfl ?_
  refine W.baload C m2_29 A0 (i := 3) rfl (own_get (by omega)) ?_
  refine W.aloadN C m2_30 rfl rfl ?_
  refine W.iconst C m2_31 (z := (3 : Int32)) rfl ?_
  refine W.baload C m2_32 A1 (i := 3) rfl (own_get (by omega)) ?_
  refine W.icmpN C m2_33 (show ¬ ¬ ((bs.getD 3 0)).toInt = ((bs.getD 3 0)).toInt from (fun q => q rfl)) ?_
  refine W.aloadN C m2_36 rfl rfl ?_
  refine W.iconst C m2_37 (z := (4 : Int32)) rfl ?_
  refine W.baload C m2_38 A0 (i := 4) rfl (own_get (by omega)) ?_
  refine W.aloadN C m2_39 rfl rfl ?_
  refine W.iconst C m2_40 (z := (4 : Int32)) rfl ?_
  refine W.baload C m2_41 A1 (i := 4) rfl (own_get (by omega)) ?_
  refine W.icmpN C m2_42 (show ¬ ¬ ((bs.getD 4 0)).toInt = ((bs.getD 4 0)).toInt from (fun q => q rfl)) ?_
  refine W.aloadN C m2_45 rfl rfl ?_
  refine W.iconst C m2_46 (z := (5 : Int32)) rfl ?_
  refine W.baload C m2_47 A0 (i := 5) rfl (own_get (by omega)) ?_
  refine W.aloadN C m2_48 rfl rfl ?_
  refine W.iconst C m2_49 (z := (5 : Int32)) rfl ?_
  refine W.baload C m2_50 A1 (i := 5) rfl (own_get (by omega)) ?_
  refine W.icmpN C m2_51 (show ¬ ¬ ((bs.getD 5 0)).toInt = ((bs.getD 5 0)).toInt from (fun q => q rfl)) ?_
  refine W.aloadN C m2_54 rfl rfl ?_
  refine W.bipush C m2_55 (z := (6 : Int32)) rfl ?_
  refine W.baload C m2_57 A0 (i := 6) rfl (own_get (by omega)) ?_
  refine W.aloadN C m2_58 rfl rfl ?_
  refine W.bipush C m2_59 (z := (6 : Int32)) rfl ?_
  refine W.baload C m2_61 A1 (i := 6) rfl (own_get (by omega)) ?_
  refine W.icmpN C m2_62 (show ¬ ¬ ((bs.getD 6 0)).toInt = ((bs.getD 6 0)).toInt from (fun q => q rfl)) ?_
  refine W.aloadN C m2_65 rfl rfl ?_
  refine W.bipush C m2_66 (z := (7 : Int32)) rfl ?_
  refine W.baload C m2_68 A0 (i := 7) rfl (own_get (by omega)) ?_
  refine W.aloadN C m2_69 rfl rfl ?_
  refine W.bipush C m2_70 (z := (7 : Int32)) rfl ?_
  refine W.baload C m2_72 A1 (i := 7) rfl (own_get (by omega)) ?_
  refine W.icmpN C m2_73 (show ¬ ¬ ((bs.getD 7 0)).toInt = ((bs.getD 7 0)).toInt from (fun q => q rfl)) ?_
  refine W.aloadN C m2_76 rfl rfl ?_
  refine W.bipush C m2_77 (z := (8 : Int32)) rfl ?_
  refine W.baload C m2_79 A0 (i := 8) rfl (own_get (by omega)) ?_
  refine W.aloadN C m2_80 rfl rfl ?_
  refine W.bipush C m2_81 (z := (8 : Int32)) rfl ?_
  refine W.baload C m2_83 A1 (i := 8) rfl (own_get (by omega)) ?_
  refine W.icmpN C m2_84 (show ¬ ¬ ((bs.getD 8 0)).toInt = ((bs.getD 8 0)).toInt from (fun q => q rfl)) ?_
  refine W.aloadN C m2_87 rfl rfl ?_
  refine W.bipush C m2_88 (z := (9 : Int32)) rfl ?_
  refine W.baload C m2_90 A0 (i := 9) rfl (own_get (by omega)) ?_
  refine W.aloadN C m2_91 rfl rfl ?_
  refine W.bipush C m2_92 (z := (9 : Int32)) rfl ?_
  refine W.baload C m2_94 A1 (i := 9) rfl (own_get (by omega)) ?_
  refine W.icmpN C m2_95 (show ¬ ¬ ((bs.getD 9 0)).toInt = ((bs.getD 9 0)).toInt from (fun q => q rfl)) ?_
  refine W.aloadN C m2_98 rfl rfl ?_
  refine W.bipush C m2_99 (z := (10 : Int32)) rfl ?_
  refine W.baload C m2_101 A0 (i := 10) rfl (own_get (by omega)) ?_
  refine W.aloadN C m2_102 rfl rfl ?_
  refine W.bipush C m2_103 (z := (10 : Int32)) rfl ?_
  refine W.baload C m2_105 A1 (i := 10) rfl (own_get (by omega)) ?_
  refine W.icmpN C m2_106 (show ¬ ¬ ((bs.getD 10 0)).toInt = ((bs.getD 10 0)).toInt from (fun q => q rfl)) ?_
  refine W.aloadN C m2_109 rfl rfl ?_
  refine W.bipush C m2_110 (z := (11 : Int32)) rfl ?_
  refine W.baload C m2_112 A0 (i := 11) rfl (own_get (by omega)) ?_
  refine W.aloadN C m2_113 rfl rfl ?_
  refine W.bipush C m2_114 (z := (11 : Int32)) rfl ?_
  refine W.baload C m2_116 A1 (i := 11) rfl (own_get (by omega)) ?_
  refine W.icmpN C m2_117 (show ¬ ¬ ((bs.getD 11 0)).toInt = ((bs.getD 11 0)).toInt from (fun q => q rfl)) ?_
  refine W.aloadN C m2_120 rfl rfl ?_
  refine W.bipush C m2_121 (z := (12 : Int32)) rfl ?_
  refine W.baload C m2_123 A0 (i := 12) rfl (own_get (by omega)) ?_
  refine W.aloadN C m2_124 rfl rfl ?_
  refine W.bipush C m2_125 (z := (12 : Int32)) rfl ?_
  refine W.baload C m2_127 A1 (i := 12) rfl (own_get (by omega)) ?_
  refine W.icmpN C m2_128 (show ¬ ¬ ((bs.getD 12 0)).toInt = ((bs.getD 12 0)).toInt from (fun q => q rfl)) ?_
  refine W.aloadN C m2_131 rfl rfl ?_
  refine W.bipush C m2_132 (z := (13 : Int32)) rfl ?_
  refine W.baload C m2_134 A0 (i := 13) rfl (own_get (by omega)) ?_
  refine W.aloadN C m2_135 rfl rfl ?_
  refine W.bipush C m2_136 (z := (13 : Int32)) rfl ?_
  refine W.baload C m2_138 A1 (i := 13) rfl (own_get (by omega)) ?_
  refine W.icmpN C m2_139 (show ¬ ¬ ((bs.getD 13 0)).toInt = ((bs.getD 13 0)).toInt from (fun q => q rfl)) ?_
  refine W.aloadN C m2_142 rfl rfl ?_
  refine W.bipush C m2_143 (z := (14 : Int32)) rfl ?_
  refine W.baload C m2_145 A0 (i := 14) rfl (own_get (by omega)) ?_
  refine W.aloadN C m2_146 rfl rfl ?_
  refine W.bipush C m2_147 (z := (14 : Int32)) rfl ?_
  refine W.baload C m2_149 A1 (i := 14) rfl (own_get (by omega)) ?_
  refine W.icmpN C m2_150 (show ¬ ¬ ((bs.getD 14 0)).toInt = ((bs.getD 14 0)).toInt from (fun q => q rfl)) ?_
  refine W.aloadN C m2_153 rfl rfl ?_
  refine W.bipush C m2_154 (z := (15 : Int32)) rfl ?_
  refine W.baload C m2_156 A0 (i := 15) rfl (own_get (by omega)) ?_
  refine W.aloadN C m2_157 rfl rfl ?_
  refine W.bipush C m2_158 (z := (15 : Int32)) rfl ?_
  refine W.baload C m2_160 A1 (i := 15) rfl (own_get (by omega)) ?_
  refine W.icmpN C m2_161 (show ¬ ¬ ((bs.getD 15 0)).toInt = ((bs.getD 15 0)).toInt from (fun q => q rfl)) ?_
  refine W.iconst C m2_164 (z := (1 : Int32)) rfl ?_
  refine W.goto C m2_165 ?_
  refine W.zreturn C m2_169 (hQ _ _ ?_)
  exact ⟨rfl, rfl⟩
theorem own_sh64 : ∀ n, n < 64 → (Int32.ofNat n).toBitVec.toNat % 64 = n := by decide +kernel
theorem own_e0 {op : Int32} (h : 0 ≤ op.toInt ∧ op.toInt ≤ 15) : ((128 : Int32) ||| op).toInt8.toInt32 = ((128 : Int32) + op).toInt8.toInt32 := by
  refine own_b8 ?_
  have e : (128 : Int32).toInt = 128 := rfl
  have h1 := c_or (128 : Int32) op 7 (by decide) 128 rfl (by rw [e]; rfl) h.1 (by omega)
  have h2 := c_iadd (128 : Int32) op
  omega
theorem own_e1 {mk m2 : Int32} (q : Int64) (h : mk.toInt = 0 ∨ mk.toInt = 128) (hm : m2.toInt = mk.toInt) (hq : 0 ≤ q.toInt ∧ q.toInt ≤ 125) : (mk.toInt64 ||| q).toInt32.toInt8.toInt32 = (m2 + q.toInt32).toInt8.toInt32 := by
  refine own_b8 ?_
  have e := c_i2l mk
  have h1 := c_orL mk.toInt64 q 7 (by decide) 128 rfl (by omega) hq.1 (by omega)
  have h2 := c_iadd m2 q.toInt32
  have h3 := c_l2i q
  have h4 := c_l2i (mk.toInt64 ||| q)
  omega
theorem own_e2 {mk m2 k : Int32} (h : mk.toInt = 0 ∨ mk.toInt = 128) (hm : m2.toInt = mk.toInt) (hk : 0 ≤ k.toInt ∧ k.toInt ≤ 127) : (mk ||| k).toInt8.toInt32 = (m2 + k).toInt8.toInt32 := by
  refine own_b8 ?_
  have h1 := c_or mk k 7 (by decide) 128 rfl (by omega) hk.1 (by omega)
  have h2 := c_iadd m2 k
  omega
theorem own_by0 (q : Int64) : own_by q (0 : Int32) = q.toInt32.toInt8.toInt32.toInt8.toInt32 := by
  have e : (q.toUInt64 >>> ((0 : Int32) &&& 0x3f).toInt64.toUInt64).toInt64 = q := by
    have : ((0 : Int32) &&& 0x3f).toInt64.toUInt64 = 0 := by decide
    rw [this]; simp
  unfold own_by; rw [e]
theorem own_by8 (q : Int64) (h : 0 ≤ q.toInt) : own_by q (8 : Int32) = (q / (256 : Int64)).toInt32.toInt8.toInt32.toInt8.toInt32 := by
  unfold own_by
  refine congrArg (fun z : Int32 => z.toInt8.toInt32) (own_b8 ?_)
  have h1 := c_lushr q (8 : Int32) 8 (by decide) (by decide)
  have h2 := c_ldiv q (256 : Int64) 256 rfl (by decide)
  have h3 := c_l2i (q.toUInt64 >>> ((8 : Int32) &&& 0x3f).toInt64.toUInt64).toInt64
  have h4 := c_l2i (q / (256 : Int64))
  have h5 := rng64 q
  omega
theorem own_byr (q : Int64) (h : 0 ≤ q.toInt) : own_by q (0 : Int32) = (q - q / (256 : Int64) * (256 : Int64)).toInt32.toInt8.toInt32.toInt8.toInt32 := by
  rw [own_by0]
  refine congrArg (fun z : Int32 => z.toInt8.toInt32) (own_b8 ?_)
  have h2 := c_lrem q (256 : Int64) 256 rfl
  have h3 := c_l2i q
  have h4 := c_l2i (q - q / (256 : Int64) * (256 : Int64))
  have h5 := rng64 q
  omega
theorem own_len {x : Int64} {s : Int32} {v : Int64} (h : ((x &&& (9223372036854775807 : Int64)).toUInt64 >>> ((s &&& (63 : Int32)) &&& 0x3f).toInt64.toUInt64).toInt64 = v) : 0 ≤ v.toInt := by
  subst h
  have e := c_maskL x (9223372036854775807 : Int64) 63 (by decide) (by decide)
  have e1 := c_mask s (63 : Int32) 6 (by decide) (by decide)
  generalize hy : x &&& (9223372036854775807 : Int64) = y at e ⊢
  generalize ht : s &&& (63 : Int32) = t at e1 ⊢
  have hy0 : 0 ≤ y.toInt := by omega
  obtain ⟨n, rfl, hn, hn2⟩ := natOf (x := t) (by omega)
  have hn64 : n < 64 := by omega
  by_cases h0 : n = 0
  · subst h0
    have e3 : (Int32.ofNat 0 &&& 0x3f).toInt64.toUInt64 = 0 := by decide
    rw [e3]; simpa using hy0
  · have e4 := c_lushr y (Int32.ofNat n) n (own_sh64 n hn64) (by omega)
    rw [e4]; exact Int.ediv_nonneg (by omega) (Int.natCast_nonneg _)
abbrev y0 : MethodName := x
theorem m0_0 : Ins1 code 0 (.iload_n 0) 1 1 := ⟨at_0, rfl⟩
theorem m0_1 : Ins1 code 1 (.iconst 3) 1 2 := ⟨at_1, rfl⟩
theorem m0_2 : Ins1 code 2 (.iand) 1 3 := ⟨at_2, rfl⟩
theorem m0_3 : Ins1 code 3 (.istore 7) 2 5 := ⟨at_3, rfl⟩
theorem m0_5 : Ins1 code 5 (.iload_n 1) 1 6 := ⟨at_5, rfl⟩
theorem m0_6 : Ins1 code 6 (.bipush 15) 2 8 := ⟨at_6, rfl⟩
theorem m0_8 : Ins1 code 8 (.iand) 1 9 := ⟨at_8, rfl⟩
theorem m0_9 : Ins1 code 9 (.istore 8) 2 11 := ⟨at_9, rfl⟩
theorem m0_11 : Ins1 code 11 (.lload_n 2) 1 12 := ⟨at_11, rfl⟩
theorem m0_12 : Ins1 code 12 (.ldc2_w 9) 3 15 := ⟨at_12, rfl⟩
theorem m0_15 : Ins1 code 15 (.land) 1 16 := ⟨at_15, rfl⟩
theorem m0_16 : Ins1 code 16 (.iload 4) 2 18 := ⟨at_16, rfl⟩
theorem m0_18 : Ins1 code 18 (.bipush 63) 2 20 := ⟨at_18, rfl⟩
theorem m0_20 : Ins1 code 20 (.iand) 1 21 := ⟨at_20, rfl⟩
theorem m0_21 : Ins1 code 21 (.lushr) 1 22 := ⟨at_21, rfl⟩
theorem m0_22 : Ins1 code 22 (.lstore 9) 2 24 := ⟨at_22, rfl⟩
theorem m0_24 : Ins1 code 24 (.iload 5) 2 26 := ⟨at_24, rfl⟩
theorem m0_26 : Ins1 code 26 (.iconst 1) 1 27 := ⟨at_26, rfl⟩
theorem m0_27 : Ins1 code 27 (.iand) 1 28 := ⟨at_27, rfl⟩
theorem m0_28 : Jmp1 code 28 (.ifCond .eq 7) 7 31 35 := ⟨at_28, rfl, by decide, by decide⟩
theorem m0_31 : Ins1 code 31 (.iconst 1) 1 32 := ⟨at_31, rfl⟩
theorem m0_32 : Jmp1 code 32 (.goto 4) 4 35 36 := ⟨at_32, rfl, by decide, by decide⟩
theorem m0_35 : Ins1 code 35 (.iconst 0) 1 36 := ⟨at_35, rfl⟩
theorem m0_36 : Ins1 code 36 (.istore 11) 2 38 := ⟨at_36, rfl⟩
theorem m0_38 : Ins1 code 38 (.iload 6) 2 40 := ⟨at_38, rfl⟩
theorem m0_40 : Ins1 code 40 (.i2b) 1 41 := ⟨at_40, rfl⟩
theorem m0_41 : Ins1 code 41 (.istore 12) 2 43 := ⟨at_41, rfl⟩
theorem m0_43 : Ins1 code 43 (.bipush 16) 2 45 := ⟨at_43, rfl⟩
theorem m0_45 : Ins1 code 45 (.newarray .byte) 2 47 := ⟨at_45, rfl⟩
theorem m0_47 : Ins1 code 47 (.dup) 1 48 := ⟨at_47, rfl⟩
theorem m0_48 : Ins1 code 48 (.iconst 0) 1 49 := ⟨at_48, rfl⟩
theorem m0_49 : Ins1 code 49 (.iload 12) 2 51 := ⟨at_49, rfl⟩
theorem m0_51 : Ins1 code 51 (.bastore) 1 52 := ⟨at_51, rfl⟩
theorem m0_52 : Ins1 code 52 (.dup) 1 53 := ⟨at_52, rfl⟩
theorem m0_53 : Ins1 code 53 (.iconst 1) 1 54 := ⟨at_53, rfl⟩
theorem m0_54 : Ins1 code 54 (.iload 12) 2 56 := ⟨at_54, rfl⟩
theorem m0_56 : Ins1 code 56 (.bastore) 1 57 := ⟨at_56, rfl⟩
theorem m0_57 : Ins1 code 57 (.dup) 1 58 := ⟨at_57, rfl⟩
theorem m0_58 : Ins1 code 58 (.iconst 2) 1 59 := ⟨at_58, rfl⟩
theorem m0_59 : Ins1 code 59 (.iload 12) 2 61 := ⟨at_59, rfl⟩
theorem m0_61 : Ins1 code 61 (.bastore) 1 62 := ⟨at_61, rfl⟩
theorem m0_62 : Ins1 code 62 (.dup) 1 63 := ⟨at_62, rfl⟩
theorem m0_63 : Ins1 code 63 (.iconst 3) 1 64 := ⟨at_63, rfl⟩
theorem m0_64 : Ins1 code 64 (.iload 12) 2 66 := ⟨at_64, rfl⟩
theorem m0_66 : Ins1 code 66 (.bastore) 1 67 := ⟨at_66, rfl⟩
theorem m0_67 : Ins1 code 67 (.dup) 1 68 := ⟨at_67, rfl⟩
theorem m0_68 : Ins1 code 68 (.iconst 4) 1 69 := ⟨at_68, rfl⟩
theorem m0_69 : Ins1 code 69 (.iload 12) 2 71 := ⟨at_69, rfl⟩
theorem m0_71 : Ins1 code 71 (.bastore) 1 72 := ⟨at_71, rfl⟩
theorem m0_72 : Ins1 code 72 (.dup) 1 73 := ⟨at_72, rfl⟩
theorem m0_73 : Ins1 code 73 (.iconst 5) 1 74 := ⟨at_73, rfl⟩
theorem m0_74 : Ins1 code 74 (.iload 12) 2 76 := ⟨at_74, rfl⟩
theorem m0_76 : Ins1 code 76 (.bastore) 1 77 := ⟨at_76, rfl⟩
theorem m0_77 : Ins1 code 77 (.dup) 1 78 := ⟨at_77, rfl⟩
theorem m0_78 : Ins1 code 78 (.bipush 6) 2 80 := ⟨at_78, rfl⟩
theorem m0_80 : Ins1 code 80 (.iload 12) 2 82 := ⟨at_80, rfl⟩
theorem m0_82 : Ins1 code 82 (.bastore) 1 83 := ⟨at_82, rfl⟩
theorem m0_83 : Ins1 code 83 (.dup) 1 84 := ⟨at_83, rfl⟩
theorem m0_84 : Ins1 code 84 (.bipush 7) 2 86 := ⟨at_84, rfl⟩
theorem m0_86 : Ins1 code 86 (.iload 12) 2 88 := ⟨at_86, rfl⟩
theorem m0_88 : Ins1 code 88 (.bastore) 1 89 := ⟨at_88, rfl⟩
theorem m0_89 : Ins1 code 89 (.dup) 1 90 := ⟨at_89, rfl⟩
theorem m0_90 : Ins1 code 90 (.bipush 8) 2 92 := ⟨at_90, rfl⟩
theorem m0_92 : Ins1 code 92 (.iload 12) 2 94 := ⟨at_92, rfl⟩
theorem m0_94 : Ins1 code 94 (.bastore) 1 95 := ⟨at_94, rfl⟩
theorem m0_95 : Ins1 code 95 (.dup) 1 96 := ⟨at_95, rfl⟩
theorem m0_96 : Ins1 code 96 (.bipush 9) 2 98 := ⟨at_96, rfl⟩
theorem m0_98 : Ins1 code 98 (.iload 12) 2 100 := ⟨at_98, rfl⟩
theorem m0_100 : Ins1 code 100 (.bastore) 1 101 := ⟨at_100, rfl⟩
theorem m0_101 : Ins1 code 101 (.dup) 1 102 := ⟨at_101, rfl⟩
theorem m0_102 : Ins1 code 102 (.bipush 10) 2 104 := ⟨at_102, rfl⟩
theorem m0_104 : Ins1 code 104 (.iload 12) 2 106 := ⟨at_104, rfl⟩
theorem m0_106 : Ins1 code 106 (.bastore) 1 107 := ⟨at_106, rfl⟩
theorem m0_107 : Ins1 code 107 (.dup) 1 108 := ⟨at_107, rfl⟩
theorem m0_108 : Ins1 code 108 (.bipush 11) 2 110 := ⟨at_108, rfl⟩
theorem m0_110 : Ins1 code 110 (.iload 12) 2 112 := ⟨at_110, rfl⟩
theorem m0_112 : Ins1 code 112 (.bastore) 1 113 := ⟨at_112, rfl⟩
theorem m0_113 : Ins1 code 113 (.dup) 1 114 := ⟨at_113, rfl⟩
theorem m0_114 : Ins1 code 114 (.bipush 12) 2 116 := ⟨at_114, rfl⟩
theorem m0_116 : Ins1 code 116 (.iload 12) 2 118 := ⟨at_116, rfl⟩
theorem m0_118 : Ins1 code 118 (.bastore) 1 119 := ⟨at_118, rfl⟩
theorem m0_119 : Ins1 code 119 (.dup) 1 120 := ⟨at_119, rfl⟩
theorem m0_120 : Ins1 code 120 (.bipush 13) 2 122 := ⟨at_120, rfl⟩
theorem m0_122 : Ins1 code 122 (.iload 12) 2 124 := ⟨at_122, rfl⟩
theorem m0_124 : Ins1 code 124 (.bastore) 1 125 := ⟨at_124, rfl⟩
theorem m0_125 : Ins1 code 125 (.dup) 1 126 := ⟨at_125, rfl⟩
theorem m0_126 : Ins1 code 126 (.bipush 14) 2 128 := ⟨at_126, rfl⟩
theorem m0_128 : Ins1 code 128 (.iload 12) 2 130 := ⟨at_128, rfl⟩
theorem m0_130 : Ins1 code 130 (.bastore) 1 131 := ⟨at_130, rfl⟩
theorem m0_131 : Ins1 code 131 (.dup) 1 132 := ⟨at_131, rfl⟩
theorem m0_132 : Ins1 code 132 (.bipush 15) 2 134 := ⟨at_132, rfl⟩
theorem m0_134 : Ins1 code 134 (.iload 12) 2 136 := ⟨at_134, rfl⟩
theorem m0_136 : Ins1 code 136 (.bastore) 1 137 := ⟨at_136, rfl⟩
theorem m0_137 : Ins1 code 137 (.astore 13) 2 139 := ⟨at_137, rfl⟩
theorem m0_139 : Ins1 code 139 (.bipush 16) 2 141 := ⟨at_139, rfl⟩
theorem m0_141 : Ins1 code 141 (.newarray .byte) 2 143 := ⟨at_141, rfl⟩
theorem m0_143 : Ins1 code 143 (.dup) 1 144 := ⟨at_143, rfl⟩
theorem m0_144 : Ins1 code 144 (.iconst 0) 1 145 := ⟨at_144, rfl⟩
theorem m0_145 : Ins1 code 145 (.iload 12) 2 147 := ⟨at_145, rfl⟩
theorem m0_147 : Ins1 code 147 (.bastore) 1 148 := ⟨at_147, rfl⟩
theorem m0_148 : Ins1 code 148 (.dup) 1 149 := ⟨at_148, rfl⟩
theorem m0_149 : Ins1 code 149 (.iconst 1) 1 150 := ⟨at_149, rfl⟩
theorem m0_150 : Ins1 code 150 (.iload 12) 2 152 := ⟨at_150, rfl⟩
theorem m0_152 : Ins1 code 152 (.bastore) 1 153 := ⟨at_152, rfl⟩
theorem m0_153 : Ins1 code 153 (.dup) 1 154 := ⟨at_153, rfl⟩
theorem m0_154 : Ins1 code 154 (.iconst 2) 1 155 := ⟨at_154, rfl⟩
theorem m0_155 : Ins1 code 155 (.iload 12) 2 157 := ⟨at_155, rfl⟩
theorem m0_157 : Ins1 code 157 (.bastore) 1 158 := ⟨at_157, rfl⟩
theorem m0_158 : Ins1 code 158 (.dup) 1 159 := ⟨at_158, rfl⟩
theorem m0_159 : Ins1 code 159 (.iconst 3) 1 160 := ⟨at_159, rfl⟩
theorem m0_160 : Ins1 code 160 (.iload 12) 2 162 := ⟨at_160, rfl⟩
theorem m0_162 : Ins1 code 162 (.bastore) 1 163 := ⟨at_162, rfl⟩
theorem m0_163 : Ins1 code 163 (.dup) 1 164 := ⟨at_163, rfl⟩
theorem m0_164 : Ins1 code 164 (.iconst 4) 1 165 := ⟨at_164, rfl⟩
theorem m0_165 : Ins1 code 165 (.iload 12) 2 167 := ⟨at_165, rfl⟩
theorem m0_167 : Ins1 code 167 (.bastore) 1 168 := ⟨at_167, rfl⟩
theorem m0_168 : Ins1 code 168 (.dup) 1 169 := ⟨at_168, rfl⟩
theorem m0_169 : Ins1 code 169 (.iconst 5) 1 170 := ⟨at_169, rfl⟩
theorem m0_170 : Ins1 code 170 (.iload 12) 2 172 := ⟨at_170, rfl⟩
theorem m0_172 : Ins1 code 172 (.bastore) 1 173 := ⟨at_172, rfl⟩
theorem m0_173 : Ins1 code 173 (.dup) 1 174 := ⟨at_173, rfl⟩
theorem m0_174 : Ins1 code 174 (.bipush 6) 2 176 := ⟨at_174, rfl⟩
theorem m0_176 : Ins1 code 176 (.iload 12) 2 178 := ⟨at_176, rfl⟩
theorem m0_178 : Ins1 code 178 (.bastore) 1 179 := ⟨at_178, rfl⟩
theorem m0_179 : Ins1 code 179 (.dup) 1 180 := ⟨at_179, rfl⟩
theorem m0_180 : Ins1 code 180 (.bipush 7) 2 182 := ⟨at_180, rfl⟩
theorem m0_182 : Ins1 code 182 (.iload 12) 2 184 := ⟨at_182, rfl⟩
theorem m0_184 : Ins1 code 184 (.bastore) 1 185 := ⟨at_184, rfl⟩
theorem m0_185 : Ins1 code 185 (.dup) 1 186 := ⟨at_185, rfl⟩
theorem m0_186 : Ins1 code 186 (.bipush 8) 2 188 := ⟨at_186, rfl⟩
theorem m0_188 : Ins1 code 188 (.iload 12) 2 190 := ⟨at_188, rfl⟩
theorem m0_190 : Ins1 code 190 (.bastore) 1 191 := ⟨at_190, rfl⟩
theorem m0_191 : Ins1 code 191 (.dup) 1 192 := ⟨at_191, rfl⟩
theorem m0_192 : Ins1 code 192 (.bipush 9) 2 194 := ⟨at_192, rfl⟩
theorem m0_194 : Ins1 code 194 (.iload 12) 2 196 := ⟨at_194, rfl⟩
theorem m0_196 : Ins1 code 196 (.bastore) 1 197 := ⟨at_196, rfl⟩
theorem m0_197 : Ins1 code 197 (.dup) 1 198 := ⟨at_197, rfl⟩
theorem m0_198 : Ins1 code 198 (.bipush 10) 2 200 := ⟨at_198, rfl⟩
theorem m0_200 : Ins1 code 200 (.iload 12) 2 202 := ⟨at_200, rfl⟩
theorem m0_202 : Ins1 code 202 (.bastore) 1 203 := ⟨at_202, rfl⟩
theorem m0_203 : Ins1 code 203 (.dup) 1 204 := ⟨at_203, rfl⟩
theorem m0_204 : Ins1 code 204 (.bipush 11) 2 206 := ⟨at_204, rfl⟩
theorem m0_206 : Ins1 code 206 (.iload 12) 2 208 := ⟨at_206, rfl⟩
theorem m0_208 : Ins1 code 208 (.bastore) 1 209 := ⟨at_208, rfl⟩
theorem m0_209 : Ins1 code 209 (.dup) 1 210 := ⟨at_209, rfl⟩
theorem m0_210 : Ins1 code 210 (.bipush 12) 2 212 := ⟨at_210, rfl⟩
theorem m0_212 : Ins1 code 212 (.iload 12) 2 214 := ⟨at_212, rfl⟩
theorem m0_214 : Ins1 code 214 (.bastore) 1 215 := ⟨at_214, rfl⟩
theorem m0_215 : Ins1 code 215 (.dup) 1 216 := ⟨at_215, rfl⟩
theorem m0_216 : Ins1 code 216 (.bipush 13) 2 218 := ⟨at_216, rfl⟩
theorem m0_218 : Ins1 code 218 (.iload 12) 2 220 := ⟨at_218, rfl⟩
theorem m0_220 : Ins1 code 220 (.bastore) 1 221 := ⟨at_220, rfl⟩
theorem m0_221 : Ins1 code 221 (.dup) 1 222 := ⟨at_221, rfl⟩
theorem m0_222 : Ins1 code 222 (.bipush 14) 2 224 := ⟨at_222, rfl⟩
theorem m0_224 : Ins1 code 224 (.iload 12) 2 226 := ⟨at_224, rfl⟩
theorem m0_226 : Ins1 code 226 (.bastore) 1 227 := ⟨at_226, rfl⟩
theorem m0_227 : Ins1 code 227 (.dup) 1 228 := ⟨at_227, rfl⟩
theorem m0_228 : Ins1 code 228 (.bipush 15) 2 230 := ⟨at_228, rfl⟩
theorem m0_230 : Ins1 code 230 (.iload 12) 2 232 := ⟨at_230, rfl⟩
theorem m0_232 : Ins1 code 232 (.bastore) 1 233 := ⟨at_232, rfl⟩
theorem m0_233 : Ins1 code 233 (.astore 14) 2 235 := ⟨at_233, rfl⟩
theorem m0_235 : Ins1 code 235 (.aload 13) 2 237 := ⟨at_235, rfl⟩
theorem m0_237 : Ins1 code 237 (.iload 7) 2 239 := ⟨at_237, rfl⟩
theorem m0_239 : Ins1 code 239 (.iload 8) 2 241 := ⟨at_239, rfl⟩
theorem m0_241 : Ins1 code 241 (.lload 9) 2 243 := ⟨at_241, rfl⟩
theorem m0_243 : Ins1 code 243 (.iload 11) 2 245 := ⟨at_243, rfl⟩
theorem m0_245 : Ins1 code 245 (.invokestatic 11) 3 248 := ⟨at_245, rfl⟩
theorem m0_248 : Ins1 code 248 (.istore 15) 2 250 := ⟨at_248, rfl⟩
theorem m0_250 : Ins1 code 250 (.iload 11) 2 252 := ⟨at_250, rfl⟩
theorem m0_252 : Jmp1 code 252 (.ifCond .eq 9) 9 255 261 := ⟨at_252, rfl, by decide, by decide⟩
theorem m0_255 : Ins1 code 255 (.sipush 128) 3 258 := ⟨at_255, rfl⟩
theorem m0_258 : Jmp1 code 258 (.goto 4) 4 261 262 := ⟨at_258, rfl, by decide, by decide⟩
theorem m0_261 : Ins1 code 261 (.iconst 0) 1 262 := ⟨at_261, rfl⟩
theorem m0_262 : Ins1 code 262 (.istore 16) 2 264 := ⟨at_262, rfl⟩
theorem m0_264 : Ins1 code 264 (.aload 14) 2 266 := ⟨at_264, rfl⟩
theorem m0_266 : Ins1 code 266 (.iload 7) 2 268 := ⟨at_266, rfl⟩
theorem m0_268 : Ins1 code 268 (.sipush 128) 3 271 := ⟨at_268, rfl⟩
theorem m0_271 : Ins1 code 271 (.iload 8) 2 273 := ⟨at_271, rfl⟩
theorem m0_273 : Ins1 code 273 (.iadd) 1 274 := ⟨at_273, rfl⟩
theorem m0_274 : Ins1 code 274 (.i2b) 1 275 := ⟨at_274, rfl⟩
theorem m0_275 : Ins1 code 275 (.bastore) 1 276 := ⟨at_275, rfl⟩
theorem m0_276 : Ins1 code 276 (.lload 9) 2 278 := ⟨at_276, rfl⟩
theorem m0_278 : Ins1 code 278 (.ldc2_w 17) 3 281 := ⟨at_278, rfl⟩
theorem m0_281 : Ins1 code 281 (.lcmp) 1 282 := ⟨at_281, rfl⟩
theorem m0_282 : Jmp1 code 282 (.ifCond .ge 26) 26 285 308 := ⟨at_282, rfl, by decide, by decide⟩
theorem m0_285 : Ins1 code 285 (.aload 14) 2 287 := ⟨at_285, rfl⟩
theorem m0_287 : Ins1 code 287 (.iload 7) 2 289 := ⟨at_287, rfl⟩
theorem m0_289 : Ins1 code 289 (.iconst 1) 1 290 := ⟨at_289, rfl⟩
theorem m0_290 : Ins1 code 290 (.iadd) 1 291 := ⟨at_290, rfl⟩
theorem m0_291 : Ins1 code 291 (.iload 16) 2 293 := ⟨at_291, rfl⟩
theorem m0_293 : Ins1 code 293 (.lload 9) 2 295 := ⟨at_293, rfl⟩
theorem m0_295 : Ins1 code 295 (.l2i) 1 296 := ⟨at_295, rfl⟩
theorem m0_296 : Ins1 code 296 (.iadd) 1 297 := ⟨at_296, rfl⟩
theorem m0_297 : Ins1 code 297 (.i2b) 1 298 := ⟨at_297, rfl⟩
theorem m0_298 : Ins1 code 298 (.bastore) 1 299 := ⟨at_298, rfl⟩
theorem m0_299 : Ins1 code 299 (.iload 7) 2 301 := ⟨at_299, rfl⟩
theorem m0_301 : Ins1 code 301 (.iconst 2) 1 302 := ⟨at_301, rfl⟩
theorem m0_302 : Ins1 code 302 (.iadd) 1 303 := ⟨at_302, rfl⟩
theorem m0_303 : Ins1 code 303 (.istore 17) 2 305 := ⟨at_303, rfl⟩
theorem m0_305 : Jmp1 code 305 (.goto 197) 197 308 502 := ⟨at_305, rfl, by decide, by decide⟩
theorem m0_308 : Ins1 code 308 (.lload 9) 2 310 := ⟨at_308, rfl⟩
theorem m0_310 : Ins1 code 310 (.ldc2_w 19) 3 313 := ⟨at_310, rfl⟩
theorem m0_313 : Ins1 code 313 (.lcmp) 1 314 := ⟨at_313, rfl⟩
theorem m0_314 : Jmp1 code 314 (.ifCond .ge 55) 55 317 369 := ⟨at_314, rfl, by decide, by decide⟩
theorem m0_317 : Ins1 code 317 (.aload 14) 2 319 := ⟨at_317, rfl⟩
theorem m0_319 : Ins1 code 319 (.iload 7) 2 321 := ⟨at_319, rfl⟩
theorem m0_321 : Ins1 code 321 (.iconst 1) 1 322 := ⟨at_321, rfl⟩
theorem m0_322 : Ins1 code 322 (.iadd) 1 323 := ⟨at_322, rfl⟩
theorem m0_323 : Ins1 code 323 (.iload 16) 2 325 := ⟨at_323, rfl⟩
theorem m0_325 : Ins1 code 325 (.bipush 126) 2 327 := ⟨at_325, rfl⟩
theorem m0_327 : Ins1 code 327 (.iadd) 1 328 := ⟨at_327, rfl⟩
theorem m0_328 : Ins1 code 328 (.i2b) 1 329 := ⟨at_328, rfl⟩
theorem m0_329 : Ins1 code 329 (.bastore) 1 330 := ⟨at_329, rfl⟩
theorem m0_330 : Ins1 code 330 (.aload 14) 2 332 := ⟨at_330, rfl⟩
theorem m0_332 : Ins1 code 332 (.iload 7) 2 334 := ⟨at_332, rfl⟩
theorem m0_334 : Ins1 code 334 (.iconst 2) 1 335 := ⟨at_334, rfl⟩
theorem m0_335 : Ins1 code 335 (.iadd) 1 336 := ⟨at_335, rfl⟩
theorem m0_336 : Ins1 code 336 (.lload 9) 2 338 := ⟨at_336, rfl⟩
theorem m0_338 : Ins1 code 338 (.ldc2_w 21) 3 341 := ⟨at_338, rfl⟩
theorem m0_341 : Ins1 code 341 (.ldiv) 1 342 := ⟨at_341, rfl⟩
theorem m0_342 : Ins1 code 342 (.l2i) 1 343 := ⟨at_342, rfl⟩
theorem m0_343 : Ins1 code 343 (.i2b) 1 344 := ⟨at_343, rfl⟩
theorem m0_344 : Ins1 code 344 (.bastore) 1 345 := ⟨at_344, rfl⟩
theorem m0_345 : Ins1 code 345 (.aload 14) 2 347 := ⟨at_345, rfl⟩
theorem m0_347 : Ins1 code 347 (.iload 7) 2 349 := ⟨at_347, rfl⟩
theorem m0_349 : Ins1 code 349 (.iconst 3) 1 350 := ⟨at_349, rfl⟩
theorem m0_350 : Ins1 code 350 (.iadd) 1 351 := ⟨at_350, rfl⟩
theorem m0_351 : Ins1 code 351 (.lload 9) 2 353 := ⟨at_351, rfl⟩
theorem m0_353 : Ins1 code 353 (.ldc2_w 21) 3 356 := ⟨at_353, rfl⟩
theorem m0_356 : Ins1 code 356 (.lrem) 1 357 := ⟨at_356, rfl⟩
theorem m0_357 : Ins1 code 357 (.l2i) 1 358 := ⟨at_357, rfl⟩
theorem m0_358 : Ins1 code 358 (.i2b) 1 359 := ⟨at_358, rfl⟩
theorem m0_359 : Ins1 code 359 (.bastore) 1 360 := ⟨at_359, rfl⟩
theorem m0_360 : Ins1 code 360 (.iload 7) 2 362 := ⟨at_360, rfl⟩
theorem m0_362 : Ins1 code 362 (.iconst 4) 1 363 := ⟨at_362, rfl⟩
theorem m0_363 : Ins1 code 363 (.iadd) 1 364 := ⟨at_363, rfl⟩
theorem m0_364 : Ins1 code 364 (.istore 17) 2 366 := ⟨at_364, rfl⟩
theorem m0_366 : Jmp1 code 366 (.goto 136) 136 369 502 := ⟨at_366, rfl, by decide, by decide⟩
theorem m0_369 : Ins1 code 369 (.aload 14) 2 371 := ⟨at_369, rfl⟩
theorem m0_371 : Ins1 code 371 (.iload 7) 2 373 := ⟨at_371, rfl⟩
theorem m0_373 : Ins1 code 373 (.iconst 1) 1 374 := ⟨at_373, rfl⟩
theorem m0_374 : Ins1 code 374 (.iadd) 1 375 := ⟨at_374, rfl⟩
theorem m0_375 : Ins1 code 375 (.iload 16) 2 377 := ⟨at_375, rfl⟩
theorem m0_377 : Ins1 code 377 (.bipush 127) 2 379 := ⟨at_377, rfl⟩
theorem m0_379 : Ins1 code 379 (.iadd) 1 380 := ⟨at_379, rfl⟩
theorem m0_380 : Ins1 code 380 (.i2b) 1 381 := ⟨at_380, rfl⟩
theorem m0_381 : Ins1 code 381 (.bastore) 1 382 := ⟨at_381, rfl⟩
theorem m0_382 : Ins1 code 382 (.aload 14) 2 384 := ⟨at_382, rfl⟩
theorem m0_384 : Ins1 code 384 (.iload 7) 2 386 := ⟨at_384, rfl⟩
theorem m0_386 : Ins1 code 386 (.iconst 2) 1 387 := ⟨at_386, rfl⟩
theorem m0_387 : Ins1 code 387 (.iadd) 1 388 := ⟨at_387, rfl⟩
theorem m0_388 : Ins1 code 388 (.lload 9) 2 390 := ⟨at_388, rfl⟩
theorem m0_390 : Ins1 code 390 (.bipush 56) 2 392 := ⟨at_390, rfl⟩
theorem m0_392 : Ins1 code 392 (.lushr) 1 393 := ⟨at_392, rfl⟩
theorem m0_393 : Ins1 code 393 (.l2i) 1 394 := ⟨at_393, rfl⟩
theorem m0_394 : Ins1 code 394 (.i2b) 1 395 := ⟨at_394, rfl⟩
theorem m0_395 : Ins1 code 395 (.bastore) 1 396 := ⟨at_395, rfl⟩
theorem m0_396 : Ins1 code 396 (.aload 14) 2 398 := ⟨at_396, rfl⟩
theorem m0_398 : Ins1 code 398 (.iload 7) 2 400 := ⟨at_398, rfl⟩
theorem m0_400 : Ins1 code 400 (.iconst 3) 1 401 := ⟨at_400, rfl⟩
theorem m0_401 : Ins1 code 401 (.iadd) 1 402 := ⟨at_401, rfl⟩
theorem m0_402 : Ins1 code 402 (.lload 9) 2 404 := ⟨at_402, rfl⟩
theorem m0_404 : Ins1 code 404 (.bipush 48) 2 406 := ⟨at_404, rfl⟩
theorem m0_406 : Ins1 code 406 (.lushr) 1 407 := ⟨at_406, rfl⟩
theorem m0_407 : Ins1 code 407 (.l2i) 1 408 := ⟨at_407, rfl⟩
theorem m0_408 : Ins1 code 408 (.i2b) 1 409 := ⟨at_408, rfl⟩
theorem m0_409 : Ins1 code 409 (.bastore) 1 410 := ⟨at_409, rfl⟩
theorem m0_410 : Ins1 code 410 (.aload 14) 2 412 := ⟨at_410, rfl⟩
theorem m0_412 : Ins1 code 412 (.iload 7) 2 414 := ⟨at_412, rfl⟩
theorem m0_414 : Ins1 code 414 (.iconst 4) 1 415 := ⟨at_414, rfl⟩
theorem m0_415 : Ins1 code 415 (.iadd) 1 416 := ⟨at_415, rfl⟩
theorem m0_416 : Ins1 code 416 (.lload 9) 2 418 := ⟨at_416, rfl⟩
theorem m0_418 : Ins1 code 418 (.bipush 40) 2 420 := ⟨at_418, rfl⟩
theorem m0_420 : Ins1 code 420 (.lushr) 1 421 := ⟨at_420, rfl⟩
theorem m0_421 : Ins1 code 421 (.l2i) 1 422 := ⟨at_421, rfl⟩
theorem m0_422 : Ins1 code 422 (.i2b) 1 423 := ⟨at_422, rfl⟩
theorem m0_423 : Ins1 code 423 (.bastore) 1 424 := ⟨at_423, rfl⟩
theorem m0_424 : Ins1 code 424 (.aload 14) 2 426 := ⟨at_424, rfl⟩
theorem m0_426 : Ins1 code 426 (.iload 7) 2 428 := ⟨at_426, rfl⟩
theorem m0_428 : Ins1 code 428 (.iconst 5) 1 429 := ⟨at_428, rfl⟩
theorem m0_429 : Ins1 code 429 (.iadd) 1 430 := ⟨at_429, rfl⟩
theorem m0_430 : Ins1 code 430 (.lload 9) 2 432 := ⟨at_430, rfl⟩
theorem m0_432 : Ins1 code 432 (.bipush 32) 2 434 := ⟨at_432, rfl⟩
theorem m0_434 : Ins1 code 434 (.lushr) 1 435 := ⟨at_434, rfl⟩
theorem m0_435 : Ins1 code 435 (.l2i) 1 436 := ⟨at_435, rfl⟩
theorem m0_436 : Ins1 code 436 (.i2b) 1 437 := ⟨at_436, rfl⟩
theorem m0_437 : Ins1 code 437 (.bastore) 1 438 := ⟨at_437, rfl⟩
theorem m0_438 : Ins1 code 438 (.aload 14) 2 440 := ⟨at_438, rfl⟩
theorem m0_440 : Ins1 code 440 (.iload 7) 2 442 := ⟨at_440, rfl⟩
theorem m0_442 : Ins1 code 442 (.bipush 6) 2 444 := ⟨at_442, rfl⟩
theorem m0_444 : Ins1 code 444 (.iadd) 1 445 := ⟨at_444, rfl⟩
theorem m0_445 : Ins1 code 445 (.lload 9) 2 447 := ⟨at_445, rfl⟩
theorem m0_447 : Ins1 code 447 (.bipush 24) 2 449 := ⟨at_447, rfl⟩
theorem m0_449 : Ins1 code 449 (.lushr) 1 450 := ⟨at_449, rfl⟩
theorem m0_450 : Ins1 code 450 (.l2i) 1 451 := ⟨at_450, rfl⟩
theorem m0_451 : Ins1 code 451 (.i2b) 1 452 := ⟨at_451, rfl⟩
theorem m0_452 : Ins1 code 452 (.bastore) 1 453 := ⟨at_452, rfl⟩
theorem m0_453 : Ins1 code 453 (.aload 14) 2 455 := ⟨at_453, rfl⟩
theorem m0_455 : Ins1 code 455 (.iload 7) 2 457 := ⟨at_455, rfl⟩
theorem m0_457 : Ins1 code 457 (.bipush 7) 2 459 := ⟨at_457, rfl⟩
theorem m0_459 : Ins1 code 459 (.iadd) 1 460 := ⟨at_459, rfl⟩
theorem m0_460 : Ins1 code 460 (.lload 9) 2 462 := ⟨at_460, rfl⟩
theorem m0_462 : Ins1 code 462 (.bipush 16) 2 464 := ⟨at_462, rfl⟩
theorem m0_464 : Ins1 code 464 (.lushr) 1 465 := ⟨at_464, rfl⟩
theorem m0_465 : Ins1 code 465 (.l2i) 1 466 := ⟨at_465, rfl⟩
theorem m0_466 : Ins1 code 466 (.i2b) 1 467 := ⟨at_466, rfl⟩
theorem m0_467 : Ins1 code 467 (.bastore) 1 468 := ⟨at_467, rfl⟩
theorem m0_468 : Ins1 code 468 (.aload 14) 2 470 := ⟨at_468, rfl⟩
theorem m0_470 : Ins1 code 470 (.iload 7) 2 472 := ⟨at_470, rfl⟩
theorem m0_472 : Ins1 code 472 (.bipush 8) 2 474 := ⟨at_472, rfl⟩
theorem m0_474 : Ins1 code 474 (.iadd) 1 475 := ⟨at_474, rfl⟩
theorem m0_475 : Ins1 code 475 (.lload 9) 2 477 := ⟨at_475, rfl⟩
theorem m0_477 : Ins1 code 477 (.bipush 8) 2 479 := ⟨at_477, rfl⟩
theorem m0_479 : Ins1 code 479 (.lushr) 1 480 := ⟨at_479, rfl⟩
theorem m0_480 : Ins1 code 480 (.l2i) 1 481 := ⟨at_480, rfl⟩
theorem m0_481 : Ins1 code 481 (.i2b) 1 482 := ⟨at_481, rfl⟩
theorem m0_482 : Ins1 code 482 (.bastore) 1 483 := ⟨at_482, rfl⟩
theorem m0_483 : Ins1 code 483 (.aload 14) 2 485 := ⟨at_483, rfl⟩
theorem m0_485 : Ins1 code 485 (.iload 7) 2 487 := ⟨at_485, rfl⟩
theorem m0_487 : Ins1 code 487 (.bipush 9) 2 489 := ⟨at_487, rfl⟩
theorem m0_489 : Ins1 code 489 (.iadd) 1 490 := ⟨at_489, rfl⟩
theorem m0_490 : Ins1 code 490 (.lload 9) 2 492 := ⟨at_490, rfl⟩
theorem m0_492 : Ins1 code 492 (.l2i) 1 493 := ⟨at_492, rfl⟩
theorem m0_493 : Ins1 code 493 (.i2b) 1 494 := ⟨at_493, rfl⟩
theorem m0_494 : Ins1 code 494 (.bastore) 1 495 := ⟨at_494, rfl⟩
theorem m0_495 : Ins1 code 495 (.iload 7) 2 497 := ⟨at_495, rfl⟩
theorem m0_497 : Ins1 code 497 (.bipush 10) 2 499 := ⟨at_497, rfl⟩
theorem m0_499 : Ins1 code 499 (.iadd) 1 500 := ⟨at_499, rfl⟩
theorem m0_500 : Ins1 code 500 (.istore 17) 2 502 := ⟨at_500, rfl⟩
theorem m0_502 : Ins1 code 502 (.iload 15) 2 504 := ⟨at_502, rfl⟩
theorem m0_504 : Ins1 code 504 (.iload 17) 2 506 := ⟨at_504, rfl⟩
theorem m0_506 : Jmp1 code 506 (.if_icmp .ne 17) 17 509 523 := ⟨at_506, rfl, by decide, by decide⟩
theorem m0_509 : Ins1 code 509 (.aload 13) 2 511 := ⟨at_509, rfl⟩
theorem m0_511 : Ins1 code 511 (.aload 14) 2 513 := ⟨at_511, rfl⟩
theorem m0_513 : Ins1 code 513 (.invokestatic 23) 3 516 := ⟨at_513, rfl⟩
theorem m0_516 : Jmp1 code 516 (.ifCond .eq 7) 7 519 523 := ⟨at_516, rfl, by decide, by decide⟩
theorem m0_519 : Ins1 code 519 (.iconst 1) 1 520 := ⟨at_519, rfl⟩
theorem m0_520 : Jmp1 code 520 (.goto 4) 4 523 524 := ⟨at_520, rfl, by decide, by decide⟩
theorem m0_523 : Ins1 code 523 (.iconst 0) 1 524 := ⟨at_523, rfl⟩
theorem m0_524 : Ins1 code 524 (.ireturn) 1 525 := ⟨at_524, rfl⟩
theorem pl0 : plainFor y0 = true := plainFor_of_name (show plainName "com/example/hearts_content/heartscontent/websocket/FramingWriteHeaderPinLaw" = true by first | (simp [plainName, overriddenIn]; done) | decide +kernel)
theorem pd0 : parseMethodDescriptor "(IIJIII)Z" = some ⟨[.int, .int, .long, .int, .int, .int], some .boolean⟩ := by decide +kernel
set_option maxRecDepth 65536 in
set_option maxHeartbeats 4000000 in
theorem own_law (Z : State) (a0 : Array Value) (hw : ∀ d ∈ tables_1, d.before a0 Z = true) (p0 : Int32) (p1 : Int32) (q2 : Int64) (p3 : Int32) (p4 : Int32) (p5 : Int32)  (h : Heap) (n0 : Nat) (z0 : n0 ≤ h.size) :
    Con Z y0 code maxLocals ret room_1 [(.int p0), (.int p1), (.long q2), (.int p3), (.int p4), (.int p5)] h n0 (fun v h' => v = some (.int 1)) := by
  refine Con.of pl0 (L := [.val (.int p0), .val (.int p1), .val (.long q2), .second, .val (.int p3), .val (.int p4), .val (.int p5), .unset, .unset, .unset, .unset, .unset, .unset, .unset, .unset, .unset, .unset, .unset]) (fun m => by first | (simp [entryFrame, mkF, argsToLocals, Value.category, maxLocals]; done) | rfl) ?_
  intro κ Qx hQ C
  replace C : Good κ room_1 Z "com/example/hearts_content/heartscontent/websocket/FramingWriteHeaderPinLaw" "law" code 18 (some .boolean) := C
  refine W.iloadN C m0_0 rfl ?_
  refine W.iconst C m0_1 (z := (3 : Int32)) rfl ?_
  refine W.iand C m0_2 rfl ?_
  generalize hv1 : (p0 &&& (3 : Int32)) = v1
  refine W.istore C m0_3 (L' := [.val (.int p0), .val (.int p1), .val (.long q2), .second, .val (.int p3), .val (.int p4), .val (.int p5), .val (.int v1), .unset, .unset, .unset, .unset, .unset, .unset, .unset, .unset, .unset, .unset]) rfl ?_
  obtain ⟨p, hx⟩ : ∃ p : Nat, v1.toInt = p ∧ p ≤ 3 := by
    have e := c_mask p0 (3 : Int32) 2 (by decide) (by decide)
    rw [hv1] at e
    exact ⟨v1.toInt.toNat, by omega, by omega⟩
  refine W.iloadN C m0_5 rfl ?_
  refine W.bipush C m0_6 (z := (15 : Int32)) rfl ?_
  refine W.iand C m0_8 rfl ?_
  generalize hv2 : (p1 &&& (15 : Int32)) = v2
  refine W.istore C m0_9 (L' := [.val (.int p0), .val (.int p1), .val (.long q2), .second, .val (.int p3), .val (.int p4), .val (.int p5), .val (.int v1), .val (.int v2), .unset, .unset, .unset, .unset, .unset, .unset, .unset, .unset, .unset]) rfl ?_
  have hop : 0 ≤ v2.toInt ∧ v2.toInt ≤ 15 := by
    have e := c_mask p1 (15 : Int32) 4 (by decide) (by decide)
    rw [hv2] at e
    omega
  refine W.lloadN C m0_11 rfl ?_
  refine W.ldc2 C m0_12 (hw _ (List.mem_of_getElem? (i := 0) rfl)) ?_
  refine W.land C m0_15 rfl ?_
  refine W.iload C m0_16 rfl ?_
  refine W.bipush C m0_18 (z := (63 : Int32)) rfl ?_
  refine W.iand C m0_20 rfl ?_
  refine W.lushr C m0_21 rfl ?_
  generalize hv3 : ((q2 &&& (9223372036854775807 : Int64)).toUInt64 >>> ((p3 &&& (63 : Int32)) &&& 0x3f).toInt64.toUInt64).toInt64 = v3
  refine W.lstore C m0_22 (L' := [.val (.int p0), .val (.int p1), .val (.long q2), .second, .val (.int p3), .val (.int p4), .val (.int p5), .val (.int v1), .val (.int v2), .val (.long v3), .second, .unset, .unset, .unset, .unset, .unset, .unset, .unset]) rfl ?_
  have hq0 : 0 ≤ v3.toInt := own_len hv3
  refine W.iload C m0_24 rfl ?_
  refine W.iconst C m0_26 (z := (1 : Int32)) rfl ?_
  refine W.iand C m0_27 rfl ?_
  suffices J28 : ∀ (w4 : Int32), (((((p4 &&& (1 : Int32))).toInt = (0 : Int)) ∧ (w4.toInt = (0 : Int))) ∨ ((¬ ((p4 &&& (1 : Int32))).toInt = (0 : Int)) ∧ (w4.toInt = (1 : Int)))) → W κ n0 Qx h 0 0 36 [.val (.int p0), .val (.int p1), .val (.long q2), .second, .val (.int p3), .val (.int p4), .val (.int p5), .val (.int v1), .val (.int v2), .val (.long v3), .second, .unset, .unset, .unset, .unset, .unset, .unset, .unset] [(.int w4)] by
    refine W.ifc C m0_28 ?_ ?_
    · intro (h28 : ((p4 &&& (1 : Int32))).toInt = (0 : Int))
      refine W.iconst C m0_35 (z := (0 : Int32)) rfl ?_
      exact J28 _ (Or.inl ⟨h28, rfl⟩)
    · intro (h28 : ¬ (((p4 &&& (1 : Int32))).toInt = (0 : Int)))
      refine W.iconst C m0_31 (z := (1 : Int32)) rfl ?_
      refine W.goto C m0_32 ?_
      exact J28 _ (Or.inr (⟨h28, rfl⟩))
  intro w4 hJ28
  refine W.istore C m0_36 (L' := [.val (.int p0), .val (.int p1), .val (.long q2), .second, .val (.int p3), .val (.int p4), .val (.int p5), .val (.int v1), .val (.int v2), .val (.long v3), .second, .val (.int w4), .unset, .unset, .unset, .unset, .unset, .unset]) rfl ?_
  refine W.iload C m0_38 rfl ?_
  refine W.i2b C m0_40 rfl ?_
  generalize hv5 : p5.toInt8.toInt32 = v5
  refine W.istore C m0_41 (L' := [.val (.int p0), .val (.int p1), .val (.long q2), .second, .val (.int p3), .val (.int p4), .val (.int p5), .val (.int v1), .val (.int v2), .val (.long v3), .second, .val (.int w4), .val (.int v5), .unset, .unset, .unset, .unset, .unset]) rfl ?_
  refine W.bipush C m0_43 (z := (16 : Int32)) rfl ?_
  refine W.newarray (a0 := a0) (vs := [(.int (0 : Int32)), (.int (0 : Int32)), (.int (0 : Int32)), (.int (0 : Int32)), (.int (0 : Int32)), (.int (0 : Int32)), (.int (0 : Int32)), (.int (0 : Int32)), (.int (0 : Int32)), (.int (0 : Int32)), (.int (0 : Int32)), (.int (0 : Int32)), (.int (0 : Int32)), (.int (0 : Int32)), (.int (0 : Int32)), (.int (0 : Int32))]) 16 C m0_45 rfl (hw _ (List.mem_of_getElem? (i := 1) rfl)) (by decide) (by decide) rfl (by decide) (by decide) (by decide) ?_
  intro h6 a7 g8 E9 A10
  have g11 : n0 ≤ a7 := Nat.le_trans z0 (Nat.le_of_eq g8)
  have z12 : n0 ≤ h6.size := Nat.le_trans z0 E9.1
  show W κ n0 Qx h6 1 16 47 [.val (.int p0), .val (.int p1), .val (.long q2), .second, .val (.int p3), .val (.int p4), .val (.int p5), .val (.int v1), .val (.int v2), .val (.long v3), .second, .val (.int w4), .val (.int v5), .unset, .unset, .unset, .unset, .unset] [(.ref a7)]
  refine W.dup C m0_47 rfl ?_
  refine W.iconst C m0_48 (z := (0 : Int32)) rfl ?_
  refine W.iload C m0_49 rfl ?_
  refine W.bastore C m0_51 A10 (i := 0) rfl (Nat.le_of_ble_eq_true rfl) g11 ?_
  intro h13 W14 A15
  have z16 : n0 ≤ h13.size := Nat.le_trans z12 (Nat.le_of_eq (Wr.size W14).symm)
  have A17 : Av Z h13 a7 .byte [(.int v5.toInt8.toInt32), (.int (0 : Int32)), (.int (0 : Int32)), (.int (0 : Int32)), (.int (0 : Int32)), (.int (0 : Int32)), (.int (0 : Int32)), (.int (0 : Int32)), (.int (0 : Int32)), (.int (0 : Int32)), (.int (0 : Int32)), (.int (0 : Int32)), (.int (0 : Int32)), (.int (0 : Int32)), (.int (0 : Int32)), (.int (0 : Int32))] := A15
  refine W.dup C m0_52 rfl ?_
  refine W.iconst C m0_53 (z := (1 : Int32)) rfl ?_
  refine W.iload C m0_54 rfl ?_
  refine W.bastore C m0_56 A17 (i := 1) rfl (Nat.le_of_ble_eq_true rfl) g11 ?_
  intro h18 W19 A20
  have z21 : n0 ≤ h18.size := Nat.le_trans z16 (Nat.le_of_eq (Wr.size W19).symm)
  have A22 : Av Z h18 a7 .byte [(.int v5.toInt8.toInt32), (.int v5.toInt8.toInt32), (.int (0 : Int32)), (.int (0 : Int32)), (.int (0 : Int32)), (.int (0 : Int32)), (.int (0 : Int32)), (.int (0 : Int32)), (.int (0 : Int32)), (.int (0 : Int32)), (.int (0 : Int32)), (.int (0 : Int32)), (.int (0 : Int32)), (.int (0 : Int32)), (.int (0 : Int32)), (.int (0 : Int32))] := A20
  refine W.dup C m0_57 rfl ?_
  refine W.iconst C m0_58 (z := (2 : Int32)) rfl ?_
  refine W.iload C m0_59 rfl ?_
  refine W.bastore C m0_61 A22 (i := 2) rfl (Nat.le_of_ble_eq_true rfl) g11 ?_
  intro h23 W24 A25
  have z26 : n0 ≤ h23.size := Nat.le_trans z21 (Nat.le_of_eq (Wr.size W24).symm)
  have A27 : Av Z h23 a7 .byte [(.int v5.toInt8.toInt32), (.int v5.toInt8.toInt32), (.int v5.toInt8.toInt32), (.int (0 : Int32)), (.int (0 : Int32)), (.int (0 : Int32)), (.int (0 : Int32)), (.int (0 : Int32)), (.int (0 : Int32)), (.int (0 : Int32)), (.int (0 : Int32)), (.int (0 : Int32)), (.int (0 : Int32)), (.int (0 : Int32)), (.int (0 : Int32)), (.int (0 : Int32))] := A25
  refine W.dup C m0_62 rfl ?_
  refine W.iconst C m0_63 (z := (3 : Int32)) rfl ?_
  refine W.iload C m0_64 rfl ?_
  refine W.bastore C m0_66 A27 (i := 3) rfl (Nat.le_of_ble_eq_true rfl) g11 ?_
  intro h28 W29 A30
  have z31 : n0 ≤ h28.size := Nat.le_trans z26 (Nat.le_of_eq (Wr.size W29).symm)
  have A32 : Av Z h28 a7 .byte [(.int v5.toInt8.toInt32), (.int v5.toInt8.toInt32), (.int v5.toInt8.toInt32), (.int v5.toInt8.toInt32), (.int (0 : Int32)), (.int (0 : Int32)), (.int (0 : Int32)), (.int (0 : Int32)), (.int (0 : Int32)), (.int (0 : Int32)), (.int (0 : Int32)), (.int (0 : Int32)), (.int (0 : Int32)), (.int (0 : Int32)), (.int (0 : Int32)), (.int (0 : Int32))] := A30
  refine W.dup C m0_67 rfl ?_
  refine W.iconst C m0_68 (z := (4 : Int32)) rfl ?_
  refine W.iload C m0_69 rfl ?_
  refine W.bastore C m0_71 A32 (i := 4) rfl (Nat.le_of_ble_eq_true rfl) g11 ?_
  intro h33 W34 A35
  have z36 : n0 ≤ h33.size := Nat.le_trans z31 (Nat.le_of_eq (Wr.size W34).symm)
  have A37 : Av Z h33 a7 .byte [(.int v5.toInt8.toInt32), (.int v5.toInt8.toInt32), (.int v5.toInt8.toInt32), (.int v5.toInt8.toInt32), (.int v5.toInt8.toInt32), (.int (0 : Int32)), (.int (0 : Int32)), (.int (0 : Int32)), (.int (0 : Int32)), (.int (0 : Int32)), (.int (0 : Int32)), (.int (0 : Int32)), (.int (0 : Int32)), (.int (0 : Int32)), (.int (0 : Int32)), (.int (0 : Int32))] := A35
  refine W.dup C m0_72 rfl ?_
  refine W.iconst C m0_73 (z := (5 : Int32)) rfl ?_
  refine W.iload C m0_74 rfl ?_
  refine W.bastore C m0_76 A37 (i := 5) rfl (Nat.le_of_ble_eq_true rfl) g11 ?_
  intro h38 W39 A40
  have z41 : n0 ≤ h38.size := Nat.le_trans z36 (Nat.le_of_eq (Wr.size W39).symm)
  have A42 : Av Z h38 a7 .byte [(.int v5.toInt8.toInt32), (.int v5.toInt8.toInt32), (.int v5.toInt8.toInt32), (.int v5.toInt8.toInt32), (.int v5.toInt8.toInt32), (.int v5.toInt8.toInt32), (.int (0 : Int32)), (.int (0 : Int32)), (.int (0 : Int32)), (.int (0 : Int32)), (.int (0 : Int32)), (.int (0 : Int32)), (.int (0 : Int32)), (.int (0 : Int32)), (.int (0 : Int32)), (.int (0 : Int32))] := A40
  refine W.dup C m0_77 rfl ?_
  refine W.bipush C m0_78 (z := (6 : Int32)) rfl ?_
  refine W.iload C m0_80 rfl ?_
  refine W.bastore C m0_82 A42 (i := 6) rfl (Nat.le_of_ble_eq_true rfl) g11 ?_
  intro h43 W44 A45
  have z46 : n0 ≤ h43.size := Nat.le_trans z41 (Nat.le_of_eq (Wr.size W44).symm)
  have A47 : Av Z h43 a7 .byte [(.int v5.toInt8.toInt32), (.int v5.toInt8.toInt32), (.int v5.toInt8.toInt32), (.int v5.toInt8.toInt32), (.int v5.toInt8.toInt32), (.int v5.toInt8.toInt32), (.int v5.toInt8.toInt32), (.int (0 : Int32)), (.int (0 : Int32)), (.int (0 : Int32)), (.int (0 : Int32)), (.int (0 : Int32)), (.int (0 : Int32)), (.int (0 : Int32)), (.int (0 : Int32)), (.int (0 : Int32))] := A45
  refine W.dup C m0_83 rfl ?_
  refine W.bipush C m0_84 (z := (7 : Int32)) rfl ?_
  refine W.iload C m0_86 rfl ?_
  refine W.bastore C m0_88 A47 (i := 7) rfl (Nat.le_of_ble_eq_true rfl) g11 ?_
  intro h48 W49 A50
  have z51 : n0 ≤ h48.size := Nat.le_trans z46 (Nat.le_of_eq (Wr.size W49).symm)
  have A52 : Av Z h48 a7 .byte [(.int v5.toInt8.toInt32), (.int v5.toInt8.toInt32), (.int v5.toInt8.toInt32), (.int v5.toInt8.toInt32), (.int v5.toInt8.toInt32), (.int v5.toInt8.toInt32), (.int v5.toInt8.toInt32), (.int v5.toInt8.toInt32), (.int (0 : Int32)), (.int (0 : Int32)), (.int (0 : Int32)), (.int (0 : Int32)), (.int (0 : Int32)), (.int (0 : Int32)), (.int (0 : Int32)), (.int (0 : Int32))] := A50
  refine W.dup C m0_89 rfl ?_
  refine W.bipush C m0_90 (z := (8 : Int32)) rfl ?_
  refine W.iload C m0_92 rfl ?_
  refine W.bastore C m0_94 A52 (i := 8) rfl (Nat.le_of_ble_eq_true rfl) g11 ?_
  intro h53 W54 A55
  have z56 : n0 ≤ h53.size := Nat.le_trans z51 (Nat.le_of_eq (Wr.size W54).symm)
  have A57 : Av Z h53 a7 .byte [(.int v5.toInt8.toInt32), (.int v5.toInt8.toInt32), (.int v5.toInt8.toInt32), (.int v5.toInt8.toInt32), (.int v5.toInt8.toInt32), (.int v5.toInt8.toInt32), (.int v5.toInt8.toInt32), (.int v5.toInt8.toInt32), (.int v5.toInt8.toInt32), (.int (0 : Int32)), (.int (0 : Int32)), (.int (0 : Int32)), (.int (0 : Int32)), (.int (0 : Int32)), (.int (0 : Int32)), (.int (0 : Int32))] := A55
  refine W.dup C m0_95 rfl ?_
  refine W.bipush C m0_96 (z := (9 : Int32)) rfl ?_
  refine W.iload C m0_98 rfl ?_
  refine W.bastore C m0_100 A57 (i := 9) rfl (Nat.le_of_ble_eq_true rfl) g11 ?_
  intro h58 W59 A60
  have z61 : n0 ≤ h58.size := Nat.le_trans z56 (Nat.le_of_eq (Wr.size W59).symm)
  have A62 : Av Z h58 a7 .byte [(.int v5.toInt8.toInt32), (.int v5.toInt8.toInt32), (.int v5.toInt8.toInt32), (.int v5.toInt8.toInt32), (.int v5.toInt8.toInt32), (.int v5.toInt8.toInt32), (.int v5.toInt8.toInt32), (.int v5.toInt8.toInt32), (.int v5.toInt8.toInt32), (.int v5.toInt8.toInt32), (.int (0 : Int32)), (.int (0 : Int32)), (.int (0 : Int32)), (.int (0 : Int32)), (.int (0 : Int32)), (.int (0 : Int32))] := A60
  refine W.dup C m0_101 rfl ?_
  refine W.bipush C m0_102 (z := (10 : Int32)) rfl ?_
  refine W.iload C m0_104 rfl ?_
  refine W.bastore C m0_106 A62 (i := 10) rfl (Nat.le_of_ble_eq_true rfl) g11 ?_
  intro h63 W64 A65
  have z66 : n0 ≤ h63.size := Nat.le_trans z61 (Nat.le_of_eq (Wr.size W64).symm)
  have A67 : Av Z h63 a7 .byte [(.int v5.toInt8.toInt32), (.int v5.toInt8.toInt32), (.int v5.toInt8.toInt32), (.int v5.toInt8.toInt32), (.int v5.toInt8.toInt32), (.int v5.toInt8.toInt32), (.int v5.toInt8.toInt32), (.int v5.toInt8.toInt32), (.int v5.toInt8.toInt32), (.int v5.toInt8.toInt32), (.int v5.toInt8.toInt32), (.int (0 : Int32)), (.int (0 : Int32)), (.int (0 : Int32)), (.int (0 : Int32)), (.int (0 : Int32))] := A65
  refine W.dup C m0_107 rfl ?_
  refine W.bipush C m0_108 (z := (11 : Int32)) rfl ?_
  refine W.iload C m0_110 rfl ?_
  refine W.bastore C m0_112 A67 (i := 11) rfl (Nat.le_of_ble_eq_true rfl) g11 ?_
  intro h68 W69 A70
  have z71 : n0 ≤ h68.size := Nat.le_trans z66 (Nat.le_of_eq (Wr.size W69).symm)
  have A72 : Av Z h68 a7 .byte [(.int v5.toInt8.toInt32), (.int v5.toInt8.toInt32), (.int v5.toInt8.toInt32), (.int v5.toInt8.toInt32), (.int v5.toInt8.toInt32), (.int v5.toInt8.toInt32), (.int v5.toInt8.toInt32), (.int v5.toInt8.toInt32), (.int v5.toInt8.toInt32), (.int v5.toInt8.toInt32), (.int v5.toInt8.toInt32), (.int v5.toInt8.toInt32), (.int (0 : Int32)), (.int (0 : Int32)), (.int (0 : Int32)), (.int (0 : Int32))] := A70
  refine W.dup C m0_113 rfl ?_
  refine W.bipush C m0_114 (z := (12 : Int32)) rfl ?_
  refine W.iload C m0_116 rfl ?_
  refine W.bastore C m0_118 A72 (i := 12) rfl (Nat.le_of_ble_eq_true rfl) g11 ?_
  intro h73 W74 A75
  have z76 : n0 ≤ h73.size := Nat.le_trans z71 (Nat.le_of_eq (Wr.size W74).symm)
  have A77 : Av Z h73 a7 .byte [(.int v5.toInt8.toInt32), (.int v5.toInt8.toInt32), (.int v5.toInt8.toInt32), (.int v5.toInt8.toInt32), (.int v5.toInt8.toInt32), (.int v5.toInt8.toInt32), (.int v5.toInt8.toInt32), (.int v5.toInt8.toInt32), (.int v5.toInt8.toInt32), (.int v5.toInt8.toInt32), (.int v5.toInt8.toInt32), (.int v5.toInt8.toInt32), (.int v5.toInt8.toInt32), (.int (0 : Int32)), (.int (0 : Int32)), (.int (0 : Int32))] := A75
  refine W.dup C m0_119 rfl ?_
  refine W.bipush C m0_120 (z := (13 : Int32)) rfl ?_
  refine W.iload C m0_122 rfl ?_
  refine W.bastore C m0_124 A77 (i := 13) rfl (Nat.le_of_ble_eq_true rfl) g11 ?_
  intro h78 W79 A80
  have z81 : n0 ≤ h78.size := Nat.le_trans z76 (Nat.le_of_eq (Wr.size W79).symm)
  have A82 : Av Z h78 a7 .byte [(.int v5.toInt8.toInt32), (.int v5.toInt8.toInt32), (.int v5.toInt8.toInt32), (.int v5.toInt8.toInt32), (.int v5.toInt8.toInt32), (.int v5.toInt8.toInt32), (.int v5.toInt8.toInt32), (.int v5.toInt8.toInt32), (.int v5.toInt8.toInt32), (.int v5.toInt8.toInt32), (.int v5.toInt8.toInt32), (.int v5.toInt8.toInt32), (.int v5.toInt8.toInt32), (.int v5.toInt8.toInt32), (.int (0 : Int32)), (.int (0 : Int32))] := A80
  refine W.dup C m0_125 rfl ?_
  refine W.bipush C m0_126 (z := (14 : Int32)) rfl ?_
  refine W.iload C m0_128 rfl ?_
  refine W.bastore C m0_130 A82 (i := 14) rfl (Nat.le_of_ble_eq_true rfl) g11 ?_
  intro h83 W84 A85
  have z86 : n0 ≤ h83.size := Nat.le_trans z81 (Nat.le_of_eq (Wr.size W84).symm)
  have A87 : Av Z h83 a7 .byte [(.int v5.toInt8.toInt32), (.int v5.toInt8.toInt32), (.int v5.toInt8.toInt32), (.int v5.toInt8.toInt32), (.int v5.toInt8.toInt32), (.int v5.toInt8.toInt32), (.int v5.toInt8.toInt32), (.int v5.toInt8.toInt32), (.int v5.toInt8.toInt32), (.int v5.toInt8.toInt32), (.int v5.toInt8.toInt32), (.int v5.toInt8.toInt32), (.int v5.toInt8.toInt32), (.int v5.toInt8.toInt32), (.int v5.toInt8.toInt32), (.int (0 : Int32))] := A85
  refine W.dup C m0_131 rfl ?_
  refine W.bipush C m0_132 (z := (15 : Int32)) rfl ?_
  refine W.iload C m0_134 rfl ?_
  refine W.bastore C m0_136 A87 (i := 15) rfl (Nat.le_of_ble_eq_true rfl) g11 ?_
  intro h88 W89 A90
  have z91 : n0 ≤ h88.size := Nat.le_trans z86 (Nat.le_of_eq (Wr.size W89).symm)
  have A92 : Av Z h88 a7 .byte [(.int v5.toInt8.toInt32), (.int v5.toInt8.toInt32), (.int v5.toInt8.toInt32), (.int v5.toInt8.toInt32), (.int v5.toInt8.toInt32), (.int v5.toInt8.toInt32), (.int v5.toInt8.toInt32), (.int v5.toInt8.toInt32), (.int v5.toInt8.toInt32), (.int v5.toInt8.toInt32), (.int v5.toInt8.toInt32), (.int v5.toInt8.toInt32), (.int v5.toInt8.toInt32), (.int v5.toInt8.toInt32), (.int v5.toInt8.toInt32), (.int v5.toInt8.toInt32)] := A90
  refine W.astore C m0_137 (L' := [.val (.int p0), .val (.int p1), .val (.long q2), .second, .val (.int p3), .val (.int p4), .val (.int p5), .val (.int v1), .val (.int v2), .val (.long v3), .second, .val (.int w4), .val (.int v5), .val (.ref a7), .unset, .unset, .unset, .unset]) rfl rfl ?_
  obtain ⟨bs93, hbs93⟩ : ∃ l : List Int32, l = [v5.toInt8.toInt32, v5.toInt8.toInt32, v5.toInt8.toInt32, v5.toInt8.toInt32, v5.toInt8.toInt32, v5.toInt8.toInt32, v5.toInt8.toInt32, v5.toInt8.toInt32, v5.toInt8.toInt32, v5.toInt8.toInt32, v5.toInt8.toInt32, v5.toInt8.toInt32, v5.toInt8.toInt32, v5.toInt8.toInt32, v5.toInt8.toInt32, v5.toInt8.toInt32] := ⟨_, rfl⟩
  have A94 : Av Z h88 a7 .byte (bs93.map Value.int) := by rw [hbs93]; exact A92
  have hlbs93 : bs93.length = 16 := by rw [hbs93]; rfl
  refine W.bipush C m0_139 (z := (16 : Int32)) rfl ?_
  refine W.newarray (a0 := a0) (vs := [(.int (0 : Int32)), (.int (0 : Int32)), (.int (0 : Int32)), (.int (0 : Int32)), (.int (0 : Int32)), (.int (0 : Int32)), (.int (0 : Int32)), (.int (0 : Int32)), (.int (0 : Int32)), (.int (0 : Int32)), (.int (0 : Int32)), (.int (0 : Int32)), (.int (0 : Int32)), (.int (0 : Int32)), (.int (0 : Int32)), (.int (0 : Int32))]) 16 C m0_141 rfl (hw _ (List.mem_of_getElem? (i := 1) rfl)) (by decide) (by decide) rfl (by decide) (by decide) (by decide) ?_
  intro h95 a96 g97 E98 A99
  have ne100 : a7 ≠ a96 := Nat.ne_of_lt (Nat.lt_of_lt_of_eq A94.lt g97)
  have g101 : n0 ≤ a96 := Nat.le_trans z91 (Nat.le_of_eq g97)
  have z102 : n0 ≤ h95.size := Nat.le_trans z91 E98.1
  have A103 := A94.ext E98
  show W κ n0 Qx h95 2 32 143 [.val (.int p0), .val (.int p1), .val (.long q2), .second, .val (.int p3), .val (.int p4), .val (.int p5), .val (.int v1), .val (.int v2), .val (.long v3), .second, .val (.int w4), .val (.int v5), .val (.ref a7), .unset, .unset, .unset, .unset] [(.ref a96)]
  refine W.dup C m0_143 rfl ?_
  refine W.iconst C m0_144 (z := (0 : Int32)) rfl ?_
  refine W.iload C m0_145 rfl ?_
  refine W.bastore C m0_147 A99 (i := 0) rfl (Nat.le_of_ble_eq_true rfl) g101 ?_
  intro h104 W105 A106
  have z107 : n0 ≤ h104.size := Nat.le_trans z102 (Nat.le_of_eq (Wr.size W105).symm)
  have A108 := A103.other W105 ne100
  have A109 : Av Z h104 a96 .byte [(.int v5.toInt8.toInt32), (.int (0 : Int32)), (.int (0 : Int32)), (.int (0 : Int32)), (.int (0 : Int32)), (.int (0 : Int32)), (.int (0 : Int32)), (.int (0 : Int32)), (.int (0 : Int32)), (.int (0 : Int32)), (.int (0 : Int32)), (.int (0 : Int32)), (.int (0 : Int32)), (.int (0 : Int32)), (.int (0 : Int32)), (.int (0 : Int32))] := A106
  refine W.dup C m0_148 rfl ?_
  refine W.iconst C m0_149 (z := (1 : Int32)) rfl ?_
  refine W.iload C m0_150 rfl ?_
  refine W.bastore C m0_152 A109 (i := 1) rfl (Nat.le_of_ble_eq_true rfl) g101 ?_
  intro h110 W111 A112
  have z113 : n0 ≤ h110.size := Nat.le_trans z107 (Nat.le_of_eq (Wr.size W111).symm)
  have A114 := A108.other W111 ne100
  have A115 : Av Z h110 a96 .byte [(.int v5.toInt8.toInt32), (.int v5.toInt8.toInt32), (.int (0 : Int32)), (.int (0 : Int32)), (.int (0 : Int32)), (.int (0 : Int32)), (.int (0 : Int32)), (.int (0 : Int32)), (.int (0 : Int32)), (.int (0 : Int32)), (.int (0 : Int32)), (.int (0 : Int32)), (.int (0 : Int32)), (.int (0 : Int32)), (.int (0 : Int32)), (.int (0 : Int32))] := A112
  refine W.dup C m0_153 rfl ?_
  refine W.iconst C m0_154 (z := (2 : Int32)) rfl ?_
  refine W.iload C m0_155 rfl ?_
  refine W.bastore C m0_157 A115 (i := 2) rfl (Nat.le_of_ble_eq_true rfl) g101 ?_
  intro h116 W117 A118
  have z119 : n0 ≤ h116.size := Nat.le_trans z113 (Nat.le_of_eq (Wr.size W117).symm)
  have A120 := A114.other W117 ne100
  have A121 : Av Z h116 a96 .byte [(.int v5.toInt8.toInt32), (.int v5.toInt8.toInt32), (.int v5.toInt8.toInt32), (.int (0 : Int32)), (.int (0 : Int32)), (.int (0 : Int32)), (.int (0 : Int32)), (.int (0 : Int32)), (.int (0 : Int32)), (.int (0 : Int32)), (.int (0 : Int32)), (.int (0 : Int32)), (.int (0 : Int32)), (.int (0 : Int32)), (.int (0 : Int32)), (.int (0 : Int32))] := A118
  refine W.dup C m0_158 rfl ?_
  refine W.iconst C m0_159 (z := (3 : Int32)) rfl ?_
  refine W.iload C m0_160 rfl ?_
  refine W.bastore C m0_162 A121 (i := 3) rfl (Nat.le_of_ble_eq_true rfl) g101 ?_
  intro h122 W123 A124
  have z125 : n0 ≤ h122.size := Nat.le_trans z119 (Nat.le_of_eq (Wr.size W123).symm)
  have A126 := A120.other W123 ne100
  have A127 : Av Z h122 a96 .byte [(.int v5.toInt8.toInt32), (.int v5.toInt8.toInt32), (.int v5.toInt8.toInt32), (.int v5.toInt8.toInt32), (.int (0 : Int32)), (.int (0 : Int32)), (.int (0 : Int32)), (.int (0 : Int32)), (.int (0 : Int32)), (.int (0 : Int32)), (.int (0 : Int32)), (.int (0 : Int32)), (.int (0 : Int32)), (.int (0 : Int32)), (.int (0 : Int32)), (.int (0 : Int32))] := A124
  refine W.dup C m0_163 rfl ?_
  refine W.iconst C m0_164 (z := (4 : Int32)) rfl ?_
  refine W.iload C m0_165 rfl ?_
  refine W.bastore C m0_167 A127 (i := 4) rfl (Nat.le_of_ble_eq_true rfl) g101 ?_
  intro h128 W129 A130
  have z131 : n0 ≤ h128.size := Nat.le_trans z125 (Nat.le_of_eq (Wr.size W129).symm)
  have A132 := A126.other W129 ne100
  have A133 : Av Z h128 a96 .byte [(.int v5.toInt8.toInt32), (.int v5.toInt8.toInt32), (.int v5.toInt8.toInt32), (.int v5.toInt8.toInt32), (.int v5.toInt8.toInt32), (.int (0 : Int32)), (.int (0 : Int32)), (.int (0 : Int32)), (.int (0 : Int32)), (.int (0 : Int32)), (.int (0 : Int32)), (.int (0 : Int32)), (.int (0 : Int32)), (.int (0 : Int32)), (.int (0 : Int32)), (.int (0 : Int32))] := A130
  refine W.dup C m0_168 rfl ?_
  refine W.iconst C m0_169 (z := (5 : Int32)) rfl ?_
  refine W.iload C m0_170 rfl ?_
  refine W.bastore C m0_172 A133 (i := 5) rfl (Nat.le_of_ble_eq_true rfl) g101 ?_
  intro h134 W135 A136
  have z137 : n0 ≤ h134.size := Nat.le_trans z131 (Nat.le_of_eq (Wr.size W135).symm)
  have A138 := A132.other W135 ne100
  have A139 : Av Z h134 a96 .byte [(.int v5.toInt8.toInt32), (.int v5.toInt8.toInt32), (.int v5.toInt8.toInt32), (.int v5.toInt8.toInt32), (.int v5.toInt8.toInt32), (.int v5.toInt8.toInt32), (.int (0 : Int32)), (.int (0 : Int32)), (.int (0 : Int32)), (.int (0 : Int32)), (.int (0 : Int32)), (.int (0 : Int32)), (.int (0 : Int32)), (.int (0 : Int32)), (.int (0 : Int32)), (.int (0 : Int32))] := A136
  refine W.dup C m0_173 rfl ?_
  refine W.bipush C m0_174 (z := (6 : Int32)) rfl ?_
  refine W.iload C m0_176 rfl ?_
  refine W.bastore C m0_178 A139 (i := 6) rfl (Nat.le_of_ble_eq_true rfl) g101 ?_
  intro h140 W141 A142
  have z143 : n0 ≤ h140.size := Nat.le_trans z137 (Nat.le_of_eq (Wr.size W141).symm)
  have A144 := A138.other W141 ne100
  have A145 : Av Z h140 a96 .byte [(.int v5.toInt8.toInt32), (.int v5.toInt8.toInt32), (.int v5.toInt8.toInt32), (.int v5.toInt8.toInt32), (.int v5.toInt8.toInt32), (.int v5.toInt8.toInt32), (.int v5.toInt8.toInt32), (.int (0 : Int32)), (.int (0 : Int32)), (.int (0 : Int32)), (.int (0 : Int32)), (.int (0 : Int32)), (.int (0 : Int32)), (.int (0 : Int32)), (.int (0 : Int32)), (.int (0 : Int32))] := A142
  refine W.dup C m0_179 rfl ?_
  refine W.bipush C m0_180 (z := (7 : Int32)) rfl ?_
  refine W.iload C m0_182 rfl ?_
  refine W.bastore C m0_184 A145 (i := 7) rfl (Nat.le_of_ble_eq_true rfl) g101 ?_
  intro h146 W147 A148
  have z149 : n0 ≤ h146.size := Nat.le_trans z143 (Nat.le_of_eq (Wr.size W147).symm)
  have A150 := A144.other W147 ne100
  have A151 : Av Z h146 a96 .byte [(.int v5.toInt8.toInt32), (.int v5.toInt8.toInt32), (.int v5.toInt8.toInt32), (.int v5.toInt8.toInt32), (.int v5.toInt8.toInt32), (.int v5.toInt8.toInt32), (.int v5.toInt8.toInt32), (.int v5.toInt8.toInt32), (.int (0 : Int32)), (.int (0 : Int32)), (.int (0 : Int32)), (.int (0 : Int32)), (.int (0 : Int32)), (.int (0 : Int32)), (.int (0 : Int32)), (.int (0 : Int32))] := A148
  refine W.dup C m0_185 rfl ?_
  refine W.bipush C m0_186 (z := (8 : Int32)) rfl ?_
  refine W.iload C m0_188 rfl ?_
  refine W.bastore C m0_190 A151 (i := 8) rfl (Nat.le_of_ble_eq_true rfl) g101 ?_
  intro h152 W153 A154
  have z155 : n0 ≤ h152.size := Nat.le_trans z149 (Nat.le_of_eq (Wr.size W153).symm)
  have A156 := A150.other W153 ne100
  have A157 : Av Z h152 a96 .byte [(.int v5.toInt8.toInt32), (.int v5.toInt8.toInt32), (.int v5.toInt8.toInt32), (.int v5.toInt8.toInt32), (.int v5.toInt8.toInt32), (.int v5.toInt8.toInt32), (.int v5.toInt8.toInt32), (.int v5.toInt8.toInt32), (.int v5.toInt8.toInt32), (.int (0 : Int32)), (.int (0 : Int32)), (.int (0 : Int32)), (.int (0 : Int32)), (.int (0 : Int32)), (.int (0 : Int32)), (.int (0 : Int32))] := A154
  refine W.dup C m0_191 rfl ?_
  refine W.bipush C m0_192 (z := (9 : Int32)) rfl ?_
  refine W.iload C m0_194 rfl ?_
  refine W.bastore C m0_196 A157 (i := 9) rfl (Nat.le_of_ble_eq_true rfl) g101 ?_
  intro h158 W159 A160
  have z161 : n0 ≤ h158.size := Nat.le_trans z155 (Nat.le_of_eq (Wr.size W159).symm)
  have A162 := A156.other W159 ne100
  have A163 : Av Z h158 a96 .byte [(.int v5.toInt8.toInt32), (.int v5.toInt8.toInt32), (.int v5.toInt8.toInt32), (.int v5.toInt8.toInt32), (.int v5.toInt8.toInt32), (.int v5.toInt8.toInt32), (.int v5.toInt8.toInt32), (.int v5.toInt8.toInt32), (.int v5.toInt8.toInt32), (.int v5.toInt8.toInt32), (.int (0 : Int32)), (.int (0 : Int32)), (.int (0 : Int32)), (.int (0 : Int32)), (.int (0 : Int32)), (.int (0 : Int32))] := A160
  refine W.dup C m0_197 rfl ?_
  refine W.bipush C m0_198 (z := (10 : Int32)) rfl ?_
  refine W.iload C m0_200 rfl ?_
  refine W.bastore C m0_202 A163 (i := 10) rfl (Nat.le_of_ble_eq_true rfl) g101 ?_
  intro h164 W165 A166
  have z167 : n0 ≤ h164.size := Nat.le_trans z161 (Nat.le_of_eq (Wr.size W165).symm)
  have A168 := A162.other W165 ne100
  have A169 : Av Z h164 a96 .byte [(.int v5.toInt8.toInt32), (.int v5.toInt8.toInt32), (.int v5.toInt8.toInt32), (.int v5.toInt8.toInt32), (.int v5.toInt8.toInt32), (.int v5.toInt8.toInt32), (.int v5.toInt8.toInt32), (.int v5.toInt8.toInt32), (.int v5.toInt8.toInt32), (.int v5.toInt8.toInt32), (.int v5.toInt8.toInt32), (.int (0 : Int32)), (.int (0 : Int32)), (.int (0 : Int32)), (.int (0 : Int32)), (.int (0 : Int32))] := A166
  refine W.dup C m0_203 rfl ?_
  refine W.bipush C m0_204 (z := (11 : Int32)) rfl ?_
  refine W.iload C m0_206 rfl ?_
  refine W.bastore C m0_208 A169 (i := 11) rfl (Nat.le_of_ble_eq_true rfl) g101 ?_
  intro h170 W171 A172
  have z173 : n0 ≤ h170.size := Nat.le_trans z167 (Nat.le_of_eq (Wr.size W171).symm)
  have A174 := A168.other W171 ne100
  have A175 : Av Z h170 a96 .byte [(.int v5.toInt8.toInt32), (.int v5.toInt8.toInt32), (.int v5.toInt8.toInt32), (.int v5.toInt8.toInt32), (.int v5.toInt8.toInt32), (.int v5.toInt8.toInt32), (.int v5.toInt8.toInt32), (.int v5.toInt8.toInt32), (.int v5.toInt8.toInt32), (.int v5.toInt8.toInt32), (.int v5.toInt8.toInt32), (.int v5.toInt8.toInt32), (.int (0 : Int32)), (.int (0 : Int32)), (.int (0 : Int32)), (.int (0 : Int32))] := A172
  refine W.dup C m0_209 rfl ?_
  refine W.bipush C m0_210 (z := (12 : Int32)) rfl ?_
  refine W.iload C m0_212 rfl ?_
  refine W.bastore C m0_214 A175 (i := 12) rfl (Nat.le_of_ble_eq_true rfl) g101 ?_
  intro h176 W177 A178
  have z179 : n0 ≤ h176.size := Nat.le_trans z173 (Nat.le_of_eq (Wr.size W177).symm)
  have A180 := A174.other W177 ne100
  have A181 : Av Z h176 a96 .byte [(.int v5.toInt8.toInt32), (.int v5.toInt8.toInt32), (.int v5.toInt8.toInt32), (.int v5.toInt8.toInt32), (.int v5.toInt8.toInt32), (.int v5.toInt8.toInt32), (.int v5.toInt8.toInt32), (.int v5.toInt8.toInt32), (.int v5.toInt8.toInt32), (.int v5.toInt8.toInt32), (.int v5.toInt8.toInt32), (.int v5.toInt8.toInt32), (.int v5.toInt8.toInt32), (.int (0 : Int32)), (.int (0 : Int32)), (.int (0 : Int32))] := A178
  refine W.dup C m0_215 rfl ?_
  refine W.bipush C m0_216 (z := (13 : Int32)) rfl ?_
  refine W.iload C m0_218 rfl ?_
  refine W.bastore C m0_220 A181 (i := 13) rfl (Nat.le_of_ble_eq_true rfl) g101 ?_
  intro h182 W183 A184
  have z185 : n0 ≤ h182.size := Nat.le_trans z179 (Nat.le_of_eq (Wr.size W183).symm)
  have A186 := A180.other W183 ne100
  have A187 : Av Z h182 a96 .byte [(.int v5.toInt8.toInt32), (.int v5.toInt8.toInt32), (.int v5.toInt8.toInt32), (.int v5.toInt8.toInt32), (.int v5.toInt8.toInt32), (.int v5.toInt8.toInt32), (.int v5.toInt8.toInt32), (.int v5.toInt8.toInt32), (.int v5.toInt8.toInt32), (.int v5.toInt8.toInt32), (.int v5.toInt8.toInt32), (.int v5.toInt8.toInt32), (.int v5.toInt8.toInt32), (.int v5.toInt8.toInt32), (.int (0 : Int32)), (.int (0 : Int32))] := A184
  refine W.dup C m0_221 rfl ?_
  refine W.bipush C m0_222 (z := (14 : Int32)) rfl ?_
  refine W.iload C m0_224 rfl ?_
  refine W.bastore C m0_226 A187 (i := 14) rfl (Nat.le_of_ble_eq_true rfl) g101 ?_
  intro h188 W189 A190
  have z191 : n0 ≤ h188.size := Nat.le_trans z185 (Nat.le_of_eq (Wr.size W189).symm)
  have A192 := A186.other W189 ne100
  have A193 : Av Z h188 a96 .byte [(.int v5.toInt8.toInt32), (.int v5.toInt8.toInt32), (.int v5.toInt8.toInt32), (.int v5.toInt8.toInt32), (.int v5.toInt8.toInt32), (.int v5.toInt8.toInt32), (.int v5.toInt8.toInt32), (.int v5.toInt8.toInt32), (.int v5.toInt8.toInt32), (.int v5.toInt8.toInt32), (.int v5.toInt8.toInt32), (.int v5.toInt8.toInt32), (.int v5.toInt8.toInt32), (.int v5.toInt8.toInt32), (.int v5.toInt8.toInt32), (.int (0 : Int32))] := A190
  refine W.dup C m0_227 rfl ?_
  refine W.bipush C m0_228 (z := (15 : Int32)) rfl ?_
  refine W.iload C m0_230 rfl ?_
  refine W.bastore C m0_232 A193 (i := 15) rfl (Nat.le_of_ble_eq_true rfl) g101 ?_
  intro h194 W195 A196
  have z197 : n0 ≤ h194.size := Nat.le_trans z191 (Nat.le_of_eq (Wr.size W195).symm)
  have A198 := A192.other W195 ne100
  have A199 : Av Z h194 a96 .byte [(.int v5.toInt8.toInt32), (.int v5.toInt8.toInt32), (.int v5.toInt8.toInt32), (.int v5.toInt8.toInt32), (.int v5.toInt8.toInt32), (.int v5.toInt8.toInt32), (.int v5.toInt8.toInt32), (.int v5.toInt8.toInt32), (.int v5.toInt8.toInt32), (.int v5.toInt8.toInt32), (.int v5.toInt8.toInt32), (.int v5.toInt8.toInt32), (.int v5.toInt8.toInt32), (.int v5.toInt8.toInt32), (.int v5.toInt8.toInt32), (.int v5.toInt8.toInt32)] := A196
  refine W.astore C m0_233 (L' := [.val (.int p0), .val (.int p1), .val (.long q2), .second, .val (.int p3), .val (.int p4), .val (.int p5), .val (.int v1), .val (.int v2), .val (.long v3), .second, .val (.int w4), .val (.int v5), .val (.ref a7), .val (.ref a96), .unset, .unset, .unset]) rfl rfl ?_
  have A201 : Av Z h194 a96 .byte (bs93.map Value.int) := by rw [hbs93]; exact A199
  refine W.aload C m0_235 rfl rfl ?_
  refine W.iload C m0_237 rfl ?_
  refine W.iload C m0_239 rfl ?_
  refine W.lload C m0_241 rfl ?_
  refine W.iload C m0_243 rfl ?_
  refine W.callS (y := y1) (wt := 0) C m0_245 (hw _ (List.mem_of_getElem? (i := 2) rfl)) (hw _ (List.mem_of_getElem? (i := 3) rfl)) (hw _ (List.mem_of_getElem? (i := 4) rfl)) (hw _ (List.mem_of_getElem? (i := 5) rfl)) (by decide) pd1 rfl (own_wh Z a0 hw a7 v1 v2 v3 w4 bs93 p 16 h194 n0 A198 hlbs93 (by omega) (by decide) hx.1 g11) (as' := [(.ref a7), (.int v1), (.int v2), (.long v3), (.int w4)]) (rest := []) rfl rfl (Nat.le_of_eq rfl) (by decide) (by decide) (by decide) (by decide) ?_
  intro r209 h207 q208
  obtain ⟨K202, mk203, cs204, r205, rfl, A206, hmk, hwh⟩ := q208
  have z210 : n0 ≤ h207.size := Nat.le_trans z197 K202.1
  have A211 := A201.keep K202 (ninS (Ne.symm ne100) nin0)
  show W κ n0 Qx h207 2 32 248 [.val (.int p0), .val (.int p1), .val (.long q2), .second, .val (.int p3), .val (.int p4), .val (.int p5), .val (.int v1), .val (.int v2), .val (.long v3), .second, .val (.int w4), .val (.int v5), .val (.ref a7), .val (.ref a96), .unset, .unset, .unset] [(.int r205)]
  refine W.istore C m0_248 (L' := [.val (.int p0), .val (.int p1), .val (.long q2), .second, .val (.int p3), .val (.int p4), .val (.int p5), .val (.int v1), .val (.int v2), .val (.long v3), .second, .val (.int w4), .val (.int v5), .val (.ref a7), .val (.ref a96), .val (.int r205), .unset, .unset]) rfl ?_
  refine W.iload C m0_250 rfl ?_
  suffices J252 : ∀ (w212 : Int32), (((w4.toInt = (0 : Int)) ∧ (w212.toInt = (0 : Int))) ∨ ((¬ w4.toInt = (0 : Int)) ∧ (w212.toInt = (128 : Int)))) → W κ n0 Qx h207 2 32 262 [.val (.int p0), .val (.int p1), .val (.long q2), .second, .val (.int p3), .val (.int p4), .val (.int p5), .val (.int v1), .val (.int v2), .val (.long v3), .second, .val (.int w4), .val (.int v5), .val (.ref a7), .val (.ref a96), .val (.int r205), .unset, .unset] [(.int w212)] by
    refine W.ifc C m0_252 ?_ ?_
    · intro (h252 : w4.toInt = (0 : Int))
      refine W.iconst C m0_261 (z := (0 : Int32)) rfl ?_
      exact J252 _ (Or.inl ⟨h252, rfl⟩)
    · intro (h252 : ¬ (w4.toInt = (0 : Int)))
      refine W.sipush C m0_255 (z := (128 : Int32)) rfl ?_
      refine W.goto C m0_258 ?_
      exact J252 _ (Or.inr (⟨h252, rfl⟩))
  intro w212 hJ252
  refine W.istore C m0_262 (L' := [.val (.int p0), .val (.int p1), .val (.long q2), .second, .val (.int p3), .val (.int p4), .val (.int p5), .val (.int v1), .val (.int v2), .val (.long v3), .second, .val (.int w4), .val (.int v5), .val (.ref a7), .val (.ref a96), .val (.int r205), .val (.int w212), .unset]) rfl ?_
  refine W.aload C m0_264 rfl rfl ?_
  refine W.iload C m0_266 rfl ?_
  refine W.sipush C m0_268 (z := (128 : Int32)) rfl ?_
  refine W.iload C m0_271 rfl ?_
  refine W.iadd C m0_273 rfl ?_
  refine W.i2b C m0_274 rfl ?_
  refine W.bastore C m0_275 A211 (i := p) hx.1 (by rw [List.length_map, hlbs93]; omega) g101 ?_
  intro h213 W214 A215
  have z216 : n0 ≤ h213.size := Nat.le_trans z210 (Nat.le_of_eq (Wr.size W214).symm)
  have A217 := A206.other W214 ne100
  have A219 := own_set A215
  obtain ⟨bs218, hbs218⟩ : ∃ l : List Int32, l = bs93.set p ((128 : Int32) + v2).toInt8.toInt32.toInt8.toInt32 := ⟨_, rfl⟩
  rw [← hbs218] at A219
  have hlbs218 : bs218.length = 16 := by rw [hbs218, List.length_set]; exact hlbs93
  refine W.lload C m0_276 rfl ?_
  refine W.ldc2 C m0_278 (hw _ (List.mem_of_getElem? (i := 7) rfl)) ?_
  refine W.lc C m0_281 m0_282 ?_ ?_
  · intro (h281 : (126 : Int) ≤ v3.toInt)
    refine W.lload C m0_308 rfl ?_
    refine W.ldc2 C m0_310 (hw _ (List.mem_of_getElem? (i := 16) rfl)) ?_
    refine W.lc C m0_313 m0_314 ?_ ?_
    · intro (h313 : (65536 : Int) ≤ v3.toInt)
      refine W.aload C m0_369 rfl rfl ?_
      refine W.iload C m0_371 rfl ?_
      refine W.iconst C m0_373 (z := (1 : Int32)) rfl ?_
      refine W.iadd C m0_374 rfl ?_
      refine W.iload C m0_375 rfl ?_
      refine W.bipush C m0_377 (z := (127 : Int32)) rfl ?_
      refine W.iadd C m0_379 rfl ?_
      refine W.i2b C m0_380 rfl ?_
      refine W.bastore C m0_381 A219 (i := (p + 1)) (own_p1 hx.1 (by omega)) (by rw [List.length_map, hlbs218]; omega) g101 ?_
      intro h220 W221 A222
      have z223 : n0 ≤ h220.size := Nat.le_trans z216 (Nat.le_of_eq (Wr.size W221).symm)
      have A224 := A217.other W221 ne100
      have A226 := own_set A222
      obtain ⟨bs225, hbs225⟩ : ∃ l : List Int32, l = bs218.set (p + 1) (w212 + (127 : Int32)).toInt8.toInt32.toInt8.toInt32 := ⟨_, rfl⟩
      rw [← hbs225] at A226
      have hlbs225 : bs225.length = 16 := by rw [hbs225, List.length_set]; exact hlbs218
      refine W.aload C m0_382 rfl rfl ?_
      refine W.iload C m0_384 rfl ?_
      refine W.iconst C m0_386 (z := (2 : Int32)) rfl ?_
      refine W.iadd C m0_387 rfl ?_
      refine W.lload C m0_388 rfl ?_
      refine W.bipush C m0_390 (z := (56 : Int32)) rfl ?_
      refine W.lushr C m0_392 rfl ?_
      refine W.l2i C m0_393 rfl ?_
      refine W.i2b C m0_394 rfl ?_
      refine W.bastore C m0_395 A226 (i := (p + 2)) (own_p2 hx.1 (by omega)) (by rw [List.length_map, hlbs225]; omega) g101 ?_
      intro h227 W228 A229
      have z230 : n0 ≤ h227.size := Nat.le_trans z223 (Nat.le_of_eq (Wr.size W228).symm)
      have A231 := A224.other W228 ne100
      have A233 := own_set A229
      obtain ⟨bs232, hbs232⟩ : ∃ l : List Int32, l = bs225.set (p + 2) (v3.toUInt64 >>> ((56 : Int32) &&& 0x3f).toInt64.toUInt64).toInt64.toInt32.toInt8.toInt32.toInt8.toInt32 := ⟨_, rfl⟩
      rw [← hbs232] at A233
      have hlbs232 : bs232.length = 16 := by rw [hbs232, List.length_set]; exact hlbs225
      refine W.aload C m0_396 rfl rfl ?_
      refine W.iload C m0_398 rfl ?_
      refine W.iconst C m0_400 (z := (3 : Int32)) rfl ?_
      refine W.iadd C m0_401 rfl ?_
      refine W.lload C m0_402 rfl ?_
      refine W.bipush C m0_404 (z := (48 : Int32)) rfl ?_
      refine W.lushr C m0_406 rfl ?_
      refine W.l2i C m0_407 rfl ?_
      refine W.i2b C m0_408 rfl ?_
      refine W.bastore C m0_409 A233 (i := (p + 3)) (own_p3 hx.1 (by omega)) (by rw [List.length_map, hlbs232]; omega) g101 ?_
      intro h234 W235 A236
      have z237 : n0 ≤ h234.size := Nat.le_trans z230 (Nat.le_of_eq (Wr.size W235).symm)
      have A238 := A231.other W235 ne100
      have A240 := own_set A236
      obtain ⟨bs239, hbs239⟩ : ∃ l : List Int32, l = bs232.set (p + 3) (v3.toUInt64 >>> ((48 : Int32) &&& 0x3f).toInt64.toUInt64).toInt64.toInt32.toInt8.toInt32.toInt8.toInt32 := ⟨_, rfl⟩
      rw [← hbs239] at A240
      have hlbs239 : bs239.length = 16 := by rw [hbs239, List.length_set]; exact hlbs232
      refine W.aload C m0_410 rfl rfl ?_
      refine W.iload C m0_412 rfl ?_
      refine W.iconst C m0_414 (z := (4 : Int32)) rfl ?_
      refine W.iadd C m0_415 rfl ?_
      refine W.lload C m0_416 rfl ?_
      refine W.bipush C m0_418 (z := (40 : Int32)) rfl ?_
      refine W.lushr C m0_420 rfl ?_
      refine W.l2i C m0_421 rfl ?_
      refine W.i2b C m0_422 rfl ?_
      refine W.bastore C m0_423 A240 (i := (p + 4)) (own_p4 hx.1 (by omega)) (by rw [List.length_map, hlbs239]; omega) g101 ?_
      intro h241 W242 A243
      have z244 : n0 ≤ h241.size := Nat.le_trans z237 (Nat.le_of_eq (Wr.size W242).symm)
      have A245 := A238.other W242 ne100
      have A247 := own_set A243
      obtain ⟨bs246, hbs246⟩ : ∃ l : List Int32, l = bs239.set (p + 4) (v3.toUInt64 >>> ((40 : Int32) &&& 0x3f).toInt64.toUInt64).toInt64.toInt32.toInt8.toInt32.toInt8.toInt32 := ⟨_, rfl⟩
      rw [← hbs246] at A247
      have hlbs246 : bs246.length = 16 := by rw [hbs246, List.length_set]; exact hlbs239
      refine W.aload C m0_424 rfl rfl ?_
      refine W.iload C m0_426 rfl ?_
      refine W.iconst C m0_428 (z := (5 : Int32)) rfl ?_
      refine W.iadd C m0_429 rfl ?_
      refine W.lload C m0_430 rfl ?_
      refine W.bipush C m0_432 (z := (32 : Int32)) rfl ?_
      refine W.lushr C m0_434 rfl ?_
      refine W.l2i C m0_435 rfl ?_
      refine W.i2b C m0_436 rfl ?_
      refine W.bastore C m0_437 A247 (i := (p + 5)) (own_p5 hx.1 (by omega)) (by rw [List.length_map, hlbs246]; omega) g101 ?_
      intro h248 W249 A250
      have z251 : n0 ≤ h248.size := Nat.le_trans z244 (Nat.le_of_eq (Wr.size W249).symm)
      have A252 := A245.other W249 ne100
      have A254 := own_set A250
      obtain ⟨bs253, hbs253⟩ : ∃ l : List Int32, l = bs246.set (p + 5) (v3.toUInt64 >>> ((32 : Int32) &&& 0x3f).toInt64.toUInt64).toInt64.toInt32.toInt8.toInt32.toInt8.toInt32 := ⟨_, rfl⟩
      rw [← hbs253] at A254
      have hlbs253 : bs253.length = 16 := by rw [hbs253, List.length_set]; exact hlbs246
      refine W.aload C m0_438 rfl rfl ?_
      refine W.iload C m0_440 rfl ?_
      refine W.bipush C m0_442 (z := (6 : Int32)) rfl ?_
      refine W.iadd C m0_444 rfl ?_
      refine W.lload C m0_445 rfl ?_
      refine W.bipush C m0_447 (z := (24 : Int32)) rfl ?_
      refine W.lushr C m0_449 rfl ?_
      refine W.l2i C m0_450 rfl ?_
      refine W.i2b C m0_451 rfl ?_
      refine W.bastore C m0_452 A254 (i := (p + 6)) (own_p6 hx.1 (by omega)) (by rw [List.length_map, hlbs253]; omega) g101 ?_
      intro h255 W256 A257
      have z258 : n0 ≤ h255.size := Nat.le_trans z251 (Nat.le_of_eq (Wr.size W256).symm)
      have A259 := A252.other W256 ne100
      have A261 := own_set A257
      obtain ⟨bs260, hbs260⟩ : ∃ l : List Int32, l = bs253.set (p + 6) (v3.toUInt64 >>> ((24 : Int32) &&& 0x3f).toInt64.toUInt64).toInt64.toInt32.toInt8.toInt32.toInt8.toInt32 := ⟨_, rfl⟩
      rw [← hbs260] at A261
      have hlbs260 : bs260.length = 16 := by rw [hbs260, List.length_set]; exact hlbs253
      refine W.aload C m0_453 rfl rfl ?_
      refine W.iload C m0_455 rfl ?_
      refine W.bipush C m0_457 (z := (7 : Int32)) rfl ?_
      refine W.iadd C m0_459 rfl ?_
      refine W.lload C m0_460 rfl ?_
      refine W.bipush C m0_462 (z := (16 : Int32)) rfl ?_
      refine W.lushr C m0_464 rfl ?_
      refine W.l2i C m0_465 rfl ?_
      refine W.i2b C m0_466 rfl ?_
      refine W.bastore C m0_467 A261 (i := (p + 7)) (own_p7 hx.1 (by omega)) (by rw [List.length_map, hlbs260]; omega) g101 ?_
      intro h262 W263 A264
      have z265 : n0 ≤ h262.size := Nat.le_trans z258 (Nat.le_of_eq (Wr.size W263).symm)
      have A266 := A259.other W263 ne100
      have A268 := own_set A264
      obtain ⟨bs267, hbs267⟩ : ∃ l : List Int32, l = bs260.set (p + 7) (v3.toUInt64 >>> ((16 : Int32) &&& 0x3f).toInt64.toUInt64).toInt64.toInt32.toInt8.toInt32.toInt8.toInt32 := ⟨_, rfl⟩
      rw [← hbs267] at A268
      have hlbs267 : bs267.length = 16 := by rw [hbs267, List.length_set]; exact hlbs260
      refine W.aload C m0_468 rfl rfl ?_
      refine W.iload C m0_470 rfl ?_
      refine W.bipush C m0_472 (z := (8 : Int32)) rfl ?_
      refine W.iadd C m0_474 rfl ?_
      refine W.lload C m0_475 rfl ?_
      refine W.bipush C m0_477 (z := (8 : Int32)) rfl ?_
      refine W.lushr C m0_479 rfl ?_
      refine W.l2i C m0_480 rfl ?_
      refine W.i2b C m0_481 rfl ?_
      refine W.bastore C m0_482 A268 (i := (p + 8)) (own_p8 hx.1 (by omega)) (by rw [List.length_map, hlbs267]; omega) g101 ?_
      intro h269 W270 A271
      have z272 : n0 ≤ h269.size := Nat.le_trans z265 (Nat.le_of_eq (Wr.size W270).symm)
      have A273 := A266.other W270 ne100
      have A275 := own_set A271
      obtain ⟨bs274, hbs274⟩ : ∃ l : List Int32, l = bs267.set (p + 8) (v3.toUInt64 >>> ((8 : Int32) &&& 0x3f).toInt64.toUInt64).toInt64.toInt32.toInt8.toInt32.toInt8.toInt32 := ⟨_, rfl⟩
      rw [← hbs274] at A275
      have hlbs274 : bs274.length = 16 := by rw [hbs274, List.length_set]; exact hlbs267
      refine W.aload C m0_483 rfl rfl ?_
      refine W.iload C m0_485 rfl ?_
      refine W.bipush C m0_487 (z := (9 : Int32)) rfl ?_
      refine W.iadd C m0_489 rfl ?_
      refine W.lload C m0_490 rfl ?_
      refine W.l2i C m0_492 rfl ?_
      refine W.i2b C m0_493 rfl ?_
      refine W.bastore C m0_494 A275 (i := (p + 9)) (own_p9 hx.1 (by omega)) (by rw [List.length_map, hlbs274]; omega) g101 ?_
      intro h276 W277 A278
      have z279 : n0 ≤ h276.size := Nat.le_trans z272 (Nat.le_of_eq (Wr.size W277).symm)
      have A280 := A273.other W277 ne100
      have A282 := own_set A278
      obtain ⟨bs281, hbs281⟩ : ∃ l : List Int32, l = bs274.set (p + 9) v3.toInt32.toInt8.toInt32.toInt8.toInt32 := ⟨_, rfl⟩
      rw [← hbs281] at A282
      have hlbs281 : bs281.length = 16 := by rw [hbs281, List.length_set]; exact hlbs274
      refine W.iload C m0_495 rfl ?_
      refine W.bipush C m0_497 (z := (10 : Int32)) rfl ?_
      refine W.iadd C m0_499 rfl ?_
      generalize hv283 : (v1 + (10 : Int32)) = v283
      refine W.istore C m0_500 (L' := [.val (.int p0), .val (.int p1), .val (.long q2), .second, .val (.int p3), .val (.int p4), .val (.int p5), .val (.int v1), .val (.int v2), .val (.long v3), .second, .val (.int w4), .val (.int v5), .val (.ref a7), .val (.ref a96), .val (.int r205), .val (.int w212), .val (.int v283)]) rfl ?_
      have hend : v283.toInt = ((p + 10 : Nat) : Int) := by rw [← hv283]; exact own_p10 hx.1 (by omega)
      refine W.iload C m0_502 rfl ?_
      refine W.iload C m0_504 rfl ?_
      refine W.icmp C m0_506 ?_ ?_
      · intro (h506 : ¬ r205.toInt = v283.toInt)
        refine W.iconst C m0_523 (z := (0 : Int32)) rfl ?_
        refine W.zreturn C m0_524 (hQ _ _ ?_)
        exfalso
        rcases hwh with ⟨g1, g2, g3⟩ | ⟨g1, g4, g2, g3⟩ | ⟨g1, g2, g3⟩ <;> omega
      · intro (h506 : ¬ ¬ r205.toInt = v283.toInt)
        replace h506 := Decidable.not_not.mp h506
        refine W.aload C m0_509 rfl rfl ?_
        refine W.aload C m0_511 rfl rfl ?_
        have hGE : cs204 = bs281 := by
          rw [hbs281, hbs274, hbs267, hbs260, hbs253, hbs246, hbs239, hbs232, hbs225, hbs218]
          rcases hwh with ⟨g1, g2, g3⟩ | ⟨g1, g4, g2, g3⟩ | ⟨g1, g2, g3⟩
          · exfalso; omega
          · exfalso; omega
          · rw [g3, own_e0 hop, own_e2 (by omega) (by omega) (by decide) (m2 := w212), own_by0]
            try rfl
        have AE := A282
        rw [← hGE] at AE
        refine W.callS (y := y2) (wt := 0) C m0_513 (hw _ (List.mem_of_getElem? (i := 8) rfl)) (hw _ (List.mem_of_getElem? (i := 9) rfl)) (hw _ (List.mem_of_getElem? (i := 10) rfl)) (hw _ (List.mem_of_getElem? (i := 11) rfl)) (by decide) pd2 rfl (own_same Z a0 hw a7 a96 cs204 h276 n0 A280 AE (by rw [hGE]; exact hlbs281)) (as' := [(.ref a7), (.ref a96)]) (rest := []) rfl rfl (Nat.le_of_eq rfl) (by decide) (by decide) (by decide) (by decide) ?_
        intro r286 h284 q285
        obtain ⟨rfl, rfl⟩ := q285
        show W κ n0 Qx h276 2 32 516 [.val (.int p0), .val (.int p1), .val (.long q2), .second, .val (.int p3), .val (.int p4), .val (.int p5), .val (.int v1), .val (.int v2), .val (.long v3), .second, .val (.int w4), .val (.int v5), .val (.ref a7), .val (.ref a96), .val (.int r205), .val (.int w212), .val (.int v283)] [(.int (1 : Int32))]
        refine W.ifN C m0_516 (show ¬ ((1 : Int) = (0 : Int)) from (by decide)) ?_
        refine W.iconst C m0_519 (z := (1 : Int32)) rfl ?_
        refine W.goto C m0_520 ?_
        refine W.zreturn C m0_524 (hQ _ _ ?_)
        exact rfl
    · intro (h313 : ¬ ((65536 : Int) ≤ v3.toInt))
      replace h313 : v3.toInt < (65536 : Int) := by omega
      refine W.aload C m0_317 rfl rfl ?_
      refine W.iload C m0_319 rfl ?_
      refine W.iconst C m0_321 (z := (1 : Int32)) rfl ?_
      refine W.iadd C m0_322 rfl ?_
      refine W.iload C m0_323 rfl ?_
      refine W.bipush C m0_325 (z := (126 : Int32)) rfl ?_
      refine W.iadd C m0_327 rfl ?_
      refine W.i2b C m0_328 rfl ?_
      refine W.bastore C m0_329 A219 (i := (p + 1)) (own_p1 hx.1 (by omega)) (by rw [List.length_map, hlbs218]; omega) g101 ?_
      intro h220 W221 A222
      have z223 : n0 ≤ h220.size := Nat.le_trans z216 (Nat.le_of_eq (Wr.size W221).symm)
      have A224 := A217.other W221 ne100
      have A226 := own_set A222
      obtain ⟨bs225, hbs225⟩ : ∃ l : List Int32, l = bs218.set (p + 1) (w212 + (126 : Int32)).toInt8.toInt32.toInt8.toInt32 := ⟨_, rfl⟩
      rw [← hbs225] at A226
      have hlbs225 : bs225.length = 16 := by rw [hbs225, List.length_set]; exact hlbs218
      refine W.aload C m0_330 rfl rfl ?_
      refine W.iload C m0_332 rfl ?_
      refine W.iconst C m0_334 (z := (2 : Int32)) rfl ?_
      refine W.iadd C m0_335 rfl ?_
      refine W.lload C m0_336 rfl ?_
      refine W.ldc2 C m0_338 (hw _ (List.mem_of_getElem? (i := 17) rfl)) ?_
      refine W.ldiv C m0_341 (by decide) rfl ?_
      refine W.l2i C m0_342 rfl ?_
      refine W.i2b C m0_343 rfl ?_
      refine W.bastore C m0_344 A226 (i := (p + 2)) (own_p2 hx.1 (by omega)) (by rw [List.length_map, hlbs225]; omega) g101 ?_
      intro h227 W228 A229
      have z230 : n0 ≤ h227.size := Nat.le_trans z223 (Nat.le_of_eq (Wr.size W228).symm)
      have A231 := A224.other W228 ne100
      have A233 := own_set A229
      obtain ⟨bs232, hbs232⟩ : ∃ l : List Int32, l = bs225.set (p + 2) (v3 / (256 : Int64)).toInt32.toInt8.toInt32.toInt8.toInt32 := ⟨_, rfl⟩
      rw [← hbs232] at A233
      have hlbs232 : bs232.length = 16 := by rw [hbs232, List.length_set]; exact hlbs225
      refine W.aload C m0_345 rfl rfl ?_
      refine W.iload C m0_347 rfl ?_
      refine W.iconst C m0_349 (z := (3 : Int32)) rfl ?_
      refine W.iadd C m0_350 rfl ?_
      refine W.lload C m0_351 rfl ?_
      refine W.ldc2 C m0_353 (hw _ (List.mem_of_getElem? (i := 17) rfl)) ?_
      refine W.lrem C m0_356 (by decide) rfl ?_
      refine W.l2i C m0_357 rfl ?_
      refine W.i2b C m0_358 rfl ?_
      refine W.bastore C m0_359 A233 (i := (p + 3)) (own_p3 hx.1 (by omega)) (by rw [List.length_map, hlbs232]; omega) g101 ?_
      intro h234 W235 A236
      have z237 : n0 ≤ h234.size := Nat.le_trans z230 (Nat.le_of_eq (Wr.size W235).symm)
      have A238 := A231.other W235 ne100
      have A240 := own_set A236
      obtain ⟨bs239, hbs239⟩ : ∃ l : List Int32, l = bs232.set (p + 3) (v3 - v3 / (256 : Int64) * (256 : Int64)).toInt32.toInt8.toInt32.toInt8.toInt32 := ⟨_, rfl⟩
      rw [← hbs239] at A240
      have hlbs239 : bs239.length = 16 := by rw [hbs239, List.length_set]; exact hlbs232
      refine W.iload C m0_360 rfl ?_
      refine W.iconst C m0_362 (z := (4 : Int32)) rfl ?_
      refine W.iadd C m0_363 rfl ?_
      generalize hv241 : (v1 + (4 : Int32)) = v241
      refine W.istore C m0_364 (L' := [.val (.int p0), .val (.int p1), .val (.long q2), .second, .val (.int p3), .val (.int p4), .val (.int p5), .val (.int v1), .val (.int v2), .val (.long v3), .second, .val (.int w4), .val (.int v5), .val (.ref a7), .val (.ref a96), .val (.int r205), .val (.int w212), .val (.int v241)]) rfl ?_
      have hend : v241.toInt = ((p + 4 : Nat) : Int) := by rw [← hv241]; exact own_p4 hx.1 (by omega)
      refine W.goto C m0_366 ?_
      refine W.iload C m0_502 rfl ?_
      refine W.iload C m0_504 rfl ?_
      refine W.icmp C m0_506 ?_ ?_
      · intro (h506 : ¬ r205.toInt = v241.toInt)
        refine W.iconst C m0_523 (z := (0 : Int32)) rfl ?_
        refine W.zreturn C m0_524 (hQ _ _ ?_)
        exfalso
        rcases hwh with ⟨g1, g2, g3⟩ | ⟨g1, g4, g2, g3⟩ | ⟨g1, g2, g3⟩ <;> omega
      · intro (h506 : ¬ ¬ r205.toInt = v241.toInt)
        replace h506 := Decidable.not_not.mp h506
        refine W.aload C m0_509 rfl rfl ?_
        refine W.aload C m0_511 rfl rfl ?_
        have hGE : cs204 = bs239 := by
          rw [hbs239, hbs232, hbs225, hbs218]
          rcases hwh with ⟨g1, g2, g3⟩ | ⟨g1, g4, g2, g3⟩ | ⟨g1, g2, g3⟩
          · exfalso; omega
          · rw [g3, own_e0 hop, own_e2 (by omega) (by omega) (by decide) (m2 := w212), own_by8 _ hq0, own_byr _ hq0]
            try rfl
          · exfalso; omega
        have AE := A240
        rw [← hGE] at AE
        refine W.callS (y := y2) (wt := 0) C m0_513 (hw _ (List.mem_of_getElem? (i := 8) rfl)) (hw _ (List.mem_of_getElem? (i := 9) rfl)) (hw _ (List.mem_of_getElem? (i := 10) rfl)) (hw _ (List.mem_of_getElem? (i := 11) rfl)) (by decide) pd2 rfl (own_same Z a0 hw a7 a96 cs204 h234 n0 A238 AE (by rw [hGE]; exact hlbs239)) (as' := [(.ref a7), (.ref a96)]) (rest := []) rfl rfl (Nat.le_of_eq rfl) (by decide) (by decide) (by decide) (by decide) ?_
        intro r244 h242 q243
        obtain ⟨rfl, rfl⟩ := q243
        show W κ n0 Qx h234 2 32 516 [.val (.int p0), .val (.int p1), .val (.long q2), .second, .val (.int p3), .val (.int p4), .val (.int p5), .val (.int v1), .val (.int v2), .val (.long v3), .second, .val (.int w4), .val (.int v5), .val (.ref a7), .val (.ref a96), .val (.int r205), .val (.int w212), .val (.int v241)] [(.int (1 : Int32))]
        refine W.ifN C m0_516 (show ¬ ((1 : Int) = (0 : Int)) from (by decide)) ?_
        refine W.iconst C m0_519 (z := (1 : Int32)) rfl ?_
        refine W.goto C m0_520 ?_
        refine W.zreturn C m0_524 (hQ _ _ ?_)
        exact rfl
  · intro (h281 : ¬ ((126 : Int) ≤ v3.toInt))
    replace h281 : v3.toInt < (126 : Int) := by omega
    refine W.aload C m0_285 rfl rfl ?_
    refine W.iload C m0_287 rfl ?_
    refine W.iconst C m0_289 (z := (1 : Int32)) rfl ?_
    refine W.iadd C m0_290 rfl ?_
    refine W.iload C m0_291 rfl ?_
    refine W.lload C m0_293 rfl ?_
    refine W.l2i C m0_295 rfl ?_
    refine W.iadd C m0_296 rfl ?_
    refine W.i2b C m0_297 rfl ?_
    refine W.bastore C m0_298 A219 (i := (p + 1)) (own_p1 hx.1 (by omega)) (by rw [List.length_map, hlbs218]; omega) g101 ?_
    intro h220 W221 A222
    have z223 : n0 ≤ h220.size := Nat.le_trans z216 (Nat.le_of_eq (Wr.size W221).symm)
    have A224 := A217.other W221 ne100
    have A226 := own_set A222
    obtain ⟨bs225, hbs225⟩ : ∃ l : List Int32, l = bs218.set (p + 1) (w212 + v3.toInt32).toInt8.toInt32.toInt8.toInt32 := ⟨_, rfl⟩
    rw [← hbs225] at A226
    have hlbs225 : bs225.length = 16 := by rw [hbs225, List.length_set]; exact hlbs218
    refine W.iload C m0_299 rfl ?_
    refine W.iconst C m0_301 (z := (2 : Int32)) rfl ?_
    refine W.iadd C m0_302 rfl ?_
    generalize hv227 : (v1 + (2 : Int32)) = v227
    refine W.istore C m0_303 (L' := [.val (.int p0), .val (.int p1), .val (.long q2), .second, .val (.int p3), .val (.int p4), .val (.int p5), .val (.int v1), .val (.int v2), .val (.long v3), .second, .val (.int w4), .val (.int v5), .val (.ref a7), .val (.ref a96), .val (.int r205), .val (.int w212), .val (.int v227)]) rfl ?_
    have hend : v227.toInt = ((p + 2 : Nat) : Int) := by rw [← hv227]; exact own_p2 hx.1 (by omega)
    refine W.goto C m0_305 ?_
    refine W.iload C m0_502 rfl ?_
    refine W.iload C m0_504 rfl ?_
    refine W.icmp C m0_506 ?_ ?_
    · intro (h506 : ¬ r205.toInt = v227.toInt)
      refine W.iconst C m0_523 (z := (0 : Int32)) rfl ?_
      refine W.zreturn C m0_524 (hQ _ _ ?_)
      exfalso
      rcases hwh with ⟨g1, g2, g3⟩ | ⟨g1, g4, g2, g3⟩ | ⟨g1, g2, g3⟩ <;> omega
    · intro (h506 : ¬ ¬ r205.toInt = v227.toInt)
      replace h506 := Decidable.not_not.mp h506
      refine W.aload C m0_509 rfl rfl ?_
      refine W.aload C m0_511 rfl rfl ?_
      have hGE : cs204 = bs225 := by
        rw [hbs225, hbs218]
        rcases hwh with ⟨g1, g2, g3⟩ | ⟨g1, g4, g2, g3⟩ | ⟨g1, g2, g3⟩
        · rw [g3, own_e0 hop, own_e1 v3 (by omega) (by omega) (by omega) (m2 := w212)]
          try rfl
        · exfalso; omega
        · exfalso; omega
      have AE := A226
      rw [← hGE] at AE
      refine W.callS (y := y2) (wt := 0) C m0_513 (hw _ (List.mem_of_getElem? (i := 8) rfl)) (hw _ (List.mem_of_getElem? (i := 9) rfl)) (hw _ (List.mem_of_getElem? (i := 10) rfl)) (hw _ (List.mem_of_getElem? (i := 11) rfl)) (by decide) pd2 rfl (own_same Z a0 hw a7 a96 cs204 h220 n0 A224 AE (by rw [hGE]; exact hlbs225)) (as' := [(.ref a7), (.ref a96)]) (rest := []) rfl rfl (Nat.le_of_eq rfl) (by decide) (by decide) (by decide) (by decide) ?_
      intro r230 h228 q229
      obtain ⟨rfl, rfl⟩ := q229
      show W κ n0 Qx h220 2 32 516 [.val (.int p0), .val (.int p1), .val (.long q2), .second, .val (.int p3), .val (.int p4), .val (.int p5), .val (.int v1), .val (.int v2), .val (.long v3), .second, .val (.int w4), .val (.int v5), .val (.ref a7), .val (.ref a96), .val (.int r205), .val (.int w212), .val (.int v227)] [(.int (1 : Int32))]
      refine W.ifN C m0_516 (show ¬ ((1 : Int) = (0 : Int)) from (by decide)) ?_
      refine W.iconst C m0_519 (z := (1 : Int32)) rfl ?_
      refine W.goto C m0_520 ?_
      refine W.zreturn C m0_524 (hQ _ _ ?_)
      exact rfl
set_option maxRecDepth 65536 in
set_option maxHeartbeats 4000000 in
theorem comes_1 {Post : Tables → Env → Array Value → State → Outcome → State → Prop} (hpost : ∀ tb e args s v u, (limb_1_1.after args s (.returned v) u = true ∧ limb_1_2.after args s (.returned v) u = true ∧ True) → FrameEnd s (.returned v) u (Jvm.fieldLocs frame_1_writes args s ++ Jvm.arrayLocs frame_1_arrays args s ++ Jvm.staticLocs frame_1_statics s) 16 128 → Post tb e args s (.returned v) u) :
    ArmFor flags0 classFile x code maxLocals ret World_1 tables_1 room_1 Calls_1 rest_1 Pre_1 Post := by
  intro l hfl _ _ p e ha hc hk s m args below hf hA hF happ hP
  obtain ⟨hcalls, hrest, hpre⟩ := hP
  obtain ⟨-, -, -, hnamed, -, -, -, hat⟩ := (Spec.applies_iff hf).mp happ
  obtain ⟨hg, hn⟩ := and_e (Cond.before_iff.mp (show (Jvm.Cond.and given_1 narrow_1).before args s = true from hpre))
  obtain ⟨hcount, hg0⟩ := and_e hg
  obtain ⟨ha0, hg1⟩ := and_e hg0
  obtain ⟨ha1, hg2⟩ := and_e hg1
  obtain ⟨ha2, hg3⟩ := and_e hg2
  obtain ⟨ha3, hg4⟩ := and_e hg3
  obtain ⟨ha4, hg5⟩ := and_e hg4
  have ha5 := hg5
  obtain ⟨w0, w1, w2, w3, w4, w5, rfl⟩ : ∃ w0 w1 w2 w3 w4 w5 : Value, args = #[w0, w1, w2, w3, w4, w5] := by
    have hs : args.size = 6 := by simpa [Cond.value, given_1] using hcount
    obtain ⟨L⟩ := args
    match L, hs with
    | [w0, w1, w2, w3, w4, w5], _ => exact ⟨w0, w1, w2, w3, w4, w5, rfl⟩
  have hw := fun d (hd : d ∈ tables_1) => atoms_spec (ws := Jvm.Cond.code x code maxLocals ret :: tables_1) hat d (List.mem_cons_of_mem _ hd)
  obtain ⟨i0, ei0⟩ := is_v ha0
  obtain rfl : w0 = (.int i0) := Option.some.inj ei0
  obtain ⟨i1, ei1⟩ := is_v ha1
  obtain rfl : w1 = (.int i1) := Option.some.inj ei1
  obtain ⟨i2, ei2⟩ := isL_v ha2
  obtain rfl : w2 = (.long i2) := Option.some.inj ei2
  obtain ⟨i3, ei3⟩ := is_v ha3
  obtain rfl : w3 = (.int i3) := Option.some.inj ei3
  obtain ⟨i4, ei4⟩ := is_v ha4
  obtain rfl : w4 = (.int i4) := Option.some.inj ei4
  obtain ⟨i5, ei5⟩ := is_v ha5
  obtain rfl : w5 = (.int i5) := Option.some.inj ei5
  obtain ⟨n, o, h1, h2, h3, _, L, rfl, ⟨rfl, N⟩, hq⟩ := own_law s _ hw i0 i1 i2 i3 i4 i5 s.heap s.heap.size (Nat.le_refl _) l tables_1 p e ha hc hk s m _ below hf ((Spec.applies_iff_loose hf).mp happ).1 ⟨rfl, State.Warmed39.refl s, rfl⟩ trivial
  refine ⟨n, _, h1, h2, h3, hpost _ _ _ _ _ _ ⟨Cond.after_iff.mpr rfl, Cond.after_iff.mpr (eq_i res_at (Term.int_eval (1)) rfl), trivial⟩ ⟨hq.1, hq.2.1, (hq.2.2.sift fun y hy => Or.inr (N y hy)).mono (by decide) (by decide)⟩⟩
theorem main_1_1 : Claimed_1_1 := comes_1 fun _ _ _ _ _ _ h hF => ⟨h.1, hF⟩
theorem main_1_2 : Claimed_1_2 := comes_1 fun _ _ _ _ _ _ h hF => ⟨h.2.1, hF⟩
end Jvm.Pilot.@@N@@
namespace Jvm.Pilot.@@N@@
open Jvm Jvm.ClassFile Sem Op Lib Jvm.Free Jvm.Stand Jvm.Pilot.@@N@@.Jvm.D
/-! MADE BY PROGRAM (witnessworld.py) out of the Statement's table words and the real class files: 9 classes; the members and pool entries that the words name. The judged class is class 1, her method 1. -/
namespace start1
open Jvm.ClassFile
def u (s : String) : CpInfo := .utf8 (stringToUtf16 s)
/-- a pool by its gaps: so many unusable entries, then the entry; so many at the end -/
def gap : Nat → List CpInfo → List CpInfo
  | 0, r => r
  | n + 1, r => .unusable :: gap n r
def poolList (es : List (Nat × CpInfo)) (last : Nat) : List CpInfo := es.foldr (fun e r => gap e.1 (e.2 :: r)) (gap last [])
def pool (es : List (Nat × CpInfo)) (last : Nat) : Array CpInfo := ⟨poolList es last⟩
def fileOf (pool : Array CpInfo) (this : Nat) (attrs : Array Attribute := #[]) (ms : Array MethodInfo := #[]) (fl : Nat := 33) (sup : Nat := 0) (ifs : Array Nat := #[]) (fds : Array FieldInfo := #[]) : ClassFile where
  minorVersion := 0
  majorVersion := 65
  constantPool := pool
  accessFlags := fl
  thisClass := this
  superClass := sup
  interfaces := ifs
  fields := fds
  methods := ms
  attributes := attrs
def plain (name : String) (sup : Option ClassId) : Class where
  name := name
  kind := .ordinary
  loader := none
  accessFlags := 33
  super := sup
  interfaces := #[]
  cf := none
  fields := #[]
  methods := #[]
  instanceTypes := #[]
  staticTypes := #[]
  resolved := #[]
  callSites := []
  init := .initialized
  statics := none
  mirror := none

def pool0 : Array CpInfo := pool [(5, u "<init>"), (0, u "()V"), (1, .class_ 10), (1, u "java/lang/Object")] 113

def k0m0 : Method := { name := "<init>", desc := "()V", sig := { parameters := [], returnType := none }, accessFlags := 1, code := none }
/-- java/lang/Object -/
def k0 : Class := { plain "java/lang/Object" none with
  accessFlags := 33
  interfaces := #[]
  cf := some (fileOf pool0 8 #[] #[{ accessFlags := 1, nameIndex := 5, descriptorIndex := 6, attributes := #[] }] 33 0 #[] #[])
  fields := #[]
  methods := #[k0m0]
  instanceTypes := #[]
  staticTypes := #[]
  resolved := Array.replicate 124 none
  statics := none }

def pool1 : Array CpInfo := pool [(2, .class_ 4), (1, u "java/lang/Object"), (0, u "<init>"), (0, u "()V"), (2, .long 9223372036854775807), (1, .methodref 12 13), (0, .class_ 14), (0, .nameAndType 15 16), (0, u "com/example/hearts_content/heartscontent/websocket/Framing"), (0, u "writeHeader"), (0, u "([BIIJZ)I"), (0, .long 126), (1, .long 65536), (1, .long 256), (1, .methodref 24 25), (0, .class_ 26), (0, .nameAndType 27 28), (0, u "com/example/hearts_content/heartscontent/websocket/FramingWriteHeaderPinLaw"), (0, u "same"), (0, u "([B[B)Z"), (2, u "law"), (0, u "(IIJIII)Z")] 5

def k1m0 : Method := { name := "<init>", desc := "()V", sig := { parameters := [], returnType := none }, accessFlags := 1, code := none }
def k1c1 : Code := { maxStack := 6, maxLocals := 18, code := code, exceptionTable := #[], attributes := #[] }
def k1m1 : Method := { name := "law", desc := "(IIJIII)Z", sig := { parameters := [.int, .int, .long, .int, .int, .int], returnType := some .boolean }, accessFlags := 9, code := some k1c1 }
def k1c2 : Code := { maxStack := 3, maxLocals := 2, code := method_3_code, exceptionTable := #[], attributes := #[] }
def k1m2 : Method := { name := "same", desc := "([B[B)Z", sig := { parameters := [(.array .byte), (.array .byte)], returnType := some .boolean }, accessFlags := 10, code := some k1c2 }
/-- com/example/hearts_content/heartscontent/websocket/FramingWriteHeaderPinLaw -/
def k1 : Class := { plain "com/example/hearts_content/heartscontent/websocket/FramingWriteHeaderPinLaw" (some 0) with
  accessFlags := 49
  interfaces := #[]
  cf := some (fileOf pool1 24 #[] #[{ accessFlags := 1, nameIndex := 5, descriptorIndex := 6, attributes := #[] }, { accessFlags := 9, nameIndex := 31, descriptorIndex := 32, attributes := #[] }, { accessFlags := 10, nameIndex := 27, descriptorIndex := 28, attributes := #[] }] 49 2 #[] #[])
  fields := #[]
  methods := #[k1m0, k1m1, k1m2]
  instanceTypes := #[]
  staticTypes := #[]
  resolved := Array.replicate 38 none
  statics := none }

def pool2 : Array CpInfo := pool [(1, .class_ 2), (0, u "com/example/hearts_content/heartscontent/websocket/Framing"), (1, .class_ 6), (1, u "java/lang/Object"), (0, u "<init>"), (0, u "()V"), (0, .long 125), (1, .long 65535), (1, .methodref 1 14), (0, .nameAndType 15 16), (0, u "writeLength"), (0, u "([BIJI)I"), (6, u "writeHeader"), (0, u "([BIIJZ)I"), (0, .class_ 26), (0, u "com/example/hearts_content/heartscontent/websocket/Framing$Header"), (3, u "CONTINUATION"), (0, u "I"), (2, u "TEXT"), (1, u "BINARY"), (1, u "CLOSE"), (1, u "PING"), (1, u "PONG"), (1, u "MASK_BYTES"), (1, u "LONGEST_HEADER"), (1, u "FINAL"), (1, u "MASKED"), (0, u "OPCODE"), (1, u "SHORT_LENGTH"), (1, u "LONGEST_SHORT"), (1, u "TWO_BYTES"), (1, u "EIGHT_BYTES"), (0, u "LONGEST_TWO")] 15

def k2m0 : Method := { name := "<init>", desc := "()V", sig := { parameters := [], returnType := none }, accessFlags := 2, code := none }
def k2c1 : Code := { maxStack := 6, maxLocals := 8, code := prog_26_method_3_code, exceptionTable := #[], attributes := #[] }
def k2m1 : Method := { name := "writeHeader", desc := "([BIIJZ)I", sig := { parameters := [(.array .byte), .int, .int, .long, .boolean], returnType := some .int }, accessFlags := 9, code := some k2c1 }
def k2c2 : Code := { maxStack := 7, maxLocals := 6, code := prog_26_method_5_code, exceptionTable := #[], attributes := #[] }
def k2m2 : Method := { name := "writeLength", desc := "([BIJI)I", sig := { parameters := [(.array .byte), .int, .long, .int], returnType := some .int }, accessFlags := 10, code := some k2c2 }
/-- com/example/hearts_content/heartscontent/websocket/Framing -/
def k2 : Class := { plain "com/example/hearts_content/heartscontent/websocket/Framing" (some 0) with
  accessFlags := 49
  interfaces := #[]
  cf := some (fileOf pool2 1 #[.nestMembers #[25]] #[{ accessFlags := 2, nameIndex := 7, descriptorIndex := 8, attributes := #[] }, { accessFlags := 9, nameIndex := 23, descriptorIndex := 24, attributes := #[] }, { accessFlags := 10, nameIndex := 15, descriptorIndex := 16, attributes := #[] }] 49 4 #[] #[{ accessFlags := 25, nameIndex := 30, descriptorIndex := 31, attributes := #[] }, { accessFlags := 25, nameIndex := 34, descriptorIndex := 31, attributes := #[] }, { accessFlags := 25, nameIndex := 36, descriptorIndex := 31, attributes := #[] }, { accessFlags := 25, nameIndex := 38, descriptorIndex := 31, attributes := #[] }, { accessFlags := 25, nameIndex := 40, descriptorIndex := 31, attributes := #[] }, { accessFlags := 25, nameIndex := 42, descriptorIndex := 31, attributes := #[] }, { accessFlags := 25, nameIndex := 44, descriptorIndex := 31, attributes := #[] }, { accessFlags := 25, nameIndex := 46, descriptorIndex := 31, attributes := #[] }, { accessFlags := 26, nameIndex := 48, descriptorIndex := 31, attributes := #[] }, { accessFlags := 26, nameIndex := 50, descriptorIndex := 31, attributes := #[] }, { accessFlags := 26, nameIndex := 51, descriptorIndex := 31, attributes := #[] }, { accessFlags := 26, nameIndex := 53, descriptorIndex := 31, attributes := #[] }, { accessFlags := 26, nameIndex := 55, descriptorIndex := 31, attributes := #[] }, { accessFlags := 26, nameIndex := 57, descriptorIndex := 31, attributes := #[] }, { accessFlags := 26, nameIndex := 59, descriptorIndex := 31, attributes := #[] }, { accessFlags := 26, nameIndex := 60, descriptorIndex := 31, attributes := #[] }])
  fields := #[{ name := "CONTINUATION", type := .int, accessFlags := 25, slot := 0, constantValue := 0 }, { name := "TEXT", type := .int, accessFlags := 25, slot := 1, constantValue := 0 }, { name := "BINARY", type := .int, accessFlags := 25, slot := 2, constantValue := 0 }, { name := "CLOSE", type := .int, accessFlags := 25, slot := 3, constantValue := 0 }, { name := "PING", type := .int, accessFlags := 25, slot := 4, constantValue := 0 }, { name := "PONG", type := .int, accessFlags := 25, slot := 5, constantValue := 0 }, { name := "MASK_BYTES", type := .int, accessFlags := 25, slot := 6, constantValue := 0 }, { name := "LONGEST_HEADER", type := .int, accessFlags := 25, slot := 7, constantValue := 0 }, { name := "FINAL", type := .int, accessFlags := 26, slot := 8, constantValue := 0 }, { name := "MASKED", type := .int, accessFlags := 26, slot := 9, constantValue := 0 }, { name := "OPCODE", type := .int, accessFlags := 26, slot := 10, constantValue := 0 }, { name := "SHORT_LENGTH", type := .int, accessFlags := 26, slot := 11, constantValue := 0 }, { name := "LONGEST_SHORT", type := .int, accessFlags := 26, slot := 12, constantValue := 0 }, { name := "TWO_BYTES", type := .int, accessFlags := 26, slot := 13, constantValue := 0 }, { name := "EIGHT_BYTES", type := .int, accessFlags := 26, slot := 14, constantValue := 0 }, { name := "LONGEST_TWO", type := .int, accessFlags := 26, slot := 15, constantValue := 0 }]
  methods := #[k2m0, k2m1, k2m2]
  instanceTypes := #[]
  staticTypes := #[.int, .int, .int, .int, .int, .int, .int, .int, .int, .int, .int, .int, .int, .int, .int, .int]
  resolved := Array.replicate 76 none
  statics := none }

def pool3 : Array CpInfo := pool [(1, u "java/lang/Cloneable"), (0, .class_ 1), (0, u "java/lang/Object"), (0, .class_ 3)] 3

/-- java/lang/Cloneable -/
def k3 : Class := { plain "java/lang/Cloneable" (some 0) with
  accessFlags := 1537
  interfaces := #[]
  cf := some (fileOf pool3 2 #[] #[] 1537 4 #[] #[])
  fields := #[]
  methods := #[]
  instanceTypes := #[]
  staticTypes := #[]
  resolved := Array.replicate 8 none
  statics := none }

def pool4 : Array CpInfo := pool [(1, u "java/io/Serializable"), (0, .class_ 1), (0, u "java/lang/Object"), (0, .class_ 3)] 3

/-- java/io/Serializable -/
def k4 : Class := { plain "java/io/Serializable" (some 0) with
  accessFlags := 1537
  interfaces := #[]
  cf := some (fileOf pool4 2 #[] #[] 1537 4 #[] #[])
  fields := #[]
  methods := #[]
  instanceTypes := #[]
  staticTypes := #[]
  resolved := Array.replicate 8 none
  statics := none }

/-- the primitive byte -/
def k5 : Class := { plain "byte" none with kind := .primitive 'B', accessFlags := 0x411 }
/-- [B -/
def k6 : Class := { plain "[B" (some 0) with kind := .array 5 .byte, interfaces := #[3, 4], accessFlags := 1041 }

/-- the primitive int -/
def k7 : Class := { plain "int" none with kind := .primitive 'I', accessFlags := 0x411 }
/-- [I -/
def k8 : Class := { plain "[I" (some 0) with kind := .array 7 .int, interfaces := #[3, 4], accessFlags := 1041 }

def heap : Heap := #[]
def classes : Array Class := #[k0, k1, k2, k3, k4, k5, k6, k7, k8]
def interned : List (Array UInt16 × Addr) := []
def slotsUsed : Nat := 0
def theMethod : MethodId := ⟨1, 1⟩
def args0 : Array Value := #[.int 5, .int 2, .long 77, .int 3, .int 4, .int 9]
def aboutOver (below : List Frame) : State where
  vm := { classes := classes, interned := interned.toArray }
  heap := heap
  slotsUsed := slotsUsed
  threads := #[{ frames := .invoking theMethod args0 :: below }]
def below0 : List Frame := [.native { method := ⟨0, 0⟩, args := #[] }]
def about1 : State := aboutOver below0
def p0 : Program := .bare "" "" ""
def e0 : Env := launch0.env 0 0 0
theorem w_frames : about1.frames = Frame.invoking theMethod args0 :: below0 := rfl
set_option maxRecDepth 65536 in
theorem w_args : argsFit about1.vm theMethod args0 = true := by decide +kernel
set_option maxRecDepth 65536 in
theorem w_heap : heapFits about1 = true := by decide +kernel
set_option maxRecDepth 65536 in
theorem w_runnable : about1.curStatus? = some .runnable := by decide +kernel
set_option maxRecDepth 65536 in
theorem w_alone : about1.alone = true := by decide +kernel
set_option maxRecDepth 65536 in
theorem w_named : about1.methodNamed? x = some theMethod := by decide +kernel
set_option maxRecDepth 65536 in
theorem w_hears : about1.hears theMethod below0 = true := by decide +kernel
set_option maxRecDepth 65536 in
theorem w_ripe : about1.ripe theMethod args0 below0 = true := by decide +kernel
theorem w_running : about1.status = .running := rfl
set_option maxRecDepth 65536 in
theorem w_room : about1.hasRoom e0.platform room_1 = true :=
  launch0.hasRoom_least _ room_1 (by decide +kernel) (by decide +kernel) (by decide +kernel) (by decide +kernel) (by decide +kernel) (by decide +kernel)
theorem allAtoms_all (ts : List Jvm.Cond) (a : Array Jvm.Value) (st : Jvm.State) : (allAtoms ts).before a st = ts.all (fun c => c.before a st) := by
  induction ts with
  | nil => rfl
  | cons c t ih =>
    show (Jvm.Cond.and c (allAtoms t)).before a st = _
    rw [Jvm.Cond.before_and, ih, List.all_cons]
def words1 : List Jvm.Cond := Jvm.Cond.code x code maxLocals ret :: tables_1
/-- a 'code' word, met by the world's own term for the bytes: nothing is compared byte by byte -/
theorem code_word {y : MethodName} {bytes : ByteArray} {mx : Nat} {rt : Option FieldType} {a : Array Value} {s : State} {m : MethodId} {meth : Method} {c : Code} (h1 : s.methodNamed? y = some m) (h2 : s.vm.method? m = some meth) (h3 : meth.code = some c) (h4 : c.code = bytes)
    (h5 : (c.maxLocals == mx && c.exceptionTable.isEmpty && decide (c.maxStack ≤ mostOperands) && decide (meth.sig.returnType = rt) && !meth.locks && decide (parseMethodDescriptor y.desc = some meth.sig)) = true) : (Jvm.Cond.code y bytes mx rt).before a s = true := by
  simp only [Bool.and_eq_true, beq_iff_eq, Bool.not_eq_true', decide_eq_true_eq] at h5
  obtain ⟨⟨⟨⟨⟨g1, g2⟩, g3⟩, g4⟩, g5⟩, g6⟩ := h5
  simp [Cond.before, Cond.holds, Cond.value, h1, h2, h3, h4, g1, g2, g3, g4, g5, g6]
def isCode : Jvm.Cond → Bool
  | .code _ _ _ _ => true
  | _ => false
theorem all_split {L : List Jvm.Cond} {P : Jvm.Cond → Bool} (h1 : L.all (fun c => isCode c || P c) = true) (h2 : ∀ c ∈ L.filter isCode, P c = true) : L.all P = true := by
  refine List.all_eq_true.mpr fun c hc => ?_
  have h := List.all_eq_true.mp h1 c hc
  rcases Bool.eq_false_or_eq_true (isCode c) with hi | hi
  · exact h2 c (List.mem_filter.mpr ⟨hc, hi⟩)
  · simpa [hi] using h
set_option maxRecDepth 65536 in
theorem w_c0 : (Jvm.Cond.code x code maxLocals ret).before args0 about1 = true := code_word (m := ⟨1, 1⟩) (meth := k1m1) (c := k1c1) (by decide +kernel) rfl rfl rfl (by decide +kernel)
set_option maxRecDepth 65536 in
theorem w_c1 : (Jvm.Cond.code ({ cls := "com/example/hearts_content/heartscontent/websocket/Framing", name := "writeHeader", desc := "([BIIJZ)I" } : Jvm.MethodName) prog_26_method_3_code (8 : Nat) (Option.some Jvm.ClassFile.FieldType.int)).before args0 about1 = true := code_word (m := ⟨2, 1⟩) (meth := k2m1) (c := k2c1) (by decide +kernel) rfl rfl rfl (by decide +kernel)
set_option maxRecDepth 65536 in
theorem w_c2 : (Jvm.Cond.code ({ cls := "com/example/hearts_content/heartscontent/websocket/FramingWriteHeaderPinLaw", name := "same", desc := "([B[B)Z" } : Jvm.MethodName) method_3_code (2 : Nat) (Option.some Jvm.ClassFile.FieldType.boolean)).before args0 about1 = true := code_word (m := ⟨1, 2⟩) (meth := k1m2) (c := k1c2) (by decide +kernel) rfl rfl rfl (by decide +kernel)
set_option maxRecDepth 65536 in
theorem w_c3 : (Jvm.Cond.code ({ cls := "com/example/hearts_content/heartscontent/websocket/Framing", name := "writeLength", desc := "([BIJI)I" } : Jvm.MethodName) prog_26_method_5_code (6 : Nat) (Option.some Jvm.ClassFile.FieldType.int)).before args0 about1 = true := code_word (m := ⟨2, 2⟩) (meth := k2m2) (c := k2c2) (by decide +kernel) rfl rfl rfl (by decide +kernel)
def codes1 : List Jvm.Cond := [Jvm.Cond.code x code maxLocals ret, Jvm.Cond.code ({ cls := "com/example/hearts_content/heartscontent/websocket/Framing", name := "writeHeader", desc := "([BIIJZ)I" } : Jvm.MethodName) prog_26_method_3_code (8 : Nat) (Option.some Jvm.ClassFile.FieldType.int), Jvm.Cond.code ({ cls := "com/example/hearts_content/heartscontent/websocket/FramingWriteHeaderPinLaw", name := "same", desc := "([B[B)Z" } : Jvm.MethodName) method_3_code (2 : Nat) (Option.some Jvm.ClassFile.FieldType.boolean), Jvm.Cond.code ({ cls := "com/example/hearts_content/heartscontent/websocket/Framing", name := "writeLength", desc := "([BIJI)I" } : Jvm.MethodName) prog_26_method_5_code (6 : Nat) (Option.some Jvm.ClassFile.FieldType.int)]
set_option maxRecDepth 65536 in
theorem codes_eq : words1.filter isCode = codes1 := rfl
theorem w_codes : ∀ c ∈ words1.filter isCode, c.before args0 about1 = true := by
  rw [codes_eq]
  intro c hc
  simp only [codes1, List.mem_cons, List.not_mem_nil, or_false] at hc
  rcases hc with rfl | rfl | rfl | rfl
  · exact w_c0
  · exact w_c1
  · exact w_c2
  · exact w_c3
set_option maxRecDepth 65536 in
theorem w_t1 : words1.all (fun c => isCode c || c.before args0 about1) = true := by decide +kernel
theorem w_tables : (allAtoms (Jvm.Cond.code x code maxLocals ret :: tables_1)).before args0 about1 = true := by
  rw [allAtoms_all]
  show words1.all (fun c => c.before args0 about1) = true
  refine all_split ?_ w_codes
  rw [w_t1]
set_option maxRecDepth 65536 in
theorem w_case : (Jvm.Cond.and given_1 narrow_1).before args0 about1 = true := by decide +kernel
theorem w_applies : (headSpec (Jvm.Cond.code x code maxLocals ret :: tables_1) room_1).applies x e0.platform about1 = true :=
  (Spec.applies_iff w_frames).mpr ⟨w_running, w_runnable, w_alone, w_named, w_hears, w_ripe, w_room, w_tables⟩
theorem atStart : AtStart classFile x code maxLocals ret World_1 tables_1 room_1 Calls_1 rest_1 Pre_1 launch0 p0 e0 about1 theMethod args0 below0 :=
  ⟨lists_1, trivial, launch0.admits_env _ _ _, launch0.least_env, fairChoices_fair.cas, fairChoices_fair.clock, w_frames, w_args, w_heap, w_applies, trivial, trivial, w_case⟩
end start1
theorem witness_1 : WitnessClaimed_1 := ⟨start1.p0, start1.e0, start1.about1, start1.theMethod, start1.args0, start1.below0, start1.atStart⟩
end Jvm.Pilot.@@N@@
