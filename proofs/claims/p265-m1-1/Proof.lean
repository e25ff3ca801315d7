import JvmDerived
import JvmDerived.Pilot.@@N@@Statement
import JvmDerived.Pilot.@@N@@Code
set_option linter.unusedVariables false
set_option linter.unusedSimpArgs false
namespace Jvm.Own
open Sem ClassFile Op Lib Jvm.Stand Jvm.Free Jvm.LawKit Jvm.RoadKit
/-! ## 1. A machine over abstract states: refs are numbers of objects -/
abbrev Ob := Sum (Nat × List Value) (FieldType × List Value)
abbrev AH := List Ob
abbrev Act := List Value → AH → Nat → Nat → Option (List Value × AH × Nat × Nat)
abbrev St := Nat × List Slot × List Value × AH × Nat × Nat
abbrev ORes := Option Value × AH
def il : Instr → Nat
  | .aload _ | .astore _ | .iload _ | .istore _ | .lload _ | .lstore _ | .bipush _ | .ldc _ | .newarray _ => 2
  | .sipush _ | .iinc _ _ | .goto _ | .if_icmp _ _ | .ifCond _ _ | .if_acmp _ _ | .ifnull _ | .ifnonnull _ | .ldc_w _ | .ldc2_w _ | .getfield _ | .putfield _ | .getstatic _ | .putstatic _ | .new _ | .anewarray _ | .checkcast _ | .instanceof _ | .invokestatic _ | .invokespecial _ | .invokevirtual _ => 3
  | .invokeinterface _ _ => 5
  | _ => 1
def dec (code : ByteArray) (pc : Nat) : Option Instr :=
  match decode code pc with
  | .ok (i, len) => if len = il i then some i else none
  | .error _ => none
theorem dec_spec {code : ByteArray} {pc : Nat} {i : Instr} (h : dec code pc = some i) : decode code pc = .ok (i, il i) := by
  unfold dec at h
  split at h
  · rename_i j len hd
    split at h
    · rename_i hl; cases h; rw [hd, hl]
    · cases h
  · cases h
def gI (L : List Slot) (k : Nat) : Option Int32 := match L[k]? with | some (.val (.int v)) => some v | _ => none
def gL (L : List Slot) (k : Nat) : Option Int64 := match L[k]? with | some (.val (.long v)) => some v | _ => none
def gA (L : List Slot) (k : Nat) : Option Value := match L[k]? with | some (.val (.ref a)) => some (.ref a) | some (.val .null) => some .null | _ => none
def st1 (L : List Slot) (k : Nat) (v : Value) : Option (List Slot) := match L[k]? with
  | some .unset => some (L.set k (.val v))
  | some (.val (.int _)) => some (L.set k (.val v))
  | some (.val (.ref _)) => some (L.set k (.val v))
  | some (.val .null) => some (L.set k (.val v))
  | _ => none
def st2 (L : List Slot) (k : Nat) (x : Int64) : Option (List Slot) := match L[k]?, L[k + 1]? with
  | some .unset, some .unset => some ((L.set k (.val (.long x))).set (k + 1) .second)
  | some (.val (.long _)), some .second => some ((L.set k (.val (.long x))).set (k + 1) .second)
  | _, _ => none
def pI : List Value → (Int32 → List Value → Option ORes) → Option ORes | .int x :: r, f => f x r | _, _ => none
def pL : List Value → (Int64 → List Value → Option ORes) → Option ORes | .long x :: r, f => f x r | _, _ => none
def pA : List Value → (Value → List Value → Option ORes) → Option ORes | .ref a :: r, f => f (.ref a) r | .null :: r, f => f .null r | _, _ => none
def pR : List Value → (Nat → List Value → Option ORes) → Option ORes | .ref a :: r, f => f a r | _, _ => none
def p1 : List Value → (Value → List Value → Option ORes) → Option ORes | .int a :: r, f => f (.int a) r | .ref a :: r, f => f (.ref a) r | .null :: r, f => f .null r | _, _ => none
def br (b : Bool) (pc : Nat) (o : Int) (f : Nat → Option ORes) : Option ORes := if 0 ≤ (pc : Int) + o then (bif b then f ((pc : Int) + o).toNat else f (pc + 3)) else none
def arr (H : AH) (k : Nat) : Option (FieldType × List Value) := match H[k]? with | some (.inr q) => some q | _ => none
def ald (ok : FieldType → Bool) (S : List Value) (H : AH) (f : Value → List Value → Option ORes) : Option ORes :=
  pI S fun j S => pR S fun a r => (arr H a).bind fun q => if ok q.1 = true ∧ ¬ j < 0 then (q.2[j.toNatClampNeg]?).bind fun v => f v r else none
def ast (ok : FieldType → Bool) (x0 : Nat) (S : List Value) (H : AH) (f : List Value → AH → Option ORes) : Option ORes :=
  pI S fun x S => pI S fun j S => pR S fun a r => (arr H a).bind fun q => if ok q.1 = true ∧ ¬ j < 0 ∧ j.toNatClampNeg < q.2.length ∧ x0 ≤ a then f r (H.set a (.inr (q.1, q.2.set j.toNatClampNeg (.int (nar q.1 x))))) else none
def astL (x0 : Nat) (S : List Value) (H : AH) (f : List Value → AH → Option ORes) : Option ORes :=
  pL S fun x S => pI S fun j S => pR S fun a r => (arr H a).bind fun q => if q.1 = .long ∧ ¬ j < 0 ∧ j.toNatClampNeg < q.2.length ∧ x0 ≤ a then f r (H.set a (.inr (q.1, q.2.set j.toNatClampNeg (.long x)))) else none
def isT (t u : FieldType) : Bool := decide (u = t)
def isBZ : FieldType → Bool | .byte => true | .boolean => true | _ => false
def rI (rt : Option FieldType) (S : List Value) (H : AH) : Option ORes := pI S fun z _ => match rt with
  | some .int => some (some (.int z), H)
  | some .boolean => some (some (.int (z &&& 1)), H)
  | some .byte => some (some (.int z.toInt8.toInt32), H)
  | some .char => some (some (.int z.toUInt32.toUInt16.toUInt32.toInt32), H)
  | some .short => some (some (.int z.toInt16.toInt32), H)
  | _ => none
def rL (rt : Option FieldType) (S : List Value) (H : AH) : Option ORes := pL S fun z _ => match rt with | some .long => some (some (.long z), H) | _ => none
def rA (rt : Option FieldType) (S : List Value) (H : AH) : Option ORes := pA S fun z _ => match rt with | some (.object _) => some (some z, H) | some (.array _) => some (some z, H) | _ => none
def rV (rt : Option FieldType) (S : List Value) (H : AH) : Option ORes := match rt, S with | none, [] => some (none, H) | _, _ => none
def look (q i : Nat) : List (Nat × Nat × Act) → Option Act
  | [] => none
  | x :: r => if x.1 = q ∧ x.2.1 = i then some x.2.2 else look q i r
def spc (E : List (Nat × Nat × Act)) (q i : Nat) (S : List Value) (H : AH) (cs ss : Nat) (f : List Value → AH → Nat → Nat → Option ORes) : Option ORes :=
  (look q i E).bind fun act => (act S H cs ss).bind fun r => f r.1 r.2.1 r.2.2.1 r.2.2.2
def atn : ArrayType → Nat | .boolean => 0 | .char => 1 | .float => 2 | .double => 3 | .byte => 4 | .short => 5 | .int => 6 | .long => 7
def aty : Nat → ArrayType | 0 => .boolean | 1 => .char | 2 => .float | 3 => .double | 4 => .byte | 5 => .short | 6 => .int | _ => .long
def insOf (q i : Nat) : Instr := match q with
  | 0 => .ldc i | 1 => .ldc_w i | 2 => .ldc2_w i | 3 => .getfield i | 4 => .putfield i | 5 => .getstatic i | 6 => .new i | 7 => .invokestatic i | 8 => .invokespecial i | 9 => .invokevirtual i
  | 10 => .checkcast i | 11 => .instanceof i | 12 => .anewarray i | 13 => .newarray (aty i) | _ => .putstatic i
def refEq : Value → Value → Bool | .ref a, .ref b => decide (a = b) | .null, .null => true | _, _ => false
def ex (rt : Option FieldType) (E : List (Nat × Nat × Act)) (x0 : Nat) (k : St → Option ORes) (i : Instr) (pc : Nat) (L : List Slot) (S : List Value) (H : AH) (cs ss : Nat) : Option ORes := match i with
  | .iload n => (gI L n).bind fun v => k (pc + 2, L, .int v :: S, H, cs, ss)
  | .iload_n n => (gI L n.val).bind fun v => k (pc + 1, L, .int v :: S, H, cs, ss)
  | .lload n => (gL L n).bind fun v => k (pc + 2, L, .long v :: S, H, cs, ss)
  | .lload_n n => (gL L n.val).bind fun v => k (pc + 1, L, .long v :: S, H, cs, ss)
  | .aload n => (gA L n).bind fun v => k (pc + 2, L, v :: S, H, cs, ss)
  | .aload_n n => (gA L n.val).bind fun v => k (pc + 1, L, v :: S, H, cs, ss)
  | .istore n => pI S fun x r => (st1 L n (.int x)).bind fun L' => k (pc + 2, L', r, H, cs, ss)
  | .istore_n n => pI S fun x r => (st1 L n.val (.int x)).bind fun L' => k (pc + 1, L', r, H, cs, ss)
  | .lstore n => pL S fun x r => (st2 L n x).bind fun L' => k (pc + 2, L', r, H, cs, ss)
  | .lstore_n n => pL S fun x r => (st2 L n.val x).bind fun L' => k (pc + 1, L', r, H, cs, ss)
  | .astore n => pA S fun x r => (st1 L n x).bind fun L' => k (pc + 2, L', r, H, cs, ss)
  | .astore_n n => pA S fun x r => (st1 L n.val x).bind fun L' => k (pc + 1, L', r, H, cs, ss)
  | .iinc n c => (gI L n).bind fun v => (st1 L n (.int (v + Int32.ofInt c))).bind fun L' => k (pc + 3, L', S, H, cs, ss)
  | .iconst c => k (pc + 1, L, .int (Int32.ofInt c) :: S, H, cs, ss)
  | .bipush c => k (pc + 2, L, .int (Int8.ofInt c).toInt32 :: S, H, cs, ss)
  | .sipush c => k (pc + 3, L, .int (Int16.ofInt c).toInt32 :: S, H, cs, ss)
  | .lconst c => k (pc + 1, L, .long (Int64.ofNat c) :: S, H, cs, ss)
  | .aconst_null => k (pc + 1, L, .null :: S, H, cs, ss)
  | .iadd => pI S fun y S => pI S fun x r => k (pc + 1, L, .int (x + y) :: r, H, cs, ss)
  | .isub => pI S fun y S => pI S fun x r => k (pc + 1, L, .int (x - y) :: r, H, cs, ss)
  | .imul => pI S fun y S => pI S fun x r => k (pc + 1, L, .int (x * y) :: r, H, cs, ss)
  | .iand => pI S fun y S => pI S fun x r => k (pc + 1, L, .int (x &&& y) :: r, H, cs, ss)
  | .ior => pI S fun y S => pI S fun x r => k (pc + 1, L, .int (x ||| y) :: r, H, cs, ss)
  | .ixor => pI S fun y S => pI S fun x r => k (pc + 1, L, .int (x ^^^ y) :: r, H, cs, ss)
  | .ishl => pI S fun y S => pI S fun x r => k (pc + 1, L, .int (x <<< (y &&& 31)) :: r, H, cs, ss)
  | .ishr => pI S fun y S => pI S fun x r => k (pc + 1, L, .int (x >>> (y &&& 31)) :: r, H, cs, ss)
  | .iushr => pI S fun y S => pI S fun x r => k (pc + 1, L, .int ((x.toUInt32 >>> (y &&& 31).toUInt32).toInt32) :: r, H, cs, ss)
  | .idiv => pI S fun y S => pI S fun x r => if y = 0 then none else k (pc + 1, L, .int (x / y) :: r, H, cs, ss)
  | .irem => pI S fun y S => pI S fun x r => if y = 0 then none else k (pc + 1, L, .int (x % y) :: r, H, cs, ss)
  | .ineg => pI S fun x r => k (pc + 1, L, .int (-x) :: r, H, cs, ss)
  | .i2b => pI S fun x r => k (pc + 1, L, .int x.toInt8.toInt32 :: r, H, cs, ss)
  | .i2c => pI S fun x r => k (pc + 1, L, .int x.toUInt32.toUInt16.toUInt32.toInt32 :: r, H, cs, ss)
  | .i2s => pI S fun x r => k (pc + 1, L, .int x.toInt16.toInt32 :: r, H, cs, ss)
  | .i2l => pI S fun x r => k (pc + 1, L, .long x.toInt64 :: r, H, cs, ss)
  | .l2i => pL S fun x r => k (pc + 1, L, .int x.toInt32 :: r, H, cs, ss)
  | .lneg => pL S fun x r => k (pc + 1, L, .long (-x) :: r, H, cs, ss)
  | .ladd => pL S fun y S => pL S fun x r => k (pc + 1, L, .long (x + y) :: r, H, cs, ss)
  | .lsub => pL S fun y S => pL S fun x r => k (pc + 1, L, .long (x - y) :: r, H, cs, ss)
  | .lmul => pL S fun y S => pL S fun x r => k (pc + 1, L, .long (x * y) :: r, H, cs, ss)
  | .land => pL S fun y S => pL S fun x r => k (pc + 1, L, .long (x &&& y) :: r, H, cs, ss)
  | .lor => pL S fun y S => pL S fun x r => k (pc + 1, L, .long (x ||| y) :: r, H, cs, ss)
  | .lxor => pL S fun y S => pL S fun x r => k (pc + 1, L, .long (x ^^^ y) :: r, H, cs, ss)
  | .lshl => pI S fun y S => pL S fun x r => k (pc + 1, L, .long (x <<< (y &&& 0x3f).toInt64) :: r, H, cs, ss)
  | .lshr => pI S fun y S => pL S fun x r => k (pc + 1, L, .long (x >>> (y &&& 0x3f).toInt64) :: r, H, cs, ss)
  | .lushr => pI S fun y S => pL S fun x r => k (pc + 1, L, .long ((x.toUInt64 >>> (y &&& 0x3f).toInt64.toUInt64).toInt64) :: r, H, cs, ss)
  | .ldiv => pL S fun y S => pL S fun x r => if y = 0 then none else k (pc + 1, L, .long (x / y) :: r, H, cs, ss)
  | .lrem => pL S fun y S => pL S fun x r => if y = 0 then none else k (pc + 1, L, .long (x % y) :: r, H, cs, ss)
  | .lcmp => pL S fun y S => pL S fun x r => k (pc + 1, L, .int (lcmpW x y) :: r, H, cs, ss)
  | .dup => p1 S fun v r => k (pc + 1, L, v :: v :: r, H, cs, ss)
  | .pop => p1 S fun _ r => k (pc + 1, L, r, H, cs, ss)
  | .dup_x1 => p1 S fun x S => p1 S fun y r => k (pc + 1, L, x :: y :: x :: r, H, cs, ss)
  | .dup2 => p1 S fun x S => p1 S fun y r => k (pc + 1, L, x :: y :: x :: y :: r, H, cs, ss)
  | .goto o => if 0 ≤ (pc : Int) + o then k (((pc : Int) + o).toNat, L, S, H, cs, ss) else none
  | .ifCond cd o => pI S fun x r => br (ifCond.holds cd x) pc o fun q => k (q, L, r, H, cs, ss)
  | .if_icmp cd o => pI S fun y S => pI S fun x r => br (if_icmp.holds cd x y) pc o fun q => k (q, L, r, H, cs, ss)
  | .ifnull o => pA S fun v r => br (refEq v .null) pc o fun q => k (q, L, r, H, cs, ss)
  | .ifnonnull o => pA S fun v r => br (!refEq v .null) pc o fun q => k (q, L, r, H, cs, ss)
  | .if_acmp cd o => pA S fun y S => pA S fun x r => br (acV cd (refEq x y)) pc o fun q => k (q, L, r, H, cs, ss)
  | .arraylength => pR S fun a r => (arr H a).bind fun q => k (pc + 1, L, .int q.2.length.toInt32 :: r, H, cs, ss)
  | .iaload => ald (isT .int) S H fun v r => k (pc + 1, L, v :: r, H, cs, ss)
  | .baload => ald isBZ S H fun v r => k (pc + 1, L, v :: r, H, cs, ss)
  | .caload => ald (isT .char) S H fun v r => k (pc + 1, L, v :: r, H, cs, ss)
  | .laload => ald (isT .long) S H fun v r => k (pc + 1, L, v :: r, H, cs, ss)
  | .aaload => ald FieldType.isReference S H fun v r => k (pc + 1, L, v :: r, H, cs, ss)
  | .iastore => ast (isT .int) x0 S H fun r H' => k (pc + 1, L, r, H', cs, ss)
  | .bastore => ast (isT .byte) x0 S H fun r H' => k (pc + 1, L, r, H', cs, ss)
  | .castore => ast (isT .char) x0 S H fun r H' => k (pc + 1, L, r, H', cs, ss)
  | .lastore => astL x0 S H fun r H' => k (pc + 1, L, r, H', cs, ss)
  | .ldc i => spc E 0 i S H cs ss fun S' H' cs' ss' => k (pc + 2, L, S', H', cs', ss')
  | .ldc_w i => spc E 1 i S H cs ss fun S' H' cs' ss' => k (pc + 3, L, S', H', cs', ss')
  | .ldc2_w i => spc E 2 i S H cs ss fun S' H' cs' ss' => k (pc + 3, L, S', H', cs', ss')
  | .getfield i => spc E 3 i S H cs ss fun S' H' cs' ss' => k (pc + 3, L, S', H', cs', ss')
  | .putfield i => spc E 4 i S H cs ss fun S' H' cs' ss' => k (pc + 3, L, S', H', cs', ss')
  | .getstatic i => spc E 5 i S H cs ss fun S' H' cs' ss' => k (pc + 3, L, S', H', cs', ss')
  | .new i => spc E 6 i S H cs ss fun S' H' cs' ss' => k (pc + 3, L, S', H', cs', ss')
  | .invokestatic i => spc E 7 i S H cs ss fun S' H' cs' ss' => k (pc + 3, L, S', H', cs', ss')
  | .invokespecial i => spc E 8 i S H cs ss fun S' H' cs' ss' => k (pc + 3, L, S', H', cs', ss')
  | .invokevirtual i => spc E 9 i S H cs ss fun S' H' cs' ss' => k (pc + 3, L, S', H', cs', ss')
  | .checkcast i => spc E 10 i S H cs ss fun S' H' cs' ss' => k (pc + 3, L, S', H', cs', ss')
  | .instanceof i => spc E 11 i S H cs ss fun S' H' cs' ss' => k (pc + 3, L, S', H', cs', ss')
  | .anewarray i => spc E 12 i S H cs ss fun S' H' cs' ss' => k (pc + 3, L, S', H', cs', ss')
  | .newarray t => spc E 13 (atn t) S H cs ss fun S' H' cs' ss' => k (pc + 2, L, S', H', cs', ss')
  | .ireturn => rI rt S H
  | .lreturn => rL rt S H
  | .areturn => rA rt S H
  | .return_ => rV rt S H
  | _ => none
def orun (code : ByteArray) (rt : Option FieldType) (E : List (Nat × Nat × Act)) (x0 : Nat) : Nat → St → Option ORes
  | 0, _ => none
  | n + 1, s => (dec code s.1).bind fun i => ex rt E x0 (orun code rt E x0 n) i s.1 s.2.1 s.2.2.1 s.2.2.2.1 s.2.2.2.2.1 s.2.2.2.2.2
theorem orun_succ {code : ByteArray} {rt : Option FieldType} {E : List (Nat × Nat × Act)} {x0 n pc : Nat} {L : List Slot} {S : List Value} {H : AH} {cs ss : Nat} :
    orun code rt E x0 (n + 1) (pc, L, S, H, cs, ss) = (dec code pc).bind fun i => ex rt E x0 (orun code rt E x0 n) i pc L S H cs ss := rfl
/-! ## 2. What an abstract state stands for -/
def cv (σ : Nat → Nat) : Value → Value | .ref k => .ref (σ k) | v => v
def csl (σ : Nat → Nat) : Slot → Slot | .val v => .val (cv σ v) | x => x
def cL (σ : Nat → Nat) (L : List Slot) : Array Slot := (L.map (csl σ)).toArray
abbrev CD := String × List (String × String × String)
def RepO (Z : State) (σ : Nat → Nat) (K : List CD) (h : Heap) (a : Addr) : Ob → Prop
  | .inl (c, vs) => ∃ C fs, K[c]? = some (C, fs) ∧ Exa Z h a C ∧ ∀ (j : Nat) (v : Value), vs[j]? = some v → ∃ O n d, fs[j]? = some (O, n, d) ∧ Fld Z h a O n d (cv σ v)
  | .inr (ty, vs) => ∃ cell : Cell, Arr Z h a cell ty ∧ cell.slots = (vs.map (cv σ)).toArray ∧ vs.length < 2 ^ 31 ∧ (∀ v ∈ vs, fits ty v = true) ∧ (Z.heap.size ≤ a → Exa Z h a ("[" ++ ty.toString))
def Rep (Z : State) (σ : Nat → Nat) (x0 n0 : Nat) (K : List CD) (h : Heap) (H : AH) : Prop :=
  h.size + x0 = n0 + H.length ∧ x0 ≤ H.length ∧ Old Z n0 h ∧ ∀ (k : Nat) (o : Ob), H[k]? = some o → RepO Z σ K h (σ k) o
def Sg (σ : Nat → Nat) (x0 n0 : Nat) : Prop := (∀ k, x0 ≤ k → σ k + x0 = n0 + k) ∧ (∀ i, i < x0 → σ i < n0) ∧ ∀ i j, i < x0 → j < x0 → σ i = σ j → i = j
theorem Sg.inj {σ : Nat → Nat} {x0 n0 i j : Nat} (h : Sg σ x0 n0) (e : σ i = σ j) : i = j := by
  obtain ⟨h1, h2, h3⟩ := h
  rcases Nat.lt_or_ge i x0 with a | a <;> rcases Nat.lt_or_ge j x0 with b | b
  · exact h3 i j a b e
  · have := h2 i a; have := h1 j b; omega
  · have := h2 j b; have := h1 i a; omega
  · have := h1 i a; have := h1 j b; omega
theorem Sg.new {σ : Nat → Nat} {x0 n0 k : Nat} (h : Sg σ x0 n0) (q : x0 ≤ k) : n0 ≤ σ k := by have := h.1 k q; omega
def KOk (Z : State) (a0 : Array Value) (K : List CD) : Prop := ∀ (c : Nat) (C : String) (fs : List (String × String × String)), K[c]? = some (C, fs) →
  (∃ kk, (Jvm.Cond.instantiable C kk).before a0 Z = true) ∧ (∀ (i : Nat) (f : String × String × String), fs[i]? = some f → Laid Z a0 C f.1 f.2.1 f.2.2 ∧ ∃ ty, parseFieldDescriptor f.2.2 = some ty) ∧
  ∀ (i j : Nat) (f g : String × String × String), fs[i]? = some f → fs[j]? = some g → f.2.1 = g.2.1 → i = j
section Reps
variable {Z : State} {σ : Nat → Nat} {x0 n0 : Nat} {K : List CD} {h h' : Heap} {H : AH} {a0 : Array Value}
theorem RepO.ext {a : Addr} {o : Ob} (E : Ext h h') (R : RepO Z σ K h a o) : RepO Z σ K h' a o := by
  rcases o with ⟨c, vs⟩ | ⟨ty, vs⟩
  · obtain ⟨C, fs, h1, h2, h3⟩ := R
    exact ⟨C, fs, h1, h2.ext E, fun j v q => by obtain ⟨O, n, d, q1, q2⟩ := h3 j v q; exact ⟨O, n, d, q1, q2.ext E⟩⟩
  · obtain ⟨cell, h1, h2, h3, h4, h5⟩ := R
    exact ⟨cell, h1.ext E, h2, h3, h4, fun q => (h5 q).ext E⟩
theorem RepO.other {a b : Addr} {o : Ob} {sl : Nat} {v : Value} (W : Wr h h' a sl v) (R : RepO Z σ K h b o) (ne : b ≠ a) : RepO Z σ K h' b o := by
  rcases o with ⟨c, vs⟩ | ⟨ty, vs⟩
  · obtain ⟨C, fs, h1, h2, h3⟩ := R
    exact ⟨C, fs, h1, h2.wr W, fun j v q => by obtain ⟨O, n, d, q1, q2⟩ := h3 j v q; exact ⟨O, n, d, q1, q2.other W (Or.inl ne)⟩⟩
  · obtain ⟨cell, h1, h2, h3, h4, h5⟩ := R
    exact ⟨cell, h1.other W ne, h2, h3, h4, fun q => (h5 q).wr W⟩
theorem Rep.push (R : Rep Z σ x0 n0 K h H) (E : Ext h h') (hs : h'.size = h.size + 1) {o : Ob} (ho : RepO Z σ K h' (σ H.length) o) : Rep Z σ x0 n0 K h' (H ++ [o]) := by
  obtain ⟨r1, r2, r3, r4⟩ := R
  refine ⟨by rw [hs]; simp; omega, by simp; omega, r3.ext E, fun k o' q => ?_⟩
  rcases Nat.lt_trichotomy k H.length with a | a | a
  · rw [List.getElem?_append_left a] at q; exact (r4 k o' q).ext E
  · subst a; simp at q; subst q; exact ho
  · rw [List.getElem?_append_right (Nat.le_of_lt a), List.getElem?_eq_none (by simp; omega)] at q; cases q
theorem Rep.addr (S : Sg σ x0 n0) (R : Rep Z σ x0 n0 K h H) : σ H.length = h.size := by have := S.1 H.length R.2.1; have := R.1; omega
theorem Rep.write (S : Sg σ x0 n0) (R : Rep Z σ x0 n0 K h H) {k sl : Nat} {v : Value} {o : Ob} (hk : x0 ≤ k) (W : Wr h h' (σ k) sl v) (ho : RepO Z σ K h' (σ k) o) : Rep Z σ x0 n0 K h' (H.set k o) := by
  obtain ⟨r1, r2, r3, r4⟩ := R
  refine ⟨by rw [W.size]; simpa using r1, by simpa using r2, r3.wr W (S.new hk), fun j o' q => ?_⟩
  by_cases e : k = j
  · subst e
    by_cases hl : k < H.length
    · rw [List.getElem?_set_self hl] at q; cases q; exact ho
    · rw [List.getElem?_eq_none (by simp; omega)] at q; cases q
  · rw [List.getElem?_set_ne e] at q
    exact (r4 j o' q).other W fun u => e (S.inj u).symm
theorem cv_fits (ty : FieldType) (v : Value) : fits ty (cv σ v) = fits ty v := by cases v <;> first | rfl | (cases ty <;> rfl)
theorem RepO.fld (KO : KOk Z a0 K) {a : Addr} {c j : Nat} {vs : List Value} {v : Value} {C O n d : String} {fs : List (String × String × String)} (hC : K[c]? = some (C, fs)) (hj : fs[j]? = some (O, n, d)) (R : RepO Z σ K h a (.inl (c, vs))) (W : Wr h h' a (Jvm.RoadKit.slotOf Z O n d) (cv σ v)) : RepO Z σ K h' a (.inl (c, vs.set j v)) := by
  obtain ⟨C', fs', h1, h2, h3⟩ := R
  cases hC.symm.trans h1
  obtain ⟨-, k2, k3⟩ := KO c C fs hC
  refine ⟨C, fs, hC, h2.wr W, fun i w q => ?_⟩
  by_cases e : j = i
  · subst e
    by_cases hl : j < vs.length
    · rw [List.getElem?_set_self hl] at q; cases q
      obtain ⟨O', n', d', q1, q2⟩ := h3 j _ (List.getElem?_eq_getElem hl)
      cases hj.symm.trans q1
      exact ⟨O, n, d, hj, q2.same W⟩
    · rw [List.getElem?_eq_none (by simp; omega)] at q; cases q
  · rw [List.getElem?_set_ne e] at q
    obtain ⟨O', n', d', q1, q2⟩ := h3 i w q
    obtain ⟨l1, t1, p1⟩ := k2 j _ hj
    obtain ⟨l2, t2, p2⟩ := k2 i _ q1
    exact ⟨O', n', d', q1, q2.other W (Or.inr (slot_ne l2 l1 (fun u => e (k3 j i _ _ hj q1 u.symm)) p2 p1))⟩
theorem RepO.arr {a : Addr} {i : Nat} {ty : FieldType} {vs : List Value} {v : Value} (R : RepO Z σ K h a (.inr (ty, vs))) (hf : fits ty v = true) (W : Wr h h' a i (cv σ v)) : RepO Z σ K h' a (.inr (ty, vs.set i v)) := by
  obtain ⟨cell, h1, h2, h3, h4, h5⟩ := R
  refine ⟨_, h1.same W, ?_, by simpa using h3, fun w hw => ?_, fun q => (h5 q).wr W⟩
  · simp [Cell.setSlot, h2]
  · rcases List.mem_or_eq_of_mem_set hw with q | rfl
    · exact h4 w q
    · exact hf
theorem arr_some {H : AH} {k : Nat} {q : FieldType × List Value} (e : arr H k = some q) : H[k]? = some (.inr q) := by
  unfold arr at e; split at e
  · rename_i q' hq; cases e; exact hq
  · cases e
end Reps
/-! ## 3. One step of the machine is a orun of the JVM -/
section Sound
def Good (p : Program) (l : Launch) (e : Env) (R : Room) (s : State) (m : MethodId) (args : Array Value) (below : List Frame) (meth : Method) (c : Code) (Z : State) (σ : Nat → Nat) (x0 n0 : Nat) (K : List CD) (i : Instr) (act : Act) : Prop :=
  ∀ (T : State) (locs : List Loc) (cs ss pc : Nat) (L : List Slot) (S : List Value) (H : AH) (S' : List Value) (H' : AH) (cs' ss' : Nat), Stand p l e R s m args below meth c T locs cs ss → decode c.code pc = .ok (i, il i) → L.length = c.maxLocals → Rep Z σ x0 n0 K T.heap H → Fr n0 locs → cs ≤ R.cells ∧ ss ≤ R.slots → act S H cs ss = some (S', H', cs', ss') →
    ∃ T' locs', Stand p l e R s m args below meth c T' locs' cs' ss' ∧ Rep Z σ x0 n0 K T'.heap H' ∧ Fr n0 locs' ∧ (cs' ≤ R.cells ∧ ss' ≤ R.slots) ∧ ∀ target, Steps p.tables e below (T'.setTop (mkF m (pc + il i) (cL σ L) (S'.map (cv σ)))) target → Steps p.tables e below (T.setTop (mkF m pc (cL σ L) (S.map (cv σ)))) target
def AllGood (p : Program) (l : Launch) (e : Env) (R : Room) (s : State) (m : MethodId) (args : Array Value) (below : List Frame) (meth : Method) (c : Code) (Z : State) (σ : Nat → Nat) (x0 n0 : Nat) (K : List CD) : List (Nat × Nat × Act) → Prop
  | [] => True
  | x :: r => Good p l e R s m args below meth c Z σ x0 n0 K (insOf x.1 x.2.1) x.2.2 ∧ AllGood p l e R s m args below meth c Z σ x0 n0 K r
/-- the end: it has returned v, over the heap H' -/
def Done (p : Program) (e : Env) (R : Room) (s : State) (below : List Frame) (Z : State) (σ : Nat → Nat) (x0 n0 : Nat) (K : List CD) (r : ORes) (T : State) (g : JFrame) : Prop :=
  ∃ t, Steps p.tables e below (T.setTop g) t ∧ t.status = .running ∧ Ended t below (.returned (r.1.map (cv σ))) ∧ Rep Z σ x0 n0 K t.heap r.2 ∧ ∃ L, Fr n0 L ∧ s.WarmedH t.vm ∧ s.sameButNew ({ t with vm := s.vm } : State) L R.cells R.slots
variable {p : Program} {l : Launch} {e : Env} {R : Room} {s : State} {m : MethodId} {args : Array Value} {below : List Frame} {meth : Method} {c : Code} {Z : State} {σ : Nat → Nat} {x0 n0 : Nat} {K : List CD}
theorem look_good {E : List (Nat × Nat × Act)} {q i : Nat} {act : Act} (h : AllGood p l e R s m args below meth c Z σ x0 n0 K E) (hl : look q i E = some act) : Good p l e R s m args below meth c Z σ x0 n0 K (insOf q i) act := by
  induction E with
  | nil => cases hl
  | cons x r ih =>
    unfold look at hl
    split at hl
    · rename_i hq; cases hl; obtain ⟨rfl, rfl⟩ := hq; exact h.1
    · exact ih h.2 hl
theorem Done.step {r : ORes} {T T' : State} {g g' : JFrame} (D : Done p e R s below Z σ x0 n0 K r T' g') (st : ∀ target, Steps p.tables e below (T'.setTop g') target → Steps p.tables e below (T.setTop g) target) : Done p e R s below Z σ x0 n0 K r T g := by
  obtain ⟨t, h1, h2⟩ := D; exact ⟨t, st _ h1, h2⟩
theorem gI_ok {L : List Slot} {k : Nat} {v : Int32} (h : gI L k = some v) : (cL σ L)[k]? = some (.val (.int v)) := by
  unfold gI at h; split at h
  · rename_i w hw; cases h; simp [cL, hw, csl, cv]
  · cases h
theorem gL_ok {L : List Slot} {k : Nat} {v : Int64} (h : gL L k = some v) : (cL σ L)[k]? = some (.val (.long v)) := by
  unfold gL at h; split at h
  · rename_i w hw; cases h; simp [cL, hw, csl, cv]
  · cases h
theorem gA_ok {L : List Slot} {k : Nat} {v : Value} (h : gA L k = some v) : (cL σ L)[k]? = some (.val (cv σ v)) ∧ (cv σ v).isRef = true := by
  unfold gA at h; split at h
  · rename_i w hw; cases h; simp [cL, hw, csl, cv, Value.isRef]
  · rename_i hw; cases h; simp [cL, hw, csl, cv, Value.isRef]
  · cases h
theorem st1_ok {L L' : List Slot} {k : Nat} {v : Value} (h : st1 L k v = some L') (hv : v.category = 1) : storeLocals (cL σ L) k (cv σ v) = some (cL σ L') ∧ L'.length = L.length := by
  have hv' : (cv σ v).category = 1 := by cases v <;> first | rfl | exact hv
  have key : ∀ o : Slot, L[k]? = some o → One (csl σ o) → L' = L.set k (.val v) → storeLocals (cL σ L) k (cv σ v) = some (cL σ L') ∧ L'.length = L.length := by
    intro o ho h1 e
    subst e
    refine ⟨?_, by simp⟩
    rw [XS.store1 (o := csl σ o) (by simp [cL, ho]) h1 hv']
    simp [cL, csl, List.map_set]
  unfold st1 at h; split at h <;> first | cases h | skip
  all_goals (rename_i ho; exact key _ ho (by first | exact One.u | exact One.val rfl) rfl)
theorem st2_ok {L L' : List Slot} {k : Nat} {x : Int64} (h : st2 L k x = some L') : storeLocals (cL σ L) k (.long x) = some (cL σ L') ∧ L'.length = L.length := by
  unfold st2 at h; split at h
  · rename_i h1 h2
    cases h
    refine ⟨?_, by simp⟩
    obtain ⟨b1, g1⟩ := List.getElem?_eq_some_iff.mp h1
    obtain ⟨b2, g2⟩ := List.getElem?_eq_some_iff.mp h2
    simp [storeLocals, storeSelf, setAt, cL, csl, cv, h1, h2, b1, b2, g1, g2, Value.category, List.map_set, List.getElem?_set]
  · rename_i y h1 h2
    cases h
    refine ⟨?_, by simp⟩
    obtain ⟨b1, g1⟩ := List.getElem?_eq_some_iff.mp h1
    obtain ⟨b2, g2⟩ := List.getElem?_eq_some_iff.mp h2
    simp [storeLocals, storeSelf, setAt, cL, csl, cv, h1, h2, b1, b2, g1, g2, Value.category, List.map_set, List.getElem?_set]
    rw [List.set_comm _ _ (show k + 1 ≠ k by omega), List.set_set]
  · cases h
theorem pI_ok {S : List Value} {f : Int32 → List Value → Option ORes} {r : ORes} (h : pI S f = some r) : ∃ x S', S = .int x :: S' ∧ f x S' = some r := by
  unfold pI at h; split at h
  · exact ⟨_, _, rfl, h⟩
  · cases h
theorem pL_ok {S : List Value} {f : Int64 → List Value → Option ORes} {r : ORes} (h : pL S f = some r) : ∃ x S', S = .long x :: S' ∧ f x S' = some r := by
  unfold pL at h; split at h
  · exact ⟨_, _, rfl, h⟩
  · cases h
theorem pR_ok {S : List Value} {f : Nat → List Value → Option ORes} {r : ORes} (h : pR S f = some r) : ∃ x S', S = .ref x :: S' ∧ f x S' = some r := by
  unfold pR at h; split at h
  · exact ⟨_, _, rfl, h⟩
  · cases h
theorem pA_ok {S : List Value} {f : Value → List Value → Option ORes} {r : ORes} (h : pA S f = some r) : ∃ x S', S = x :: S' ∧ f x S' = some r ∧ (x = .null ∨ ∃ a, x = .ref a) := by
  unfold pA at h; split at h
  · exact ⟨_, _, rfl, h, Or.inr ⟨_, rfl⟩⟩
  · exact ⟨_, _, rfl, h, Or.inl rfl⟩
  · cases h
theorem p1_ok {S : List Value} {f : Value → List Value → Option ORes} {r : ORes} (h : p1 S f = some r) : ∃ x S', S = x :: S' ∧ f x S' = some r ∧ (cv σ x).category = 1 := by
  unfold p1 at h; split at h
  · exact ⟨_, _, rfl, h, rfl⟩
  · exact ⟨_, _, rfl, h, rfl⟩
  · exact ⟨_, _, rfl, h, rfl⟩
  · cases h
theorem bind_ok {α : Type} {o : Option α} {f : α → Option ORes} {r : ORes} (h : o.bind f = some r) : ∃ x, o = some x ∧ f x = some r := Option.bind_eq_some_iff.mp h
theorem br_ok {b : Bool} {pc : Nat} {o : Int} {f : Nat → Option ORes} {r : ORes} (h : br b pc o f = some r) : 0 ≤ (pc : Int) + o ∧ ((b = true ∧ f ((pc : Int) + o).toNat = some r) ∨ (b = false ∧ f (pc + 3) = some r)) := by
  unfold br at h; split at h
  · rename_i q; cases b
    · exact ⟨q, Or.inr ⟨rfl, h⟩⟩
    · exact ⟨q, Or.inl ⟨rfl, h⟩⟩
  · cases h
theorem ref_of {x : Value} (h : x = .null ∨ ∃ a, x = .ref a) : (cv σ x).isRef = true ∧ x.category = 1 := by rcases h with rfl | ⟨a, rfl⟩ <;> exact ⟨rfl, rfl⟩
theorem refEq_ok (hsg : Sg σ x0 n0) {x y : Value} (hx : x = .null ∨ ∃ a, x = .ref a) (hy : y = .null ∨ ∃ a, y = .ref a) : decide (cv σ x = cv σ y) = refEq x y := by
  rcases hx with rfl | ⟨a, rfl⟩ <;> rcases hy with rfl | ⟨b, rfl⟩ <;> simp [cv, refEq]
  exact ⟨fun h => hsg.inj h, fun h => by rw [h]⟩
theorem size_cL {L : List Slot} : (cL σ L).size = L.length := by simp [cL]
theorem inB {cell : Cell} {j : Int32} {v : Value} (h : ¬ j < 0) (hv : cell.slots[j.toNatClampNeg]? = some v) : ¬ (j < 0 ∨ cell.slots.size ≤ j.toNatClampNeg) := fun q => q.elim h fun q => by rw [Array.getElem?_eq_none q] at hv; cases hv
set_option maxHeartbeats 4000000 in
theorem ex_sound {rt : Option FieldType} {E : List (Nat × Nat × Act)} {k : St → Option ORes} {res : ORes} (hx : p.tables.exec = Jvm.exec) (hZ : Z.Warmed39 s.vm) (hsg : Sg σ x0 n0) (hrt : meth.sig.returnType = rt) (hlk : meth.locks = false) (hE : AllGood p l e R s m args below meth c Z σ x0 n0 K E)
    (hk : ∀ (T : State) (locs : List Loc) (cs ss pc : Nat) (L : List Slot) (S : List Value) (H : AH), Stand p l e R s m args below meth c T locs cs ss → L.length = c.maxLocals → Rep Z σ x0 n0 K T.heap H → Fr n0 locs → cs ≤ R.cells ∧ ss ≤ R.slots → k (pc, L, S, H, cs, ss) = some res → Done p e R s below Z σ x0 n0 K res T (mkF m pc (cL σ L) (S.map (cv σ))))
    {T : State} {locs : List Loc} {cs ss pc : Nat} {i : Instr} {L : List Slot} {S : List Value} {H : AH} (X : Stand p l e R s m args below meth c T locs cs ss) (hd : decode c.code pc = .ok (i, il i)) (hL : L.length = c.maxLocals) (hR : Rep Z σ x0 n0 K T.heap H) (hF : Fr n0 locs) (hB : cs ≤ R.cells ∧ ss ≤ R.slots)
    (h : ex rt E x0 k i pc L S H cs ss = some res) : Done p e R s below Z σ x0 n0 K res T (mkF m pc (cL σ L) (S.map (cv σ))) := by
  cases i with
  | iload n =>
    dsimp only [ex] at h
    replace h := bind_ok h
    obtain ⟨v, h1, h⟩ := h
    exact (hk _ _ _ _ _ _ _ _ X hL hR hF hB h).step fun t q => XS.iload X.here hx rfl hd (gI_ok h1) q
  | iload_n n =>
    dsimp only [ex] at h
    replace h := bind_ok h
    obtain ⟨v, h1, h⟩ := h
    exact (hk _ _ _ _ _ _ _ _ X hL hR hF hB h).step fun t q => XS.iloadN X.here hx rfl hd (gI_ok h1) q
  | lload n =>
    dsimp only [ex] at h
    replace h := bind_ok h
    obtain ⟨v, h1, h⟩ := h
    exact (hk _ _ _ _ _ _ _ _ X hL hR hF hB h).step fun t q => XS.lload X.here hx rfl hd (gL_ok h1) q
  | lload_n n =>
    dsimp only [ex] at h
    replace h := bind_ok h
    obtain ⟨v, h1, h⟩ := h
    exact (hk _ _ _ _ _ _ _ _ X hL hR hF hB h).step fun t q => XS.lloadN X.here hx rfl hd (gL_ok h1) q
  | aload n =>
    dsimp only [ex] at h
    replace h := bind_ok h
    obtain ⟨v, h1, h⟩ := h
    exact (hk _ _ _ _ _ _ _ _ X hL hR hF hB h).step fun t q => XS.aload X.here hx rfl hd (gA_ok h1).1 (gA_ok (σ := σ) h1).2 q
  | aload_n n =>
    dsimp only [ex] at h
    replace h := bind_ok h
    obtain ⟨v, h1, h⟩ := h
    exact (hk _ _ _ _ _ _ _ _ X hL hR hF hB h).step fun t q => XS.aloadN X.here hx rfl hd (gA_ok h1).1 (gA_ok (σ := σ) h1).2 q
  | istore n =>
    dsimp only [ex] at h
    replace h := pI_ok h
    obtain ⟨x, S1, rfl, h⟩ := h
    replace h := bind_ok h
    obtain ⟨L1, h1, h⟩ := h
    have h2 := st1_ok (σ := σ) h1 rfl
    exact (hk _ _ _ _ _ _ _ _ X (h2.2.trans hL) hR hF hB h).step fun t q => XS.istore X.here hx rfl hd rfl h2.1 q
  | istore_n n =>
    dsimp only [ex] at h
    replace h := pI_ok h
    obtain ⟨x, S1, rfl, h⟩ := h
    replace h := bind_ok h
    obtain ⟨L1, h1, h⟩ := h
    have h2 := st1_ok (σ := σ) h1 rfl
    exact (hk _ _ _ _ _ _ _ _ X (h2.2.trans hL) hR hF hB h).step fun t q => XS.istoreN X.here hx rfl hd rfl h2.1 q
  | lstore n =>
    dsimp only [ex] at h
    replace h := pL_ok h
    obtain ⟨x, S1, rfl, h⟩ := h
    replace h := bind_ok h
    obtain ⟨L1, h1, h⟩ := h
    have h2 := st2_ok (σ := σ) h1
    exact (hk _ _ _ _ _ _ _ _ X (h2.2.trans hL) hR hF hB h).step fun t q => XS.lstore X.here hx rfl hd rfl h2.1 q
  | lstore_n n =>
    dsimp only [ex] at h
    replace h := pL_ok h
    obtain ⟨x, S1, rfl, h⟩ := h
    replace h := bind_ok h
    obtain ⟨L1, h1, h⟩ := h
    have h2 := st2_ok (σ := σ) h1
    exact (hk _ _ _ _ _ _ _ _ X (h2.2.trans hL) hR hF hB h).step fun t q => XS.lstoreN X.here hx rfl hd rfl h2.1 q
  | astore n =>
    dsimp only [ex] at h
    replace h := pA_ok h
    obtain ⟨x, S1, rfl, h, hr⟩ := h
    replace h := bind_ok h
    obtain ⟨L1, h1, h⟩ := h
    have h2 := st1_ok (σ := σ) h1 (ref_of (σ := σ) hr).2
    exact (hk _ _ _ _ _ _ _ _ X (h2.2.trans hL) hR hF hB h).step fun t q => XS.astore X.here hx rfl hd rfl (ref_of hr).1 h2.1 q
  | astore_n n =>
    dsimp only [ex] at h
    replace h := pA_ok h
    obtain ⟨x, S1, rfl, h, hr⟩ := h
    replace h := bind_ok h
    obtain ⟨L1, h1, h⟩ := h
    have h2 := st1_ok (σ := σ) h1 (ref_of (σ := σ) hr).2
    exact (hk _ _ _ _ _ _ _ _ X (h2.2.trans hL) hR hF hB h).step fun t q => XS.astoreN X.here hx rfl hd rfl (ref_of hr).1 h2.1 q
  | iinc n cst =>
    dsimp only [ex] at h
    replace h := bind_ok h
    obtain ⟨v, h1, h⟩ := h
    replace h := bind_ok h
    obtain ⟨L1, h2, h⟩ := h
    have h2 := st1_ok (σ := σ) h2 rfl
    exact (hk _ _ _ _ _ _ _ _ X (h2.2.trans hL) hR hF hB h).step fun t q => XS.iinc X.here hx rfl hd (gI_ok h1) h2.1 q
  | iconst cst =>
    dsimp only [ex] at h
    exact (hk _ _ _ _ _ _ _ _ X hL hR hF hB h).step fun t q => XS.iconst X.here hx rfl hd q
  | bipush cst =>
    dsimp only [ex] at h
    exact (hk _ _ _ _ _ _ _ _ X hL hR hF hB h).step fun t q => XS.bipush X.here hx rfl hd q
  | sipush cst =>
    dsimp only [ex] at h
    exact (hk _ _ _ _ _ _ _ _ X hL hR hF hB h).step fun t q => XS.sipush X.here hx rfl hd q
  | lconst cst =>
    dsimp only [ex] at h
    exact (hk _ _ _ _ _ _ _ _ X hL hR hF hB h).step fun t q => XS.lconst X.here hx rfl hd q
  | aconst_null =>
    dsimp only [ex] at h
    exact (hk _ _ _ _ _ _ _ _ X hL hR hF hB h).step fun t q => XS.aconstNull X.here hx rfl hd q
  | iadd =>
    dsimp only [ex] at h
    replace h := pI_ok h
    obtain ⟨y, S1, rfl, h⟩ := h
    replace h := pI_ok h
    obtain ⟨x, S2, rfl, h⟩ := h
    exact (hk _ _ _ _ _ _ _ _ X hL hR hF hB h).step fun t q => XS.iadd X.here hx rfl hd rfl q
  | isub =>
    dsimp only [ex] at h
    replace h := pI_ok h
    obtain ⟨y, S1, rfl, h⟩ := h
    replace h := pI_ok h
    obtain ⟨x, S2, rfl, h⟩ := h
    exact (hk _ _ _ _ _ _ _ _ X hL hR hF hB h).step fun t q => XS.isub X.here hx rfl hd rfl q
  | imul =>
    dsimp only [ex] at h
    replace h := pI_ok h
    obtain ⟨y, S1, rfl, h⟩ := h
    replace h := pI_ok h
    obtain ⟨x, S2, rfl, h⟩ := h
    exact (hk _ _ _ _ _ _ _ _ X hL hR hF hB h).step fun t q => XS.imul X.here hx rfl hd rfl q
  | iand =>
    dsimp only [ex] at h
    replace h := pI_ok h
    obtain ⟨y, S1, rfl, h⟩ := h
    replace h := pI_ok h
    obtain ⟨x, S2, rfl, h⟩ := h
    exact (hk _ _ _ _ _ _ _ _ X hL hR hF hB h).step fun t q => XS.iand X.here hx rfl hd rfl q
  | ior =>
    dsimp only [ex] at h
    replace h := pI_ok h
    obtain ⟨y, S1, rfl, h⟩ := h
    replace h := pI_ok h
    obtain ⟨x, S2, rfl, h⟩ := h
    exact (hk _ _ _ _ _ _ _ _ X hL hR hF hB h).step fun t q => XS.ior X.here hx rfl hd rfl q
  | ixor =>
    dsimp only [ex] at h
    replace h := pI_ok h
    obtain ⟨y, S1, rfl, h⟩ := h
    replace h := pI_ok h
    obtain ⟨x, S2, rfl, h⟩ := h
    exact (hk _ _ _ _ _ _ _ _ X hL hR hF hB h).step fun t q => XS.ixor X.here hx rfl hd rfl q
  | ishl =>
    dsimp only [ex] at h
    replace h := pI_ok h
    obtain ⟨y, S1, rfl, h⟩ := h
    replace h := pI_ok h
    obtain ⟨x, S2, rfl, h⟩ := h
    exact (hk _ _ _ _ _ _ _ _ X hL hR hF hB h).step fun t q => XS.ishl X.here hx rfl hd rfl q
  | ishr =>
    dsimp only [ex] at h
    replace h := pI_ok h
    obtain ⟨y, S1, rfl, h⟩ := h
    replace h := pI_ok h
    obtain ⟨x, S2, rfl, h⟩ := h
    exact (hk _ _ _ _ _ _ _ _ X hL hR hF hB h).step fun t q => XS.ishr X.here hx rfl hd rfl q
  | iushr =>
    dsimp only [ex] at h
    replace h := pI_ok h
    obtain ⟨y, S1, rfl, h⟩ := h
    replace h := pI_ok h
    obtain ⟨x, S2, rfl, h⟩ := h
    exact (hk _ _ _ _ _ _ _ _ X hL hR hF hB h).step fun t q => XS.iushr X.here hx rfl hd rfl q
  | ladd =>
    dsimp only [ex] at h
    replace h := pL_ok h
    obtain ⟨y, S1, rfl, h⟩ := h
    replace h := pL_ok h
    obtain ⟨x, S2, rfl, h⟩ := h
    exact (hk _ _ _ _ _ _ _ _ X hL hR hF hB h).step fun t q => XS.ladd X.here hx rfl hd rfl q
  | lsub =>
    dsimp only [ex] at h
    replace h := pL_ok h
    obtain ⟨y, S1, rfl, h⟩ := h
    replace h := pL_ok h
    obtain ⟨x, S2, rfl, h⟩ := h
    exact (hk _ _ _ _ _ _ _ _ X hL hR hF hB h).step fun t q => XS.lsub X.here hx rfl hd rfl q
  | lmul =>
    dsimp only [ex] at h
    replace h := pL_ok h
    obtain ⟨y, S1, rfl, h⟩ := h
    replace h := pL_ok h
    obtain ⟨x, S2, rfl, h⟩ := h
    exact (hk _ _ _ _ _ _ _ _ X hL hR hF hB h).step fun t q => XS.lmul X.here hx rfl hd rfl q
  | land =>
    dsimp only [ex] at h
    replace h := pL_ok h
    obtain ⟨y, S1, rfl, h⟩ := h
    replace h := pL_ok h
    obtain ⟨x, S2, rfl, h⟩ := h
    exact (hk _ _ _ _ _ _ _ _ X hL hR hF hB h).step fun t q => XS.land X.here hx rfl hd rfl q
  | lor =>
    dsimp only [ex] at h
    replace h := pL_ok h
    obtain ⟨y, S1, rfl, h⟩ := h
    replace h := pL_ok h
    obtain ⟨x, S2, rfl, h⟩ := h
    exact (hk _ _ _ _ _ _ _ _ X hL hR hF hB h).step fun t q => XS.lor X.here hx rfl hd rfl q
  | lxor =>
    dsimp only [ex] at h
    replace h := pL_ok h
    obtain ⟨y, S1, rfl, h⟩ := h
    replace h := pL_ok h
    obtain ⟨x, S2, rfl, h⟩ := h
    exact (hk _ _ _ _ _ _ _ _ X hL hR hF hB h).step fun t q => XS.lxor X.here hx rfl hd rfl q
  | lcmp =>
    dsimp only [ex] at h
    replace h := pL_ok h
    obtain ⟨y, S1, rfl, h⟩ := h
    replace h := pL_ok h
    obtain ⟨x, S2, rfl, h⟩ := h
    exact (hk _ _ _ _ _ _ _ _ X hL hR hF hB h).step fun t q => XS.lcmp X.here hx rfl hd rfl q
  | lshl =>
    dsimp only [ex] at h
    replace h := pI_ok h
    obtain ⟨y, S1, rfl, h⟩ := h
    replace h := pL_ok h
    obtain ⟨x, S2, rfl, h⟩ := h
    exact (hk _ _ _ _ _ _ _ _ X hL hR hF hB h).step fun t q => XS.lshl X.here hx rfl hd rfl q
  | lshr =>
    dsimp only [ex] at h
    replace h := pI_ok h
    obtain ⟨y, S1, rfl, h⟩ := h
    replace h := pL_ok h
    obtain ⟨x, S2, rfl, h⟩ := h
    exact (hk _ _ _ _ _ _ _ _ X hL hR hF hB h).step fun t q => XS.lshr X.here hx rfl hd rfl q
  | lushr =>
    dsimp only [ex] at h
    replace h := pI_ok h
    obtain ⟨y, S1, rfl, h⟩ := h
    replace h := pL_ok h
    obtain ⟨x, S2, rfl, h⟩ := h
    exact (hk _ _ _ _ _ _ _ _ X hL hR hF hB h).step fun t q => XS.lushr X.here hx rfl hd rfl q
  | idiv =>
    dsimp only [ex] at h
    replace h := pI_ok h
    obtain ⟨y, S1, rfl, h⟩ := h
    replace h := pI_ok h
    obtain ⟨x, S2, rfl, h⟩ := h
    split at h
    · cases h
    · rename_i hy
      exact (hk _ _ _ _ _ _ _ _ X hL hR hF hB h).step fun t q => XS.idiv X.here hx rfl hd rfl hy q
  | irem =>
    dsimp only [ex] at h
    replace h := pI_ok h
    obtain ⟨y, S1, rfl, h⟩ := h
    replace h := pI_ok h
    obtain ⟨x, S2, rfl, h⟩ := h
    split at h
    · cases h
    · rename_i hy
      exact (hk _ _ _ _ _ _ _ _ X hL hR hF hB h).step fun t q => iremM X hx rfl hd rfl hy q
  | ldiv =>
    dsimp only [ex] at h
    replace h := pL_ok h
    obtain ⟨y, S1, rfl, h⟩ := h
    replace h := pL_ok h
    obtain ⟨x, S2, rfl, h⟩ := h
    split at h
    · cases h
    · rename_i hy
      exact (hk _ _ _ _ _ _ _ _ X hL hR hF hB h).step fun t q => XS.ldiv X.here hx rfl hd rfl hy q
  | lrem =>
    dsimp only [ex] at h
    replace h := pL_ok h
    obtain ⟨y, S1, rfl, h⟩ := h
    replace h := pL_ok h
    obtain ⟨x, S2, rfl, h⟩ := h
    split at h
    · cases h
    · rename_i hy
      exact (hk _ _ _ _ _ _ _ _ X hL hR hF hB h).step fun t q => XS.lrem X.here hx rfl hd rfl hy (by rw [lrem_mod]; exact q)
  | ineg =>
    dsimp only [ex] at h
    replace h := pI_ok h
    obtain ⟨x, S1, rfl, h⟩ := h
    exact (hk _ _ _ _ _ _ _ _ X hL hR hF hB h).step fun t q => XS.ineg X.here hx rfl hd rfl q
  | i2b =>
    dsimp only [ex] at h
    replace h := pI_ok h
    obtain ⟨x, S1, rfl, h⟩ := h
    exact (hk _ _ _ _ _ _ _ _ X hL hR hF hB h).step fun t q => XS.i2b X.here hx rfl hd rfl q
  | i2c =>
    dsimp only [ex] at h
    replace h := pI_ok h
    obtain ⟨x, S1, rfl, h⟩ := h
    exact (hk _ _ _ _ _ _ _ _ X hL hR hF hB h).step fun t q => XS.i2c X.here hx rfl hd rfl q
  | i2s =>
    dsimp only [ex] at h
    replace h := pI_ok h
    obtain ⟨x, S1, rfl, h⟩ := h
    exact (hk _ _ _ _ _ _ _ _ X hL hR hF hB h).step fun t q => XS.i2s X.here hx rfl hd rfl q
  | i2l =>
    dsimp only [ex] at h
    replace h := pI_ok h
    obtain ⟨x, S1, rfl, h⟩ := h
    exact (hk _ _ _ _ _ _ _ _ X hL hR hF hB h).step fun t q => XS.i2l X.here hx rfl hd rfl q
  | l2i =>
    dsimp only [ex] at h
    replace h := pL_ok h
    obtain ⟨x, S1, rfl, h⟩ := h
    exact (hk _ _ _ _ _ _ _ _ X hL hR hF hB h).step fun t q => XS.l2i X.here hx rfl hd rfl q
  | lneg =>
    dsimp only [ex] at h
    replace h := pL_ok h
    obtain ⟨x, S1, rfl, h⟩ := h
    exact (hk _ _ _ _ _ _ _ _ X hL hR hF hB h).step fun t q => XS.lneg X.here hx rfl hd rfl q
  | dup =>
    dsimp only [ex] at h
    replace h := p1_ok (σ := σ) h
    obtain ⟨x, S1, rfl, h, h1⟩ := h
    exact (hk _ _ _ _ _ _ _ _ X hL hR hF hB h).step fun t q => XS.dup X.here hx rfl hd rfl h1 q
  | pop =>
    dsimp only [ex] at h
    replace h := p1_ok (σ := σ) h
    obtain ⟨x, S1, rfl, h, h1⟩ := h
    exact (hk _ _ _ _ _ _ _ _ X hL hR hF hB h).step fun t q => XS.pop X.here hx rfl hd rfl h1 q
  | dup_x1 =>
    dsimp only [ex] at h
    replace h := p1_ok (σ := σ) h
    obtain ⟨x, S1, rfl, h, h1⟩ := h
    replace h := p1_ok (σ := σ) h
    obtain ⟨y, S2, rfl, h, h2⟩ := h
    exact (hk _ _ _ _ _ _ _ _ X hL hR hF hB h).step fun t q => XS.dupX1 X.here hx rfl hd rfl h1 h2 q
  | dup2 =>
    dsimp only [ex] at h
    replace h := p1_ok (σ := σ) h
    obtain ⟨x, S1, rfl, h, h1⟩ := h
    replace h := p1_ok (σ := σ) h
    obtain ⟨y, S2, rfl, h, h2⟩ := h
    exact (hk _ _ _ _ _ _ _ _ X hL hR hF hB h).step fun t q => XT.dup2 X.here hx rfl hd rfl h1 h2 q
  | goto o =>
    dsimp only [ex] at h
    split at h
    · rename_i ho
      exact (hk _ _ _ _ _ _ _ _ X hL hR hF hB h).step fun t q => XS.goto X.here hx rfl rfl hd ho rfl q
    · cases h
  | ifCond cd o =>
    dsimp only [ex] at h
    replace h := pI_ok h
    obtain ⟨x, S1, rfl, h⟩ := h
    replace h := br_ok h
    obtain ⟨ho, ⟨hc, h⟩ | ⟨hc, h⟩⟩ := h
    · exact (hk _ _ _ _ _ _ _ _ X hL hR hF hB h).step fun t q => XS.ifYes X.here hx rfl rfl hd rfl hc ho rfl q
    · exact (hk _ _ _ _ _ _ _ _ X hL hR hF hB h).step fun t q => XS.ifNo X.here hx rfl hd rfl hc q
  | if_icmp cd o =>
    dsimp only [ex] at h
    replace h := pI_ok h
    obtain ⟨y, S1, rfl, h⟩ := h
    replace h := pI_ok h
    obtain ⟨x, S2, rfl, h⟩ := h
    replace h := br_ok h
    obtain ⟨ho, ⟨hc, h⟩ | ⟨hc, h⟩⟩ := h
    · exact (hk _ _ _ _ _ _ _ _ X hL hR hF hB h).step fun t q => XS.icmpYes X.here hx rfl rfl hd rfl hc ho rfl q
    · exact (hk _ _ _ _ _ _ _ _ X hL hR hF hB h).step fun t q => XS.icmpNo X.here hx rfl hd rfl hc q
  | ifnull o =>
    dsimp only [ex] at h
    replace h := pA_ok h
    obtain ⟨x, S1, rfl, h, hr⟩ := h
    replace h := br_ok h
    obtain ⟨ho, ⟨hc, h⟩ | ⟨hc, h⟩⟩ := h
    · rcases hr with rfl | ⟨a, rfl⟩
      · exact (hk _ _ _ _ _ _ _ _ X hL hR hF hB h).step fun t q => XS.ifnullYes X.here hx rfl rfl hd rfl ho rfl q
      · cases hc
    · rcases hr with rfl | ⟨a, rfl⟩
      · cases hc
      · exact (hk _ _ _ _ _ _ _ _ X hL hR hF hB h).step fun t q => XS.ifnullNo X.here hx rfl hd rfl q
  | ifnonnull o =>
    dsimp only [ex] at h
    replace h := pA_ok h
    obtain ⟨x, S1, rfl, h, hr⟩ := h
    replace h := br_ok h
    obtain ⟨ho, ⟨hc, h⟩ | ⟨hc, h⟩⟩ := h
    · rcases hr with rfl | ⟨a, rfl⟩
      · cases hc
      · exact (hk _ _ _ _ _ _ _ _ X hL hR hF hB h).step fun t q => XS.ifnonnullYes X.here hx rfl rfl hd rfl ho rfl q
    · rcases hr with rfl | ⟨a, rfl⟩
      · exact (hk _ _ _ _ _ _ _ _ X hL hR hF hB h).step fun t q => XS.ifnonnullNo X.here hx rfl hd rfl q
      · cases hc
  | if_acmp cd o =>
    dsimp only [ex] at h
    replace h := pA_ok h
    obtain ⟨y, S1, rfl, h, hr⟩ := h
    replace h := pA_ok h
    obtain ⟨x, S2, rfl, h, hr'⟩ := h
    replace h := br_ok h
    obtain ⟨ho, ⟨hc, h⟩ | ⟨hc, h⟩⟩ := h
    · exact (hk _ _ _ _ _ _ _ _ X hL hR hF hB h).step fun t q => acmp X hx rfl (ref_of hr').1 (ref_of hr).1 (same := refEq x y) rfl hd rfl (refEq_ok hsg hr' hr) ho (by rw [if_pos hc]) q
    · exact (hk _ _ _ _ _ _ _ _ X hL hR hF hB h).step fun t q => acmp X hx rfl (ref_of hr').1 (ref_of hr).1 (same := refEq x y) rfl hd rfl (refEq_ok hsg hr' hr) ho (by rw [if_neg (by simp [hc])]) q
  | arraylength =>
    dsimp only [ex] at h
    replace h := pR_ok h
    obtain ⟨a, S1, rfl, h⟩ := h
    replace h := bind_ok h
    obtain ⟨⟨ty, vs⟩, h1, h⟩ := h
    obtain ⟨cell, A, hs, hl, hfi, -⟩ := hR.2.2.2 _ _ (arr_some h1)
    have hz : cell.slots.size.toInt32 = vs.length.toInt32 := by rw [hs]; simp
    have D := hk _ _ _ _ _ _ _ _ X hL hR hF hB h
    refine D.step fun t q => ?_
    refine X.arraylength hx (cell := cell) A.1 (State.isArrayOf_alike hZ.alike A.2.1) (g := mkF m pc (cL σ L) (.ref (σ a) :: S1.map (cv σ))) rfl rfl hd t ?_
    rw [hz]
    exact q
  | iaload =>
    dsimp only [ex, ald] at h
    replace h := pI_ok h
    obtain ⟨j, S1, rfl, h⟩ := h
    replace h := pR_ok h
    obtain ⟨a, S2, rfl, h⟩ := h
    replace h := bind_ok h
    obtain ⟨⟨ty, vs⟩, h1, h⟩ := h
    split at h
    · rename_i hq
      replace h := bind_ok h
      obtain ⟨v, h2, h⟩ := h
      obtain ⟨cell, A, hs, hl, hfi, -⟩ := hR.2.2.2 _ _ (arr_some h1)
      obtain rfl : ty = .int := of_decide_eq_true hq.1
      have hv : cell.slots[j.toNatClampNeg]? = some (cv σ v) := by rw [hs, List.getElem?_toArray, List.getElem?_map, h2]; rfl
      exact (hk _ _ _ _ _ _ _ _ X hL hR hF hB h).step fun t q => X.iaload hx (cell := cell) (j := j) (v := cv σ v) A.1 (State.isArrayOf_alike hZ.alike A.2.1) A.2.2 (inB hq.2 hv) hv (g := mkF m pc (cL σ L) (.int j :: .ref (σ a) :: S2.map (cv σ))) rfl rfl hd t q
    · cases h
  | baload =>
    dsimp only [ex, ald] at h
    replace h := pI_ok h
    obtain ⟨j, S1, rfl, h⟩ := h
    replace h := pR_ok h
    obtain ⟨a, S2, rfl, h⟩ := h
    replace h := bind_ok h
    obtain ⟨⟨ty, vs⟩, h1, h⟩ := h
    split at h
    · rename_i hq
      replace h := bind_ok h
      obtain ⟨v, h2, h⟩ := h
      obtain ⟨cell, A, hs, hl, hfi, -⟩ := hR.2.2.2 _ _ (arr_some h1)
      have hv : cell.slots[j.toNatClampNeg]? = some (cv σ v) := by rw [hs, List.getElem?_toArray, List.getElem?_map, h2]; rfl
      cases ty with
      | byte => exact (hk _ _ _ _ _ _ _ _ X hL hR hF hB h).step fun t q => X.baloadBytes hx (cell := cell) (j := j) (v := cv σ v) A.1 (State.isArrayOf_alike hZ.alike A.2.1) A.2.2 (inB hq.2 hv) hv (g := mkF m pc (cL σ L) (.int j :: .ref (σ a) :: S2.map (cv σ))) rfl rfl hd t q
      | boolean => exact (hk _ _ _ _ _ _ _ _ X hL hR hF hB h).step fun t q => X.baloadBooleans hx (cell := cell) (j := j) (v := cv σ v) A.1 (State.isArrayOf_alike hZ.alike A.2.1) A.2.2 (inB hq.2 hv) hv (g := mkF m pc (cL σ L) (.int j :: .ref (σ a) :: S2.map (cv σ))) rfl rfl hd t q
      | _ => exact nomatch (show false = true from hq.1)
    · cases h
  | caload =>
    dsimp only [ex, ald] at h
    replace h := pI_ok h
    obtain ⟨j, S1, rfl, h⟩ := h
    replace h := pR_ok h
    obtain ⟨a, S2, rfl, h⟩ := h
    replace h := bind_ok h
    obtain ⟨⟨ty, vs⟩, h1, h⟩ := h
    split at h
    · rename_i hq
      replace h := bind_ok h
      obtain ⟨v, h2, h⟩ := h
      obtain ⟨cell, A, hs, hl, hfi, -⟩ := hR.2.2.2 _ _ (arr_some h1)
      obtain rfl : ty = .char := of_decide_eq_true hq.1
      have hv : cell.slots[j.toNatClampNeg]? = some (cv σ v) := by rw [hs, List.getElem?_toArray, List.getElem?_map, h2]; rfl
      exact (hk _ _ _ _ _ _ _ _ X hL hR hF hB h).step fun t q => X.caload hx (cell := cell) (j := j) (v := cv σ v) A.1 (State.isArrayOf_alike hZ.alike A.2.1) A.2.2 (inB hq.2 hv) hv (g := mkF m pc (cL σ L) (.int j :: .ref (σ a) :: S2.map (cv σ))) rfl rfl hd t q
    · cases h
  | laload =>
    dsimp only [ex, ald] at h
    replace h := pI_ok h
    obtain ⟨j, S1, rfl, h⟩ := h
    replace h := pR_ok h
    obtain ⟨a, S2, rfl, h⟩ := h
    replace h := bind_ok h
    obtain ⟨⟨ty, vs⟩, h1, h⟩ := h
    split at h
    · rename_i hq
      replace h := bind_ok h
      obtain ⟨v, h2, h⟩ := h
      obtain ⟨cell, A, hs, hl, hfi, -⟩ := hR.2.2.2 _ _ (arr_some h1)
      obtain rfl : ty = .long := of_decide_eq_true hq.1
      have hv : cell.slots[j.toNatClampNeg]? = some (cv σ v) := by rw [hs, List.getElem?_toArray, List.getElem?_map, h2]; rfl
      exact (hk _ _ _ _ _ _ _ _ X hL hR hF hB h).step fun t q => X.laload hx (cell := cell) (j := j) (v := cv σ v) A.1 (State.isArrayOf_alike hZ.alike A.2.1) A.2.2 (inB hq.2 hv) hv (g := mkF m pc (cL σ L) (.int j :: .ref (σ a) :: S2.map (cv σ))) rfl rfl hd t q
    · cases h
  | aaload =>
    dsimp only [ex, ald] at h
    replace h := pI_ok h
    obtain ⟨j, S1, rfl, h⟩ := h
    replace h := pR_ok h
    obtain ⟨a, S2, rfl, h⟩ := h
    replace h := bind_ok h
    obtain ⟨⟨ty, vs⟩, h1, h⟩ := h
    split at h
    · rename_i hq
      replace h := bind_ok h
      obtain ⟨v, h2, h⟩ := h
      obtain ⟨cell, A, hs, hl, hfi, -⟩ := hR.2.2.2 _ _ (arr_some h1)
      have hv : cell.slots[j.toNatClampNeg]? = some (cv σ v) := by rw [hs, List.getElem?_toArray, List.getElem?_map, h2]; rfl
      exact (hk _ _ _ _ _ _ _ _ X hL hR hF hB h).step fun t q => X.aaload hx (cell := cell) (j := j) (v := cv σ v) A.1 (State.isArrayOf_alike hZ.alike A.2.1) hq.1 A.2.2 (inB hq.2 hv) hv (g := mkF m pc (cL σ L) (.int j :: .ref (σ a) :: S2.map (cv σ))) rfl rfl hd t q
    · cases h
  | iastore =>
    dsimp only [ex, ast] at h
    replace h := pI_ok h
    obtain ⟨x, S0, rfl, h⟩ := h
    replace h := pI_ok h
    obtain ⟨j, S1, rfl, h⟩ := h
    replace h := pR_ok h
    obtain ⟨a, S2, rfl, h⟩ := h
    replace h := bind_ok h
    obtain ⟨⟨ty, vs⟩, h1, h⟩ := h
    split at h
    · rename_i hq
      obtain rfl : ty = .int := of_decide_eq_true hq.1
      obtain ⟨cell, A, hs, hl, hfi, -⟩ := hR.2.2.2 _ _ (arr_some h1)
      obtain ⟨T', h', X', e', W, st⟩ := stI X hx hZ rfl A (j := j) (x := x) (by rw [hs]; simpa using And.intro hq.2.1 hq.2.2.1) (g := mkF m pc (cL σ L) _) rfl rfl hd
      refine (hk _ _ _ _ _ _ _ _ X' hL (e' ▸ hR.write hsg hq.2.2.2 W (RepO.arr (hR.2.2.2 _ _ (arr_some h1)) (v := .int _) (rfl) W)) (Fr.snoc X' hF (hsg.new hq.2.2.2)) hB h).step st
    · cases h
  | bastore =>
    dsimp only [ex, ast] at h
    replace h := pI_ok h
    obtain ⟨x, S0, rfl, h⟩ := h
    replace h := pI_ok h
    obtain ⟨j, S1, rfl, h⟩ := h
    replace h := pR_ok h
    obtain ⟨a, S2, rfl, h⟩ := h
    replace h := bind_ok h
    obtain ⟨⟨ty, vs⟩, h1, h⟩ := h
    split at h
    · rename_i hq
      obtain rfl : ty = .byte := of_decide_eq_true hq.1
      obtain ⟨cell, A, hs, hl, hfi, -⟩ := hR.2.2.2 _ _ (arr_some h1)
      obtain ⟨T', h', X', e', W, st⟩ := stB X hx hZ rfl A (j := j) (x := x) (by rw [hs]; simpa using And.intro hq.2.1 hq.2.2.1) (g := mkF m pc (cL σ L) _) rfl rfl hd
      refine (hk _ _ _ _ _ _ _ _ X' hL (e' ▸ hR.write hsg hq.2.2.2 W (RepO.arr (hR.2.2.2 _ _ (arr_some h1)) (v := .int _) (fits_nar_byte _) W)) (Fr.snoc X' hF (hsg.new hq.2.2.2)) hB h).step st
    · cases h
  | castore =>
    dsimp only [ex, ast] at h
    replace h := pI_ok h
    obtain ⟨x, S0, rfl, h⟩ := h
    replace h := pI_ok h
    obtain ⟨j, S1, rfl, h⟩ := h
    replace h := pR_ok h
    obtain ⟨a, S2, rfl, h⟩ := h
    replace h := bind_ok h
    obtain ⟨⟨ty, vs⟩, h1, h⟩ := h
    split at h
    · rename_i hq
      obtain rfl : ty = .char := of_decide_eq_true hq.1
      obtain ⟨cell, A, hs, hl, hfi, -⟩ := hR.2.2.2 _ _ (arr_some h1)
      obtain ⟨T', h', X', e', W, st⟩ := stC X hx hZ rfl A (j := j) (x := x) (by rw [hs]; simpa using And.intro hq.2.1 hq.2.2.1) (g := mkF m pc (cL σ L) _) rfl rfl hd
      refine (hk _ _ _ _ _ _ _ _ X' hL (e' ▸ hR.write hsg hq.2.2.2 W (RepO.arr (hR.2.2.2 _ _ (arr_some h1)) (v := .int _) (fits_nar_char _) W)) (Fr.snoc X' hF (hsg.new hq.2.2.2)) hB h).step st
    · cases h
  | lastore =>
    dsimp only [ex, astL] at h
    replace h := pL_ok h
    obtain ⟨x, S0, rfl, h⟩ := h
    replace h := pI_ok h
    obtain ⟨j, S1, rfl, h⟩ := h
    replace h := pR_ok h
    obtain ⟨a, S2, rfl, h⟩ := h
    replace h := bind_ok h
    obtain ⟨⟨ty, vs⟩, h1, h⟩ := h
    split at h
    · rename_i hq
      obtain rfl : ty = .long := hq.1
      obtain ⟨cell, A, hs, hl, hfi, -⟩ := hR.2.2.2 _ _ (arr_some h1)
      obtain ⟨T', h', X', e', W, st⟩ := stJ X hx hZ rfl A (j := j) (x := x) (by rw [hs]; simpa using And.intro hq.2.1 hq.2.2.1) (g := mkF m pc (cL σ L) _) rfl rfl hd
      refine (hk _ _ _ _ _ _ _ _ X' hL (e' ▸ hR.write hsg hq.2.2.2 W (RepO.arr (hR.2.2.2 _ _ (arr_some h1)) (v := .long _) rfl W)) (Fr.snoc X' hF (hsg.new hq.2.2.2)) hB h).step st
    · cases h
  | ldc i =>
    dsimp only [ex, spc] at h
    replace h := bind_ok h
    obtain ⟨act, h1, h⟩ := h
    replace h := bind_ok h
    obtain ⟨⟨S', H', cs', ss'⟩, h2, h⟩ := h
    obtain ⟨T', locs', X', hR', hF', hB', st⟩ := look_good (q := 0) hE h1 T locs cs ss pc L S H S' H' cs' ss' X hd hL hR hF hB h2
    exact (hk _ _ _ _ _ _ _ _ X' hL hR' hF' hB' h).step st
  | ldc_w i =>
    dsimp only [ex, spc] at h
    replace h := bind_ok h
    obtain ⟨act, h1, h⟩ := h
    replace h := bind_ok h
    obtain ⟨⟨S', H', cs', ss'⟩, h2, h⟩ := h
    obtain ⟨T', locs', X', hR', hF', hB', st⟩ := look_good (q := 1) hE h1 T locs cs ss pc L S H S' H' cs' ss' X hd hL hR hF hB h2
    exact (hk _ _ _ _ _ _ _ _ X' hL hR' hF' hB' h).step st
  | ldc2_w i =>
    dsimp only [ex, spc] at h
    replace h := bind_ok h
    obtain ⟨act, h1, h⟩ := h
    replace h := bind_ok h
    obtain ⟨⟨S', H', cs', ss'⟩, h2, h⟩ := h
    obtain ⟨T', locs', X', hR', hF', hB', st⟩ := look_good (q := 2) hE h1 T locs cs ss pc L S H S' H' cs' ss' X hd hL hR hF hB h2
    exact (hk _ _ _ _ _ _ _ _ X' hL hR' hF' hB' h).step st
  | getfield i =>
    dsimp only [ex, spc] at h
    replace h := bind_ok h
    obtain ⟨act, h1, h⟩ := h
    replace h := bind_ok h
    obtain ⟨⟨S', H', cs', ss'⟩, h2, h⟩ := h
    obtain ⟨T', locs', X', hR', hF', hB', st⟩ := look_good (q := 3) hE h1 T locs cs ss pc L S H S' H' cs' ss' X hd hL hR hF hB h2
    exact (hk _ _ _ _ _ _ _ _ X' hL hR' hF' hB' h).step st
  | putfield i =>
    dsimp only [ex, spc] at h
    replace h := bind_ok h
    obtain ⟨act, h1, h⟩ := h
    replace h := bind_ok h
    obtain ⟨⟨S', H', cs', ss'⟩, h2, h⟩ := h
    obtain ⟨T', locs', X', hR', hF', hB', st⟩ := look_good (q := 4) hE h1 T locs cs ss pc L S H S' H' cs' ss' X hd hL hR hF hB h2
    exact (hk _ _ _ _ _ _ _ _ X' hL hR' hF' hB' h).step st
  | getstatic i =>
    dsimp only [ex, spc] at h
    replace h := bind_ok h
    obtain ⟨act, h1, h⟩ := h
    replace h := bind_ok h
    obtain ⟨⟨S', H', cs', ss'⟩, h2, h⟩ := h
    obtain ⟨T', locs', X', hR', hF', hB', st⟩ := look_good (q := 5) hE h1 T locs cs ss pc L S H S' H' cs' ss' X hd hL hR hF hB h2
    exact (hk _ _ _ _ _ _ _ _ X' hL hR' hF' hB' h).step st
  | new i =>
    dsimp only [ex, spc] at h
    replace h := bind_ok h
    obtain ⟨act, h1, h⟩ := h
    replace h := bind_ok h
    obtain ⟨⟨S', H', cs', ss'⟩, h2, h⟩ := h
    obtain ⟨T', locs', X', hR', hF', hB', st⟩ := look_good (q := 6) hE h1 T locs cs ss pc L S H S' H' cs' ss' X hd hL hR hF hB h2
    exact (hk _ _ _ _ _ _ _ _ X' hL hR' hF' hB' h).step st
  | invokestatic i =>
    dsimp only [ex, spc] at h
    replace h := bind_ok h
    obtain ⟨act, h1, h⟩ := h
    replace h := bind_ok h
    obtain ⟨⟨S', H', cs', ss'⟩, h2, h⟩ := h
    obtain ⟨T', locs', X', hR', hF', hB', st⟩ := look_good (q := 7) hE h1 T locs cs ss pc L S H S' H' cs' ss' X hd hL hR hF hB h2
    exact (hk _ _ _ _ _ _ _ _ X' hL hR' hF' hB' h).step st
  | invokespecial i =>
    dsimp only [ex, spc] at h
    replace h := bind_ok h
    obtain ⟨act, h1, h⟩ := h
    replace h := bind_ok h
    obtain ⟨⟨S', H', cs', ss'⟩, h2, h⟩ := h
    obtain ⟨T', locs', X', hR', hF', hB', st⟩ := look_good (q := 8) hE h1 T locs cs ss pc L S H S' H' cs' ss' X hd hL hR hF hB h2
    exact (hk _ _ _ _ _ _ _ _ X' hL hR' hF' hB' h).step st
  | invokevirtual i =>
    dsimp only [ex, spc] at h
    replace h := bind_ok h
    obtain ⟨act, h1, h⟩ := h
    replace h := bind_ok h
    obtain ⟨⟨S', H', cs', ss'⟩, h2, h⟩ := h
    obtain ⟨T', locs', X', hR', hF', hB', st⟩ := look_good (q := 9) hE h1 T locs cs ss pc L S H S' H' cs' ss' X hd hL hR hF hB h2
    exact (hk _ _ _ _ _ _ _ _ X' hL hR' hF' hB' h).step st
  | checkcast i =>
    dsimp only [ex, spc] at h
    replace h := bind_ok h
    obtain ⟨act, h1, h⟩ := h
    replace h := bind_ok h
    obtain ⟨⟨S', H', cs', ss'⟩, h2, h⟩ := h
    obtain ⟨T', locs', X', hR', hF', hB', st⟩ := look_good (q := 10) hE h1 T locs cs ss pc L S H S' H' cs' ss' X hd hL hR hF hB h2
    exact (hk _ _ _ _ _ _ _ _ X' hL hR' hF' hB' h).step st
  | instanceof i =>
    dsimp only [ex, spc] at h
    replace h := bind_ok h
    obtain ⟨act, h1, h⟩ := h
    replace h := bind_ok h
    obtain ⟨⟨S', H', cs', ss'⟩, h2, h⟩ := h
    obtain ⟨T', locs', X', hR', hF', hB', st⟩ := look_good (q := 11) hE h1 T locs cs ss pc L S H S' H' cs' ss' X hd hL hR hF hB h2
    exact (hk _ _ _ _ _ _ _ _ X' hL hR' hF' hB' h).step st
  | anewarray i =>
    dsimp only [ex, spc] at h
    replace h := bind_ok h
    obtain ⟨act, h1, h⟩ := h
    replace h := bind_ok h
    obtain ⟨⟨S', H', cs', ss'⟩, h2, h⟩ := h
    obtain ⟨T', locs', X', hR', hF', hB', st⟩ := look_good (q := 12) hE h1 T locs cs ss pc L S H S' H' cs' ss' X hd hL hR hF hB h2
    exact (hk _ _ _ _ _ _ _ _ X' hL hR' hF' hB' h).step st
  | newarray ty =>
    dsimp only [ex, spc] at h
    replace h := bind_ok h
    obtain ⟨act, h1, h⟩ := h
    replace h := bind_ok h
    obtain ⟨⟨S', H', cs', ss'⟩, h2, h⟩ := h
    have g1 := look_good (q := 13) hE h1
    rw [show insOf 13 (atn ty) = .newarray ty from by cases ty <;> rfl] at g1
    obtain ⟨T', locs', X', hR', hF', hB', st⟩ := g1 T locs cs ss pc L S H S' H' cs' ss' X hd hL hR hF hB h2
    exact (hk _ _ _ _ _ _ _ _ X' hL hR' hF' hB' h).step st
  | ireturn =>
    dsimp only [ex, rI] at h
    replace h := pI_ok h
    obtain ⟨z, S1, rfl, h⟩ := h
    split at h
    · cases h
      obtain ⟨fs, hr, hrun, hended, hW, hsame⟩ := X.leave (v := some (.int z)) (fun q => by rw [hrt] at q; cases q) hlk
      exact ⟨_, retOut X hx hrt rfl (Or.inl ⟨rfl, Or.inl rfl, z, rfl⟩) hd hr, hrun, hended, hR, locs, hF, hW, hsame.mono hB.1 hB.2⟩
    · cases h
      obtain ⟨fs, hr, hrun, hended, hW, hsame⟩ := X.leave (v := some (.int (z &&& 1))) (fun q => by rw [hrt] at q; cases q) hlk
      exact ⟨_, retN X hx (t := .boolean) (z := z) hrt (by simp) hd hr, hrun, hended, hR, locs, hF, hW, hsame.mono hB.1 hB.2⟩
    · cases h
      obtain ⟨fs, hr, hrun, hended, hW, hsame⟩ := X.leave (v := some (.int z.toInt8.toInt32)) (fun q => by rw [hrt] at q; cases q) hlk
      exact ⟨_, retN X hx (t := .byte) (z := z) hrt (by simp) hd hr, hrun, hended, hR, locs, hF, hW, hsame.mono hB.1 hB.2⟩
    · cases h
      obtain ⟨fs, hr, hrun, hended, hW, hsame⟩ := X.leave (v := some (.int z.toUInt32.toUInt16.toUInt32.toInt32)) (fun q => by rw [hrt] at q; cases q) hlk
      exact ⟨_, retN X hx (t := .char) (z := z) hrt (by simp) hd hr, hrun, hended, hR, locs, hF, hW, hsame.mono hB.1 hB.2⟩
    · cases h
      obtain ⟨fs, hr, hrun, hended, hW, hsame⟩ := X.leave (v := some (.int z.toInt16.toInt32)) (fun q => by rw [hrt] at q; cases q) hlk
      exact ⟨_, retN X hx (t := .short) (z := z) hrt (by simp) hd hr, hrun, hended, hR, locs, hF, hW, hsame.mono hB.1 hB.2⟩
    · cases h
  | lreturn =>
    dsimp only [ex, rL] at h
    replace h := pL_ok h
    obtain ⟨z, S1, rfl, h⟩ := h
    split at h
    · cases h
      obtain ⟨fs, hr, hrun, hended, hW, hsame⟩ := X.leave (v := some (.long z)) (fun q => by rw [hrt] at q; cases q) hlk
      exact ⟨_, retOut X hx hrt rfl (Or.inr (Or.inl ⟨rfl, rfl, z, rfl⟩)) hd hr, hrun, hended, hR, locs, hF, hW, hsame.mono hB.1 hB.2⟩
    · cases h
  | areturn =>
    dsimp only [ex, rA] at h
    replace h := pA_ok h
    obtain ⟨z, S1, rfl, h, hq⟩ := h
    split at h
    · cases h
      obtain ⟨fs, hr, hrun, hended, hW, hsame⟩ := X.leave (v := some (cv σ z)) (fun q => by rw [hrt] at q; cases q) hlk
      exact ⟨_, retOut X hx hrt (by cases z <;> rfl) (Or.inr (Or.inr (Or.inr (Or.inr ⟨rfl, rfl, (ref_of hq).1⟩)))) hd hr, hrun, hended, hR, locs, hF, hW, hsame.mono hB.1 hB.2⟩
    · cases h
      obtain ⟨fs, hr, hrun, hended, hW, hsame⟩ := X.leave (v := some (cv σ z)) (fun q => by rw [hrt] at q; cases q) hlk
      exact ⟨_, retOut X hx hrt (by cases z <;> rfl) (Or.inr (Or.inr (Or.inr (Or.inr ⟨rfl, rfl, (ref_of hq).1⟩)))) hd hr, hrun, hended, hR, locs, hF, hW, hsame.mono hB.1 hB.2⟩
    · cases h
  | return_ =>
    dsimp only [ex, rV] at h
    split at h
    · cases h
      obtain ⟨fs, hr, hrun, hended, hW, hsame⟩ := X.leave (v := none) (fun _ => rfl) hlk
      exact ⟨_, X.returnOut hx hrt hd hr, hrun, hended, hR, locs, hF, hW, hsame.mono hB.1 hB.2⟩
    · cases h
  | _ => exact nomatch (show (none : Option ORes) = some res from h)
theorem run_sound {rt : Option FieldType} {E : List (Nat × Nat × Act)} {res : ORes} (hx : p.tables.exec = Jvm.exec) (hZ : Z.Warmed39 s.vm) (hsg : Sg σ x0 n0) (hrt : meth.sig.returnType = rt) (hlk : meth.locks = false) (hE : AllGood p l e R s m args below meth c Z σ x0 n0 K E) :
    ∀ (n : Nat) (T : State) (locs : List Loc) (cs ss pc : Nat) (L : List Slot) (S : List Value) (H : AH), Stand p l e R s m args below meth c T locs cs ss → L.length = c.maxLocals → Rep Z σ x0 n0 K T.heap H → Fr n0 locs → cs ≤ R.cells ∧ ss ≤ R.slots → orun c.code rt E x0 n (pc, L, S, H, cs, ss) = some res → Done p e R s below Z σ x0 n0 K res T (mkF m pc (cL σ L) (S.map (cv σ)))
  | 0, _, _, _, _, _, _, _, _, _, _, _, _, _, h => nomatch (show (none : Option ORes) = some res from h)
  | n + 1, T, locs, cs, ss, pc, L, S, H, X, hL, hR, hF, hB, h => by
    rw [orun_succ] at h
    replace h := bind_ok h
    obtain ⟨i, hi, h⟩ := h
    exact ex_sound hx hZ hsg hrt hlk hE (run_sound hx hZ hsg hrt hlk hE n) X (dec_spec hi) hL hR hF hB h
/-! ## 4. A method's contract off its orun -/
def oflat : List Value → List Slot
  | [] => []
  | v :: r => if v.category = 2 then .val v :: .second :: oflat r else .val v :: oflat r
def ent (as : List Value) (n : Nat) : List Slot := oflat as ++ List.replicate (n - (oflat as).length) .unset
theorem cat_cv (v : Value) : (cv σ v).category = v.category := by cases v <;> rfl
theorem oflat_ok (as : List Value) : ∀ acc : Array Slot, (as.map (cv σ)).foldl (fun acc v => if v.category = 2 then (acc.push (.val v)).push .second else acc.push (.val v)) acc = acc ++ ((oflat as).map (csl σ)).toArray := by
  induction as with
  | nil => intro acc; simp [oflat]
  | cons v r ih =>
    intro acc
    simp only [List.map_cons, List.foldl_cons, cat_cv, oflat]
    rw [ih]
    split <;> simp [csl]
theorem ent_ok (as : List Value) (n : Nat) : argsToLocals (as.map (cv σ)).toArray n = cL σ (ent as n) := by
  have h := oflat_ok (σ := σ) as #[]
  simp only [argsToLocals, List.foldl_toArray]
  rw [h]
  simp [cL, ent, csl]
/-- what a callee's function says of it -/
def Says (l : Launch) (Z : State) (σ : Nat → Nat) (x0 n0 : Nat) (K : List CD) (y : MethodName) (bytes : ByteArray) (maxL : Nat) (ret : Option FieldType) (ws : List Jvm.Cond) (rm : Room) (F : List Value → AH → Option ORes) : Prop :=
  ∀ (as : List Value) (H : AH) (r : ORes) (h : Heap), F as H = some r → Rep Z σ x0 n0 K h H →
    MetFree l y (head1 (Jvm.Cond.code y bytes maxL ret :: ws) rm) (fun a U => a = (as.map (cv σ)).toArray ∧ Z.Warmed39 U.vm ∧ U.heap = h) (fun _ _ _ _ _ => True) (fun _ U o U' => ∃ v L, o = .returned v ∧ (v = r.1.map (cv σ) ∧ Rep Z σ x0 n0 K U'.heap r.2 ∧ Fr n0 L) ∧ FrameEnd U o U' L rm.cells rm.slots)
def fn (bytes : ByteArray) (maxL : Nat) (ret : Option FieldType) (E : List (Nat × Nat × Act)) (x0 fuel : Nat) (as : List Value) (H : AH) : Option ORes :=
  if (ent as maxL).length = maxL then orun bytes ret E x0 fuel (0, ent as maxL, [], H, 0, 0) else none
theorem says_fn {l : Launch} {Z : State} {σ : Nat → Nat} {x0 n0 : Nat} {K : List CD} {y : MethodName} {bytes : ByteArray} {maxL : Nat} {ret : Option FieldType} {ws : List Jvm.Cond} {rm : Room} {E : List (Nat × Nat × Act)} {fuel : Nat} (hsg : Sg σ x0 n0) (hpl : plainFor y = true)
    (hE : ∀ (p : Program) (e : Env) (s : State) (m : MethodId) (args : Array Value) (below : List Frame) (meth : Method) (c : Code), p.tables.exec = Jvm.exec → c.code = bytes → c.maxLocals = maxL → Z.Warmed39 s.vm → s.vm.findClass y.cls = some m.cls → meth.name = y.name → AllGood p l e rm s m args below meth c Z σ x0 n0 K E) :
    Says l Z σ x0 n0 K y bytes maxL ret ws rm (fn bytes maxL ret E x0 fuel) := by
  intro as H r h hf hR
  unfold fn at hf
  split at hf
  · rename_i hlen
    refine MetFree.of_bodySF hpl hisR ?_
    intro p e s m args below meth c s₁ Bd hml0 hP hK
    obtain ⟨rfl, hZ, hh⟩ := hP
    have hx := Bd.exec
    have hby := Bd.bytes
    have hown : s.vm.findClass y.cls = some m.cls := findClass_of_methodNamed Bd.named
    have hnm := (name_of_methodNamed Bd.named Bd.method).1
    have X0 : Stand p l e rm s m (as.map (cv σ)).toArray below meth c s₁ [] 0 0 := Stand.of_body Bd
    have e0 : s₁.heap = h := by rw [← hh, Bd.state]; rfl
    have D := run_sound hx hZ hsg Bd.returns (BodyLoose.notSynchronized Bd) (hE p e s m _ below meth c hx hby hml0 hZ hown hnm) fuel s₁ [] 0 0 0 (ent as maxL) [] H X0 (hlen.trans hml0.symm) (e0 ▸ hR) (Fr.nil n0) ⟨Nat.zero_le _, Nat.zero_le _⟩ (by rw [hby]; exact hf)
    obtain ⟨t, h1, h2, h3, h4, L, h5, h6, h7⟩ := D
    refine ⟨t, _, castTop (g' := mkF m 0 (cL σ (ent as maxL)) []) ?_ h1, h2, h3, _, L, rfl, ⟨rfl, h4, h5⟩, ⟨_, rfl⟩, h6, h7⟩
    simp only [entryFrame, ent_ok]
  · cases hf
end Sound
/-! ## 5. The steps that ask the sheet's words -/
def obj (H : AH) (k : Nat) : Option (Nat × List Value) := match H[k]? with | some (.inl q) => some q | _ => none
theorem obj_some {H : AH} {k : Nat} {q : Nat × List Value} (e : obj H k = some q) : H[k]? = some (.inl q) := by
  unfold obj at e; split at e
  · rename_i q' hq; cases e; exact hq
  · cases e
def aI (v : Int32) : Act := fun S H cs ss => some (.int v :: S, H, cs, ss)
def aJ (v : Int64) : Act := fun S H cs ss => some (.long v :: S, H, cs, ss)
def aGet (c j : Nat) : Act := fun S H cs ss => match S with
  | .ref a :: r => (obj H a).bind fun q => if q.1 = c then (q.2[j]?).bind fun v => some (v :: r, H, cs, ss) else none
  | _ => none
def aPut (x0 c j : Nat) (ty : FieldType) : Act := fun S H cs ss => match S with
  | v :: .ref a :: r => (obj H a).bind fun q => if q.1 = c ∧ narrow ty v = v ∧ fits ty v = true ∧ x0 ≤ a ∧ j < q.2.length then some (r, H.set a (.inl (c, q.2.set j v)), cs, ss) else none
  | _ => none
def aNew (c n Rc Rs : Nat) (ds : List Value) : Act := fun S H cs ss => if cs + 1 ≤ Rc ∧ ss + n ≤ Rs then some (.ref H.length :: S, H ++ [.inl (c, ds)], cs + 1, ss + n) else none
def aArr (ty : FieldType) (Rc Rs : Nat) : Act := fun S H cs ss => match S with
  | .int n :: r => if ¬ n < 0 ∧ cs + 1 ≤ Rc ∧ ss + n.toNatClampNeg ≤ Rs ∧ n.toNatClampNeg ≤ 67108864 then some (.ref H.length :: r, H ++ [.inr (ty, List.replicate n.toNatClampNeg (defaultValue ty))], cs + 1, ss + n.toNatClampNeg) else none
  | _ => none
def aObj (W : Nat) : Act := fun S H cs ss => match S with
  | .ref _ :: r => if (r.map Value.category).sum ≤ W then some (r, H, cs, ss) else none
  | _ => none
def aCall (na W Rc Rs mc ms : Nat) (F : List Value → AH → Option ORes) : Act := fun S H cs ss =>
  if na ≤ S.length ∧ ((S.drop na).map Value.category).sum ≤ W ∧ cs + mc ≤ Rc ∧ ss + ms ≤ Rs then (F (S.take na).reverse H).bind fun r => some (r.1.toList ++ S.drop na, r.2, cs + mc, ss + ms) else none
def aRecv (na cl W Rc Rs mc ms : Nat) (F : List Value → AH → Option ORes) : Act := fun S H cs ss => match S.drop na with
  | .ref a :: r => (obj H a).bind fun q => if q.1 = cl ∧ na ≤ S.length ∧ (r.map Value.category).sum ≤ W ∧ cs + mc ≤ Rc ∧ ss + ms ≤ Rs then (F (.ref a :: (S.take na).reverse) H).bind fun v => some (v.1.toList ++ r, v.2, cs + mc, ss + ms) else none
  | _ => none
section Acts
variable {p : Program} {l : Launch} {e : Env} {R : Room} {s : State} {m : MethodId} {args : Array Value} {below : List Frame} {meth : Method} {c : Code} {Z : State} {σ : Nat → Nat} {x0 n0 : Nat} {K : List CD} {a0 : Array Value}
theorem okI (hx : p.tables.exec = Jvm.exec) (hZ : Z.Warmed39 s.vm) {own : String} {idx : Nat} {v : Int32} (hown : s.vm.findClass own = some m.cls) (w : (Jvm.Cond.constant own idx v).before a0 Z = true) : Good p l e R s m args below meth c Z σ x0 n0 K (.ldc idx) (aI v) := by
  intro T locs cs ss pc L S H S' H' cs' ss' X hd hL hR hF hB h
  cases h
  exact ⟨T, locs, X, hR, hF, hB, fun t q => X.ldcInt hx hown (mvT hZ w) (g := mkF m pc (cL σ L) _) rfl hd t q⟩
theorem okIW (hx : p.tables.exec = Jvm.exec) (hZ : Z.Warmed39 s.vm) {own : String} {idx : Nat} {v : Int32} (hown : s.vm.findClass own = some m.cls) (w : (Jvm.Cond.constant own idx v).before a0 Z = true) : Good p l e R s m args below meth c Z σ x0 n0 K (.ldc_w idx) (aI v) := by
  intro T locs cs ss pc L S H S' H' cs' ss' X hd hL hR hF hB h
  cases h
  exact ⟨T, locs, X, hR, hF, hB, fun t q => X.ldcwInt hx hown (mvT hZ w) (g := mkF m pc (cL σ L) _) rfl hd t q⟩
theorem okJ (hx : p.tables.exec = Jvm.exec) (hZ : Z.Warmed39 s.vm) {own : String} {idx : Nat} {v : Int64} (hown : s.vm.findClass own = some m.cls) (w : (Jvm.Cond.constantLong own idx v).before a0 Z = true) : Good p l e R s m args below meth c Z σ x0 n0 K (.ldc2_w idx) (aJ v) := by
  intro T locs cs ss pc L S H S' H' cs' ss' X hd hL hR hF hB h
  cases h
  exact ⟨T, locs, X, hR, hF, hB, fun t q => X.ldc2Long hx hown (mvT hZ w) (g := mkF m pc (cL σ L) _) rfl hd t q⟩
theorem okGet (hx : p.tables.exec = Jvm.exec) (hZ : Z.Warmed39 s.vm) {own R0 O n d host C : String} {idx cn j : Nat} {fs : List (String × String × String)} (hown : s.vm.findClass own = some m.cls) (w : (Jvm.Cond.fieldLink own idx R0 n d).before a0 Z = true ∨ (Jvm.Cond.fieldLinkNest own idx R0 n d host).before a0 Z = true) (via : Via Z R0 O n d)
    (hC : K[cn]? = some (C, fs)) (hj : fs[j]? = some (O, n, d)) : Good p l e R s m args below meth c Z σ x0 n0 K (.getfield idx) (aGet cn j) := by
  intro T locs cs ss pc L S H S' H' cs' ss' X hd hL hR hF hB h
  unfold aGet at h
  split at h
  · rename_i a r
    replace h := Option.bind_eq_some_iff.mp h
    obtain ⟨⟨cn', vs⟩, h1, h⟩ := h
    dsimp only at h
    split at h
    · rename_i hcn; subst hcn
      replace h := Option.bind_eq_some_iff.mp h
      obtain ⟨v, h2, h⟩ := h
      cases h
      obtain ⟨C', fs', q1, q2, q3⟩ := hR.2.2.2 _ _ (obj_some h1)
      cases hC.symm.trans q1
      obtain ⟨O', n', d', q4, q5⟩ := q3 j v h2
      cases hj.symm.trans q4
      obtain ⟨T', X', e', st⟩ := getF X hx hZ hown w via rfl q5 (g := mkF m pc (cL σ L) (List.map (cv σ) (.ref a :: r))) rfl rfl hd
      exact ⟨T', locs, X', e' ▸ hR, hF, hB, st⟩
    · cases h
  · cases h
theorem cv_narrow {ty : FieldType} {v : Value} (h : narrow ty v = v) : narrow ty (cv σ v) = cv σ v := by cases v <;> first | exact h | (cases ty <;> rfl)
theorem okPut (hx : p.tables.exec = Jvm.exec) (hZ : Z.Warmed39 s.vm) (hsg : Sg σ x0 n0) (KO : KOk Z a0 K) {own R0 O n d host C : String} {idx cn j : Nat} {ty : FieldType} {fs : List (String × String × String)} (hown : s.vm.findClass own = some m.cls) (w : (Jvm.Cond.fieldLink own idx R0 n d).before a0 Z = true ∨ (Jvm.Cond.fieldLinkNest own idx R0 n d host).before a0 Z = true) (via : Via Z R0 O n d)
    (hC : K[cn]? = some (C, fs)) (hj : fs[j]? = some (O, n, d)) (hty : parseFieldDescriptor d = some ty) (hLay : (Jvm.Cond.lays C O n d).before a0 Z = true ∨ ((Jvm.Cond.laysFinal C O n d).before a0 Z = true ∧ own = O ∧ meth.name = "<init>")) : Good p l e R s m args below meth c Z σ x0 n0 K (.putfield idx) (aPut x0 cn j ty) := by
  intro T locs cs ss pc L S H S' H' cs' ss' X hd hL hR hF hB h
  unfold aPut at h
  split at h
  · rename_i v a r
    replace h := Option.bind_eq_some_iff.mp h
    obtain ⟨⟨cn', vs⟩, h1, h⟩ := h
    dsimp only at h
    split at h
    · rename_i hq
      obtain ⟨rfl, hn, hf, hx0, hjl⟩ := hq
      cases h
      have hRO := hR.2.2.2 _ _ (obj_some h1)
      obtain ⟨C', fs', q1, q2, q3⟩ := hRO
      cases hC.symm.trans q1
      obtain ⟨O', n', d', q4, q5⟩ := q3 j _ (List.getElem?_eq_getElem hjl)
      cases hj.symm.trans q4
      obtain ⟨⟨kk, wi⟩, -⟩ := KO cn' C fs hC
      obtain ⟨T', h', X', e', W, st⟩ := putF X hx hZ hown w via rfl q5 q2 hLay wi hty (cv_narrow hn) ((cv_fits ty v).trans hf) (g := mkF m pc (cL σ L) (List.map (cv σ) (v :: .ref a :: S'))) rfl rfl hd
      exact ⟨T', _, X', e' ▸ hR.write hsg hx0 W (RepO.fld KO hC hj (hR.2.2.2 _ _ (obj_some h1)) W), Fr.snoc X' hF (hsg.new hx0), hB, st⟩
    · cases h
  · cases h
theorem ext_push (h : Heap) (c : Cell) : Ext h (h.push c) := ext_of fun a q => (Array.getElem?_push_lt q).trans (Array.getElem?_eq_getElem q).symm
theorem okNew (hx : p.tables.exec = Jvm.exec) (hZ : Z.Warmed39 s.vm) (hsg : Sg σ x0 n0) (KO : KOk Z a0 K) {own C : String} {idx n cn Rc Rs : Nat} {ds : List Value} {fs : List (String × String × String)} (hown : s.vm.findClass own = some m.cls) (w : (Jvm.Cond.classLink own idx C).before a0 Z = true) (wi : (Jvm.Cond.instantiable C n).before a0 Z = true) (wz : (Jvm.Cond.initialized C).before a0 Z = true)
    (hC : K[cn]? = some (C, fs)) (hds : ds = fs.map fun f => ((parseFieldDescriptor f.2.2).map defaultValue).getD .null) (hRc : Rc ≤ R.cells) (hRs : Rs ≤ R.slots) : Good p l e R s m args below meth c Z σ x0 n0 K (.new idx) (aNew cn n Rc Rs ds) := by
  intro T locs cs ss pc L S H S' H' cs' ss' X hd hL hR hF hB h
  unfold aNew at h
  split at h
  · rename_i hq
    cases h
    obtain ⟨vm', cC, kC, h1, h2, h3, h4, X', st⟩ := X.newCold hx hown (mv hZ w) (mv hZ wi) (mv hZ wz) (g := mkF m pc (cL σ L) (S.map (cv σ))) rfl hd (Nat.le_trans hq.1 hRc) (Nat.le_trans hq.2 hRs)
    have ea : σ H.length = T.heap.size := hR.addr hsg
    have h1' : Z.vm.findClass C = some cC := by rw [← hZ.alike.findClass]; exact h1
    obtain ⟨kZ, z1, -⟩ := Vm.findClass_spec h1'
    obtain ⟨k', z2, z3⟩ := hZ.alike.2.2 _ _ z1
    cases h2.symm.trans z2
    have ei : kC.instanceTypes = kZ.instanceTypes := by rw [z3]
    have hN : (T.heap.push { cls := cC, slots := kC.instanceTypes.map defaultValue, vm := .none })[T.heap.size]? = some { cls := cC, slots := kC.instanceTypes.map defaultValue, vm := .none } := by simp
    refine ⟨_, locs, X', hR.push (ext_push _ _) (by show (T.heap.push _).size = _; simp) ?_, hF, ⟨Nat.le_trans hq.1 hRc, Nat.le_trans hq.2 hRs⟩, ?_⟩
    · rw [ea]
      refine ⟨C, fs, hC, ⟨_, kZ, hN, h1', z1, rfl, fun _ => by simp [ei]⟩, fun j v hj => ?_⟩
      subst hds
      rw [List.getElem?_map, Option.map_eq_some_iff] at hj
      obtain ⟨⟨O, nm, d⟩, q1, q2⟩ := hj
      obtain ⟨-, k2, -⟩ := KO cn C fs hC
      obtain ⟨Ld, ty, ht⟩ := k2 j _ q1
      obtain ⟨c1, k1, cf, kf, i, f, a1, a2, a3, a4, a5, a6, -⟩ := Ld.spec
      cases h1'.symm.trans a1
      cases z1.symm.trans a2
      refine ⟨O, nm, d, q1, _, cf, kf, i, f, hN, a3, a4, by simp, rfl, a5, ?_⟩
      have ht' : parseFieldDescriptor d = some ty := ht
      simp only [ht', Option.map_some, Option.getD_some] at q2
      subst q2
      have hcv : cv σ (defaultValue ty) = defaultValue ty := by cases ty <;> rfl
      simp [ei, a6, (State.fieldFound?_type a3 ht).2, hcv]
    · intro t q
      refine st t ?_
      have q' := q
      simp only [List.map_cons, cv, ea] at q'
      exact q'
  · cases h
theorem okArr (hx : p.tables.exec = Jvm.exec) (hZ : Z.Warmed39 s.vm) (hsg : Sg σ x0 n0) {t : ArrayType} {Rc Rs : Nat} (w : (Jvm.Cond.arrayClass (newarray.typeOf t)).before a0 Z = true) (hRc : Rc ≤ R.cells) (hRs : Rs ≤ R.slots) : Good p l e R s m args below meth c Z σ x0 n0 K (.newarray t) (aArr (newarray.typeOf t) Rc Rs) := by
  intro T locs cs ss pc L S H S' H' cs' ss' X hd hL hR hF hB h
  unfold aArr at h
  split at h
  · rename_i n r
    split at h
    · rename_i hq
      cases h
      have hcb : componentBytes (newarray.typeOf t) ≤ 8 := by cases t <;> decide
      obtain ⟨cA, kA, comp, h1, h2, h3, X', st⟩ := X.newarrayPrim hx (mvA hZ w) (g := mkF m pc (cL σ L) (List.map (cv σ) (.int n :: r))) rfl hd rfl hq.1 (Nat.le_trans (Nat.mul_le_mul hq.2.2.2 hcb) (by decide)) (Nat.le_trans hq.2.1 hRc) (Nat.le_trans hq.2.2.1 hRs)
      have ea : σ H.length = T.heap.size := hR.addr hsg
      have h1' : Z.vm.findClass ("[" ++ (newarray.typeOf t).toString) = some cA := by rw [← hZ.alike.findClass]; exact h1
      obtain ⟨kZ, z1, -⟩ := Vm.findClass_spec h1'
      obtain ⟨k', z2, z3⟩ := hZ.alike.2.2 _ _ z1
      cases h2.symm.trans z2
      have kk : kZ.kind = .array comp (newarray.typeOf t) := by rw [← h3, z3]
      have hcv : cv σ (defaultValue (newarray.typeOf t)) = defaultValue (newarray.typeOf t) := by cases t <;> rfl
      refine ⟨_, locs, X', hR.push (ext_push _ _) (by show (T.heap.push _).size = _; simp) ?_, hF, ⟨Nat.le_trans hq.2.1 hRc, Nat.le_trans hq.2.2.1 hRs⟩, ?_⟩
      · rw [ea]
        refine ⟨newA cA (newarray.typeOf t) n, ⟨by show (T.heap.push _)[T.heap.size]? = _; simp [newA], ⟨by simp [newA], kZ, z1, comp, kk⟩, by simp [newA]⟩, by simp [newA, hcv], ?_, fun v hv => ?_, fun _ => ⟨newA cA (newarray.typeOf t) n, kZ, by show (T.heap.push _)[T.heap.size]? = _; simp [newA], h1', z1, rfl, fun q => by rw [kk] at q; cases q⟩⟩
        · rw [List.length_replicate]; have := hq.2.2.2; omega
        · rw [(List.mem_replicate.mp hv).2]; cases t <;> rfl
      · intro t q
        refine st t ?_
        have q' := q
        simp only [List.map_cons, cv, ea] at q'
        exact q'
    · cases h
  · cases h
theorem cat_sum (r : List Value) : ((r.map (cv σ)).map fun v => v.category).sum = (r.map Value.category).sum := by
  rw [List.map_map]; congr 1; exact List.map_congr_left fun v _ => cat_cv v
theorem okObj (hx : p.tables.exec = Jvm.exec) (hZ : Z.Warmed39 s.vm) {own : String} {idx W : Nat} (hown : s.vm.findClass own = some m.cls) (w1 : (Jvm.Cond.methodLink own idx Lib.objectInit).before a0 Z = true) (w2 : (Jvm.Cond.instanceMethod Lib.objectInit).before a0 Z = true)
    (w3 : (Jvm.Cond.code Lib.objectInit ⟨#[0xb1]⟩ 1 none).before a0 Z = true) (hf : 1 ≤ R.frames) (hl : W + 12 ≤ R.locals) : Good p l e R s m args below meth c Z σ x0 n0 K (.invokespecial idx) (aObj W) := by
  intro T locs cs ss pc L S H S' H' cs' ss' X hd hL hR hF hB h
  unfold aObj at h
  split at h
  · rename_i a r
    split at h
    · rename_i hq
      cases h
      obtain ⟨T', X', e', st⟩ := initO X hx hZ hown w1 w2 w3 rfl (g := mkF m pc (cL σ L) (List.map (cv σ) (.ref a :: S'))) rfl (size_cL.trans hL) rfl hd hf (W := W) (by show 2 * 0 + _ ≤ _; rw [cat_sum]; omega) hl
      exact ⟨T', locs, X', e' ▸ hR, hF, hB, st⟩
    · cases h
  · cases h
theorem args_rev (S : List Value) (na : Nat) : S.map (cv σ) = (((S.take na).reverse).map (cv σ)).reverse ++ (S.drop na).map (cv σ) := by
  rw [List.map_reverse, List.reverse_reverse, ← List.map_append, List.take_append_drop]
theorem toList_map (v : Option Value) (r : List Value) : (v.map (cv σ)).toList ++ r.map (cv σ) = (v.toList ++ r).map (cv σ) := by cases v <;> simp
theorem okStat (hx : p.tables.exec = Jvm.exec) (hZ : Z.Warmed39 s.vm) {own : String} {idx na W Rc Rs maxL : Nat} {y : MethodName} {bytes : ByteArray} {ret rr : Option FieldType} {ps : List FieldType} {rm : Room} {F : List Value → AH → Option ORes} (hF0 : Says l Z σ x0 n0 K y bytes maxL ret [] rm F)
    (hown : s.vm.findClass own = some m.cls) (w1 : (Jvm.Cond.methodLink own idx y).before a0 Z = true) (w2 : (Jvm.Cond.static y).before a0 Z = true) (w3 : (Jvm.Cond.initialized y.cls).before a0 Z = true) (w4 : (Jvm.Cond.code y bytes maxL ret).before a0 Z = true)
    (hy : y.cls ≠ "java/lang/invoke/MethodHandle" ∧ y.cls ≠ "java/lang/invoke/VarHandle") (hd0 : parseMethodDescriptor y.desc = some ⟨ps, rr⟩) (hna : ps.length = na) (hRc : Rc ≤ R.cells) (hRs : Rs ≤ R.slots) (hfr : rm.frames + 1 ≤ R.frames) (hlo : W + (maxL + 11) + rm.locals ≤ R.locals) :
    Good p l e R s m args below meth c Z σ x0 n0 K (.invokestatic idx) (aCall na W Rc Rs rm.cells rm.slots F) := by
  intro T locs cs ss pc L S H S' H' cs' ss' X hd hL hR hF hB h
  unfold aCall at h
  split at h
  · rename_i hq
    replace h := Option.bind_eq_some_iff.mp h
    obtain ⟨⟨v, H1⟩, h1, h⟩ := h
    cases h
    obtain ⟨v', vm1, ⟨T', L', k', n'⟩, -, X', ⟨Lc, ⟨hv, hR', hN⟩, l1, y1, z1⟩, st⟩ := Jvm.LawKit.callS X hx (y := y) hown (mvT hZ w1) (mvT hZ w2) (mvT hZ w3) (mvT hZ w4) hy (backOf (h := T.heap) (W := W) (Q := fun w h' L => w = v.map (cv σ) ∧ Rep Z σ x0 n0 K h' H1 ∧ Fr n0 L) (hF0 _ H _ T.heap h1 hR) hZ w4 w3 hfr hlo) (g := mkF m pc (cL σ L) (S.map (cv σ))) rfl (size_cL.trans hL) (argsL := ((S.take na).reverse).map (cv σ)) (rest := (S.drop na).map (cv σ)) (lenOf hd0 (by rw [hna]; simp; omega)) (args_rev S na) (by show 2 * 0 + _ ≤ _; rw [cat_sum]; omega) hd (fun _ _ => ⟨rfl, rfl, Nat.le_trans hq.2.2.1 hRc, Nat.le_trans hq.2.2.2 hRs⟩)
    dsimp only [Pt.U, Pt.locs, Pt.cells, Pt.slots] at X' l1 y1 z1 st hR'
    subst l1 y1 z1 hv
    refine ⟨T', _, X', hR', hF.app hN, ⟨Nat.le_trans hq.2.2.1 hRc, Nat.le_trans hq.2.2.2 hRs⟩, fun t q => st t ?_⟩
    show Steps p.tables e below (T'.setTop (mkF m (pc + 3) (cL σ L) ((v.map (cv σ)).toList ++ (S.drop na).map (cv σ)))) t
    rw [toList_map]; exact q
  · cases h
theorem okCtor (hx : p.tables.exec = Jvm.exec) (hZ : Z.Warmed39 s.vm) {own : String} {idx na cl W Rc Rs maxL : Nat} {y : MethodName} {bytes : ByteArray} {rr : Option FieldType} {ps : List FieldType} {rm : Room} {F : List Value → AH → Option ORes} (hF0 : Says l Z σ x0 n0 K y bytes maxL none [] rm F) (hy1 : y.name = "<init>")
    (hown : s.vm.findClass own = some m.cls) (w1 : (Jvm.Cond.methodLink own idx y).before a0 Z = true) (w2 : (Jvm.Cond.instanceMethod y).before a0 Z = true) (w3 : (Jvm.Cond.initialized y.cls).before a0 Z = true) (w4 : (Jvm.Cond.code y bytes maxL none).before a0 Z = true)
    (hy : y.cls ≠ "java/lang/invoke/MethodHandle" ∧ y.cls ≠ "java/lang/invoke/VarHandle") (hd0 : parseMethodDescriptor y.desc = some ⟨ps, rr⟩) (hna : ps.length = na) (hRc : Rc ≤ R.cells) (hRs : Rs ≤ R.slots) (hfr : rm.frames + 1 ≤ R.frames) (hlo : W + (maxL + 11) + rm.locals ≤ R.locals) :
    Good p l e R s m args below meth c Z σ x0 n0 K (.invokespecial idx) (aRecv na cl W Rc Rs rm.cells rm.slots F) := by
  intro T locs cs ss pc L S H S' H' cs' ss' X hd hL hR hF hB h
  unfold aRecv at h
  split at h
  · rename_i a r hdr
    replace h := Option.bind_eq_some_iff.mp h
    obtain ⟨q0, h0, h⟩ := h
    split at h
    · rename_i hq
      replace h := Option.bind_eq_some_iff.mp h
      obtain ⟨⟨v, H1⟩, h1, h⟩ := h
      cases h
      have hst : S.map (cv σ) = (((S.take na).reverse).map (cv σ)).reverse ++ .ref (σ a) :: r.map (cv σ) := by rw [args_rev S na, hdr]; rfl
      obtain ⟨v', vm1, ⟨T', L', k', n'⟩, -, X', ⟨Lc, ⟨hv, hR', hN⟩, l1, y1, z1⟩, st⟩ := X.specialBack hx (y := y) hy1 hown (mvT hZ w1) (mvT hZ w2) (mvT hZ w4) hy (backOf (h := T.heap) (W := W) (Q := fun w h' L => w = v.map (cv σ) ∧ Rep Z σ x0 n0 K h' H1 ∧ Fr n0 L) (hF0 _ H _ T.heap h1 hR) hZ w4 w3 hfr hlo) (g := mkF m pc (cL σ L) (S.map (cv σ))) rfl (size_cL.trans hL) (Steps.refl _) (a := σ a) (argsL := ((S.take na).reverse).map (cv σ)) (rest := r.map (cv σ)) (lenOf hd0 (by rw [hna]; simp; omega)) hst (by show 2 * 0 + _ ≤ _; rw [cat_sum]; omega) hd (fun _ _ => ⟨rfl, rfl, Nat.le_trans hq.2.2.2.1 hRc, Nat.le_trans hq.2.2.2.2 hRs⟩)
      dsimp only [Pt.U, Pt.locs, Pt.cells, Pt.slots] at X' l1 y1 z1 st hR'
      subst l1 y1 z1 hv
      refine ⟨T', _, X', hR', hF.app hN, ⟨Nat.le_trans hq.2.2.2.1 hRc, Nat.le_trans hq.2.2.2.2 hRs⟩, fun t q => st.trans ?_⟩
      show Steps p.tables e below (T'.setTop (mkF m (pc + 3) (cL σ L) ((v.map (cv σ)).toList ++ r.map (cv σ)))) t
      rw [toList_map]; exact q
    · cases h
  · cases h
theorem okVirt (hx : p.tables.exec = Jvm.exec) (hZ : Z.Warmed39 s.vm) {own C : String} {idx na cl W Rc Rs maxL : Nat} {y z : MethodName} {bytes : ByteArray} {ret rr : Option FieldType} {ps : List FieldType} {rm : Room} {fs : List (String × String × String)} {F : List Value → AH → Option ORes} (hF0 : Says l Z σ x0 n0 K z bytes maxL ret [] rm F) (hC : K[cl]? = some (C, fs))
    (hown : s.vm.findClass own = some m.cls) (w1 : (Jvm.Cond.methodLink own idx y).before a0 Z = true) (w2 : (Jvm.Cond.declares y).before a0 Z = true) (w5 : (Jvm.Cond.selects C y z).before a0 Z = true) (w6 : (Jvm.Cond.instanceMethod z).before a0 Z = true) (w3 : (Jvm.Cond.initialized z.cls).before a0 Z = true) (w4 : (Jvm.Cond.code z bytes maxL ret).before a0 Z = true)
    (nf : ∀ (s' : State) (ar : Array Value), (Jvm.Cond.selects C y z).before ar s' = true → NotFace s' y) (hy : y.cls ≠ "java/lang/invoke/MethodHandle" ∧ y.cls ≠ "java/lang/invoke/VarHandle") (hd0 : parseMethodDescriptor y.desc = some ⟨ps, rr⟩) (hna : ps.length = na) (hRc : Rc ≤ R.cells) (hRs : Rs ≤ R.slots) (hfr : rm.frames + 1 ≤ R.frames) (hlo : W + (maxL + 11) + rm.locals ≤ R.locals) :
    Good p l e R s m args below meth c Z σ x0 n0 K (.invokevirtual idx) (aRecv na cl W Rc Rs rm.cells rm.slots F) := by
  intro T locs cs ss pc L S H S' H' cs' ss' X hd hL hR hF hB h
  unfold aRecv at h
  split at h
  · rename_i a r hdr
    replace h := Option.bind_eq_some_iff.mp h
    obtain ⟨⟨cn, vs⟩, h0, h⟩ := h
    dsimp only at h
    split at h
    · rename_i hq
      replace h := Option.bind_eq_some_iff.mp h
      obtain ⟨⟨v, H1⟩, h1, h⟩ := h
      cases h
      obtain ⟨rfl, hq⟩ := hq
      obtain ⟨C', fs', q1, q2, -⟩ := hR.2.2.2 _ _ (obj_some h0)
      cases hC.symm.trans q1
      obtain ⟨cB, kB, i1, i2, i3⟩ := isOf (T := T) hZ rfl q2
      have hst : S.map (cv σ) = (((S.take na).reverse).map (cv σ)).reverse ++ .ref (σ a) :: r.map (cv σ) := by rw [args_rev S na, hdr]; rfl
      obtain ⟨v', vm1, ⟨T', L', k', n'⟩, -, X', ⟨Lc, ⟨hv, hR', hN⟩, l1, y1, z1⟩, st⟩ := X.virtualBack hx (y := y) (z := z) hown (mvT hZ w1) (mvT hZ w2) (nf s #[] (mvT hZ w5)) (mvT hZ w5) (mvT hZ w6) hy (backOf (h := T.heap) (W := W) (Q := fun w h' L => w = v.map (cv σ) ∧ Rep Z σ x0 n0 K h' H1 ∧ Fr n0 L) (hF0 _ H _ T.heap h1 hR) hZ w4 w3 hfr hlo) i1 i3 (g := mkF m pc (cL σ L) (S.map (cv σ))) rfl (size_cL.trans hL) (Steps.refl _) (argsL := ((S.take na).reverse).map (cv σ)) (rest := r.map (cv σ)) (lenOf hd0 (by rw [hna]; simp; omega)) hst (by show 2 * 0 + _ ≤ _; rw [cat_sum]; omega) hd (fun _ _ => ⟨rfl, rfl, Nat.le_trans hq.2.2.1 hRc, Nat.le_trans hq.2.2.2 hRs⟩)
      dsimp only [Pt.U, Pt.locs, Pt.cells, Pt.slots] at X' l1 y1 z1 st hR'
      subst l1 y1 z1 hv
      refine ⟨T', _, X', hR', hF.app hN, ⟨Nat.le_trans hq.2.2.1 hRc, Nat.le_trans hq.2.2.2 hRs⟩, fun t q => st.trans ?_⟩
      show Steps p.tables e below (T'.setTop (mkF m (pc + 3) (cL σ L) ((v.map (cv σ)).toList ++ r.map (cv σ)))) t
      rw [toList_map]; exact q
    · cases h
  · cases h
theorem ag_nil : AllGood p l e R s m args below meth c Z σ x0 n0 K [] := trivial
theorem ag_cons {q i : Nat} {act : Act} {E : List (Nat × Nat × Act)} (h : Good p l e R s m args below meth c Z σ x0 n0 K (insOf q i) act) (t : AllGood p l e R s m args below meth c Z σ x0 n0 K E) : AllGood p l e R s m args below meth c Z σ x0 n0 K ((q, i, act) :: E) := ⟨h, t⟩
end Acts
theorem names_inj {fs : List (String × String × String)} (h : (fs.map fun f => f.2.1).Nodup) : ∀ (i j : Nat) (f g : String × String × String), fs[i]? = some f → fs[j]? = some g → f.2.1 = g.2.1 → i = j := by
  intro i j f g hf hg e
  refine (List.getElem?_inj (l := fs.map fun f => f.2.1) (by simpa using (List.getElem?_eq_some_iff.mp hf).1) h).mp ?_
  simp [hf, hg, e]
theorem sg_start {n : Nat} : Sg (fun k => n + k) 0 n := ⟨fun k _ => rfl, fun i h => absurd h (Nat.not_lt_zero _), fun i j h => absurd h (Nat.not_lt_zero _)⟩
theorem rep_start {s : State} {σ : Nat → Nat} {K : List CD} : Rep s σ 0 s.heap.size K s.heap [] := ⟨rfl, Nat.le_refl _, Old.start s, fun k o h => by cases h⟩
end Jvm.Own
namespace Jvm.Own
open Sem ClassFile Op Lib Jvm.RoadKit
/-! ## 6. Rows for evaluating a orun -/
section Ev
variable {x y : Int32} {pc : Nat} {o : Int} {f : Nat → Option ORes} {P : Prop} [Decidable P]
theorem h_eq : if_icmp.holds .eq x y = decide (x = y) := by by_cases h : x = y <;> simp [if_icmp.holds, h]
theorem h_ne : if_icmp.holds .ne x y = !decide (x = y) := by by_cases h : x = y <;> simp [if_icmp.holds, h]
theorem h_lt : if_icmp.holds .lt x y = decide (x < y) := rfl
theorem h_ge : if_icmp.holds .ge x y = !decide (x < y) := by
  by_cases h : x < y
  · simp [if_icmp.holds, h, Int32.not_le.mpr h]
  · simp [if_icmp.holds, h, Int32.not_lt.mp h]
theorem h_gt : if_icmp.holds .gt x y = decide (y < x) := rfl
theorem h_le : if_icmp.holds .le x y = !decide (y < x) := by
  by_cases h : y < x
  · simp [if_icmp.holds, h, Int32.not_le.mpr h]
  · simp [if_icmp.holds, h, Int32.not_lt.mp h]
theorem z_eq : ifCond.holds .eq x = decide (x = 0) := h_eq (y := 0)
theorem z_ne : ifCond.holds .ne x = !decide (x = 0) := h_ne (y := 0)
theorem z_lt : ifCond.holds .lt x = decide (x < 0) := rfl
theorem z_ge : ifCond.holds .ge x = !decide (x < 0) := h_ge (y := 0)
theorem z_gt : ifCond.holds .gt x = decide (0 < x) := rfl
theorem z_le : ifCond.holds .le x = !decide (0 < x) := h_le (y := 0)
theorem br_d : br (decide P) pc o f = if 0 ≤ (pc : Int) + o then (if P then f ((pc : Int) + o).toNat else f (pc + 3)) else none := by unfold br; by_cases h : P <;> simp [h]
theorem br_n : br (!decide P) pc o f = if 0 ≤ (pc : Int) + o then (if P then f (pc + 3) else f ((pc : Int) + o).toNat) else none := by unfold br; by_cases h : P <;> simp [h]
theorem br_t : br true pc o f = if 0 ≤ (pc : Int) + o then f ((pc : Int) + o).toNat else none := rfl
theorem br_f : br false pc o f = if 0 ≤ (pc : Int) + o then f (pc + 3) else none := rfl
theorem b_1 : ((if P then (1 : Int32) else 0) = 1) = P := by by_cases h : P <;> simp [h]
theorem b_0 : ((if P then (1 : Int32) else 0) = 0) = ¬ P := by by_cases h : P <;> simp [h]
theorem b_1r : ((1 : Int32) = (if P then (1 : Int32) else 0)) = P := by by_cases h : P <;> simp [h]
theorem b_0r : ((0 : Int32) = (if P then (1 : Int32) else 0)) = ¬ P := by by_cases h : P <;> simp [h]
theorem b_bb {Q : Prop} [Decidable Q] : ((if P then (1 : Int32) else 0) = (if Q then (1 : Int32) else 0)) = (P ↔ Q) := by by_cases h : P <;> by_cases h' : Q <;> simp [h, h']
theorem b_and : (if P then (1 : Int32) else 0) &&& 1 = if P then 1 else 0 := by by_cases h : P <;> simp [h]
theorem i_10 : ((1 : Int32) = 0) = False := by simp
theorem i_01 : ((0 : Int32) = 1) = False := by simp
theorem nr_i {x : Int32} : narrow .int (.int x) = .int x := rfl
theorem nr_j {x : Int64} : narrow .long (.long x) = .long x := rfl
theorem nr_a {t : FieldType} {v : Value} : narrow (.array t) v = v := by cases v <;> rfl
theorem nr_o {t : String} {v : Value} : narrow (.object t) v = v := by cases v <;> rfl
theorem nr_b : narrow .boolean (.int (if P then (1 : Int32) else 0)) = .int (if P then (1 : Int32) else 0) := by by_cases h : P <;> simp [h] <;> rfl
theorem nr_b1 : narrow .boolean (.int 1) = .int 1 := rfl
theorem nr_b0 : narrow .boolean (.int 0) = .int 0 := rfl
theorem ft_i {x : Int32} : fits .int (.int x) = true := rfl
theorem ft_j {x : Int64} : fits .long (.long x) = true := rfl
theorem ft_a {t : FieldType} {a : Nat} : fits (.array t) (.ref a) = true := rfl
theorem ft_o {t : String} {a : Nat} : fits (.object t) (.ref a) = true := rfl
theorem ft_b : fits .boolean (.int (if P then (1 : Int32) else 0)) = true := by by_cases h : P <;> simp [h] <;> rfl
theorem ft_b1 : fits .boolean (.int 1) = true := rfl
theorem ft_b0 : fits .boolean (.int 0) = true := rfl
theorem rV_nil {H : AH} : rV none [] H = some (none, H) := rfl
theorem cat_int {x : Int32} : Value.category (.int x) = 1 := rfl
theorem cat_long {x : Int64} : Value.category (.long x) = 2 := rfl
theorem cat_ref {a : Nat} : Value.category (.ref a) = 1 := rfl
theorem cat_null : Value.category .null = 1 := rfl
theorem and11 : (1 : Int32) &&& 1 = 1 := rfl
theorem and01 : (0 : Int32) &&& 1 = 0 := rfl
theorem pI_int {x : Int32} {r : List Value} {f : Int32 → List Value → Option ORes} : pI (.int x :: r) f = f x r := rfl
theorem pL_long {x : Int64} {r : List Value} {f : Int64 → List Value → Option ORes} : pL (.long x :: r) f = f x r := rfl
theorem pA_ref {a : Nat} {r : List Value} {f : Value → List Value → Option ORes} : pA (.ref a :: r) f = f (.ref a) r := rfl
theorem pA_null {r : List Value} {f : Value → List Value → Option ORes} : pA (.null :: r) f = f .null r := rfl
theorem pR_ref {a : Nat} {r : List Value} {f : Nat → List Value → Option ORes} : pR (.ref a :: r) f = f a r := rfl
theorem p1_int {x : Int32} {r : List Value} {f : Value → List Value → Option ORes} : p1 (.int x :: r) f = f (.int x) r := rfl
theorem p1_ref {a : Nat} {r : List Value} {f : Value → List Value → Option ORes} : p1 (.ref a :: r) f = f (.ref a) r := rfl
theorem p1_null {r : List Value} {f : Value → List Value → Option ORes} : p1 (.null :: r) f = f .null r := rfl
variable {code : ByteArray} {rt : Option FieldType} {E : List (Nat × Nat × Act)} {x0 n q cs ss : Nat} {L : List Slot} {S : List Value} {H : AH}
theorem s_icmp {cd : ClassFile.Cond} {Q : Int32 → Int32 → Prop} [∀ x y, Decidable (Q x y)] (hP : ∀ x y, if_icmp.holds cd x y = decide (Q x y)) (h : dec code pc = some (.if_icmp cd o)) (ho : 0 ≤ (pc : Int) + o) (hq : ((pc : Int) + o).toNat = q) :
    orun code rt E x0 (n + 1) (pc, L, S, H, cs, ss) = pI S fun y S => pI S fun x r => if Q x y then orun code rt E x0 n (q, L, r, H, cs, ss) else orun code rt E x0 n (pc + 3, L, r, H, cs, ss) := by
  subst hq; rw [orun_succ, h]
  refine congrArg (pI S) (funext fun y => funext fun S' => congrArg (pI S') (funext fun x => funext fun r => ?_))
  rw [hP, br_d, if_pos ho]
theorem s_icmpN {cd : ClassFile.Cond} {Q : Int32 → Int32 → Prop} [∀ x y, Decidable (Q x y)] (hP : ∀ x y, if_icmp.holds cd x y = !decide (Q x y)) (h : dec code pc = some (.if_icmp cd o)) (ho : 0 ≤ (pc : Int) + o) (hq : ((pc : Int) + o).toNat = q) :
    orun code rt E x0 (n + 1) (pc, L, S, H, cs, ss) = pI S fun y S => pI S fun x r => if Q x y then orun code rt E x0 n (pc + 3, L, r, H, cs, ss) else orun code rt E x0 n (q, L, r, H, cs, ss) := by
  subst hq; rw [orun_succ, h]
  refine congrArg (pI S) (funext fun y => funext fun S' => congrArg (pI S') (funext fun x => funext fun r => ?_))
  rw [hP, br_n, if_pos ho]
theorem s_if {cd : ClassFile.Cond} {Q : Int32 → Prop} [∀ x, Decidable (Q x)] (hP : ∀ x, ifCond.holds cd x = decide (Q x)) (h : dec code pc = some (.ifCond cd o)) (ho : 0 ≤ (pc : Int) + o) (hq : ((pc : Int) + o).toNat = q) :
    orun code rt E x0 (n + 1) (pc, L, S, H, cs, ss) = pI S fun x r => if Q x then orun code rt E x0 n (q, L, r, H, cs, ss) else orun code rt E x0 n (pc + 3, L, r, H, cs, ss) := by
  subst hq; rw [orun_succ, h]
  refine congrArg (pI S) (funext fun x => funext fun r => ?_)
  rw [hP, br_d, if_pos ho]
theorem s_ifN {cd : ClassFile.Cond} {Q : Int32 → Prop} [∀ x, Decidable (Q x)] (hP : ∀ x, ifCond.holds cd x = !decide (Q x)) (h : dec code pc = some (.ifCond cd o)) (ho : 0 ≤ (pc : Int) + o) (hq : ((pc : Int) + o).toNat = q) :
    orun code rt E x0 (n + 1) (pc, L, S, H, cs, ss) = pI S fun x r => if Q x then orun code rt E x0 n (pc + 3, L, r, H, cs, ss) else orun code rt E x0 n (q, L, r, H, cs, ss) := by
  subst hq; rw [orun_succ, h]
  refine congrArg (pI S) (funext fun x => funext fun r => ?_)
  rw [hP, br_n, if_pos ho]
theorem s_goto (h : dec code pc = some (.goto o)) (ho : 0 ≤ (pc : Int) + o) (hq : ((pc : Int) + o).toNat = q) : orun code rt E x0 (n + 1) (pc, L, S, H, cs, ss) = orun code rt E x0 n (q, L, S, H, cs, ss) := by
  subst hq; rw [orun_succ, h]; exact if_pos ho
theorem s_any {i : Instr} (h : dec code pc = some i) : orun code rt E x0 (n + 1) (pc, L, S, H, cs, ss) = ex rt E x0 (orun code rt E x0 n) i pc L S H cs ss := by rw [orun_succ, h]; rfl
end Ev
theorem ex_ishl {rt : Option FieldType} {E : List (Nat × Nat × Act)} {x0 pc cs ss : Nat} {k : St → Option ORes} {L : List Slot} {S : List Value} {H : AH}  : ex rt E x0 k (.ishl) pc L S H cs ss = pI S fun y S => pI S fun x r => k (pc + 1, L, .int (x <<< (y &&& 31)) :: r, H, cs, ss) := rfl
theorem ex_ishr {rt : Option FieldType} {E : List (Nat × Nat × Act)} {x0 pc cs ss : Nat} {k : St → Option ORes} {L : List Slot} {S : List Value} {H : AH}  : ex rt E x0 k (.ishr) pc L S H cs ss = pI S fun y S => pI S fun x r => k (pc + 1, L, .int (x >>> (y &&& 31)) :: r, H, cs, ss) := rfl
theorem ex_iushr {rt : Option FieldType} {E : List (Nat × Nat × Act)} {x0 pc cs ss : Nat} {k : St → Option ORes} {L : List Slot} {S : List Value} {H : AH}  : ex rt E x0 k (.iushr) pc L S H cs ss = pI S fun y S => pI S fun x r => k (pc + 1, L, .int ((x.toUInt32 >>> (y &&& 31).toUInt32).toInt32) :: r, H, cs, ss) := rfl
theorem ex_idiv {rt : Option FieldType} {E : List (Nat × Nat × Act)} {x0 pc cs ss : Nat} {k : St → Option ORes} {L : List Slot} {S : List Value} {H : AH}  : ex rt E x0 k (.idiv) pc L S H cs ss = pI S fun y S => pI S fun x r => if y = 0 then none else k (pc + 1, L, .int (x / y) :: r, H, cs, ss) := rfl
theorem ex_irem {rt : Option FieldType} {E : List (Nat × Nat × Act)} {x0 pc cs ss : Nat} {k : St → Option ORes} {L : List Slot} {S : List Value} {H : AH}  : ex rt E x0 k (.irem) pc L S H cs ss = pI S fun y S => pI S fun x r => if y = 0 then none else k (pc + 1, L, .int (x % y) :: r, H, cs, ss) := rfl
theorem ex_ineg {rt : Option FieldType} {E : List (Nat × Nat × Act)} {x0 pc cs ss : Nat} {k : St → Option ORes} {L : List Slot} {S : List Value} {H : AH}  : ex rt E x0 k (.ineg) pc L S H cs ss = pI S fun x r => k (pc + 1, L, .int (-x) :: r, H, cs, ss) := rfl
theorem ex_i2b {rt : Option FieldType} {E : List (Nat × Nat × Act)} {x0 pc cs ss : Nat} {k : St → Option ORes} {L : List Slot} {S : List Value} {H : AH}  : ex rt E x0 k (.i2b) pc L S H cs ss = pI S fun x r => k (pc + 1, L, .int x.toInt8.toInt32 :: r, H, cs, ss) := rfl
theorem ex_i2c {rt : Option FieldType} {E : List (Nat × Nat × Act)} {x0 pc cs ss : Nat} {k : St → Option ORes} {L : List Slot} {S : List Value} {H : AH}  : ex rt E x0 k (.i2c) pc L S H cs ss = pI S fun x r => k (pc + 1, L, .int x.toUInt32.toUInt16.toUInt32.toInt32 :: r, H, cs, ss) := rfl
theorem ex_i2s {rt : Option FieldType} {E : List (Nat × Nat × Act)} {x0 pc cs ss : Nat} {k : St → Option ORes} {L : List Slot} {S : List Value} {H : AH}  : ex rt E x0 k (.i2s) pc L S H cs ss = pI S fun x r => k (pc + 1, L, .int x.toInt16.toInt32 :: r, H, cs, ss) := rfl
theorem ex_i2l {rt : Option FieldType} {E : List (Nat × Nat × Act)} {x0 pc cs ss : Nat} {k : St → Option ORes} {L : List Slot} {S : List Value} {H : AH}  : ex rt E x0 k (.i2l) pc L S H cs ss = pI S fun x r => k (pc + 1, L, .long x.toInt64 :: r, H, cs, ss) := rfl
theorem ex_l2i {rt : Option FieldType} {E : List (Nat × Nat × Act)} {x0 pc cs ss : Nat} {k : St → Option ORes} {L : List Slot} {S : List Value} {H : AH}  : ex rt E x0 k (.l2i) pc L S H cs ss = pL S fun x r => k (pc + 1, L, .int x.toInt32 :: r, H, cs, ss) := rfl
theorem ex_lneg {rt : Option FieldType} {E : List (Nat × Nat × Act)} {x0 pc cs ss : Nat} {k : St → Option ORes} {L : List Slot} {S : List Value} {H : AH}  : ex rt E x0 k (.lneg) pc L S H cs ss = pL S fun x r => k (pc + 1, L, .long (-x) :: r, H, cs, ss) := rfl
theorem ex_lshl {rt : Option FieldType} {E : List (Nat × Nat × Act)} {x0 pc cs ss : Nat} {k : St → Option ORes} {L : List Slot} {S : List Value} {H : AH}  : ex rt E x0 k (.lshl) pc L S H cs ss = pI S fun y S => pL S fun x r => k (pc + 1, L, .long (x <<< (y &&& 0x3f).toInt64) :: r, H, cs, ss) := rfl
theorem ex_lshr {rt : Option FieldType} {E : List (Nat × Nat × Act)} {x0 pc cs ss : Nat} {k : St → Option ORes} {L : List Slot} {S : List Value} {H : AH}  : ex rt E x0 k (.lshr) pc L S H cs ss = pI S fun y S => pL S fun x r => k (pc + 1, L, .long (x >>> (y &&& 0x3f).toInt64) :: r, H, cs, ss) := rfl
theorem ex_lushr {rt : Option FieldType} {E : List (Nat × Nat × Act)} {x0 pc cs ss : Nat} {k : St → Option ORes} {L : List Slot} {S : List Value} {H : AH}  : ex rt E x0 k (.lushr) pc L S H cs ss = pI S fun y S => pL S fun x r => k (pc + 1, L, .long ((x.toUInt64 >>> (y &&& 0x3f).toInt64.toUInt64).toInt64) :: r, H, cs, ss) := rfl
theorem ex_ldiv {rt : Option FieldType} {E : List (Nat × Nat × Act)} {x0 pc cs ss : Nat} {k : St → Option ORes} {L : List Slot} {S : List Value} {H : AH}  : ex rt E x0 k (.ldiv) pc L S H cs ss = pL S fun y S => pL S fun x r => if y = 0 then none else k (pc + 1, L, .long (x / y) :: r, H, cs, ss) := rfl
theorem ex_lrem {rt : Option FieldType} {E : List (Nat × Nat × Act)} {x0 pc cs ss : Nat} {k : St → Option ORes} {L : List Slot} {S : List Value} {H : AH}  : ex rt E x0 k (.lrem) pc L S H cs ss = pL S fun y S => pL S fun x r => if y = 0 then none else k (pc + 1, L, .long (x % y) :: r, H, cs, ss) := rfl
theorem ex_lcmp {rt : Option FieldType} {E : List (Nat × Nat × Act)} {x0 pc cs ss : Nat} {k : St → Option ORes} {L : List Slot} {S : List Value} {H : AH}  : ex rt E x0 k (.lcmp) pc L S H cs ss = pL S fun y S => pL S fun x r => k (pc + 1, L, .int (lcmpW x y) :: r, H, cs, ss) := rfl
theorem ex_dup {rt : Option FieldType} {E : List (Nat × Nat × Act)} {x0 pc cs ss : Nat} {k : St → Option ORes} {L : List Slot} {S : List Value} {H : AH}  : ex rt E x0 k (.dup) pc L S H cs ss = p1 S fun v r => k (pc + 1, L, v :: v :: r, H, cs, ss) := rfl
theorem ex_pop {rt : Option FieldType} {E : List (Nat × Nat × Act)} {x0 pc cs ss : Nat} {k : St → Option ORes} {L : List Slot} {S : List Value} {H : AH}  : ex rt E x0 k (.pop) pc L S H cs ss = p1 S fun _ r => k (pc + 1, L, r, H, cs, ss) := rfl
theorem ex_dup_x1 {rt : Option FieldType} {E : List (Nat × Nat × Act)} {x0 pc cs ss : Nat} {k : St → Option ORes} {L : List Slot} {S : List Value} {H : AH}  : ex rt E x0 k (.dup_x1) pc L S H cs ss = p1 S fun x S => p1 S fun y r => k (pc + 1, L, x :: y :: x :: r, H, cs, ss) := rfl
theorem ex_dup2 {rt : Option FieldType} {E : List (Nat × Nat × Act)} {x0 pc cs ss : Nat} {k : St → Option ORes} {L : List Slot} {S : List Value} {H : AH}  : ex rt E x0 k (.dup2) pc L S H cs ss = p1 S fun x S => p1 S fun y r => k (pc + 1, L, x :: y :: x :: y :: r, H, cs, ss) := rfl
theorem ex_ifnull {rt : Option FieldType} {E : List (Nat × Nat × Act)} {x0 pc cs ss : Nat} {k : St → Option ORes} {L : List Slot} {S : List Value} {H : AH} {o : Int} : ex rt E x0 k (.ifnull o) pc L S H cs ss = pA S fun v r => br (refEq v .null) pc o fun q => k (q, L, r, H, cs, ss) := rfl
theorem ex_ifnonnull {rt : Option FieldType} {E : List (Nat × Nat × Act)} {x0 pc cs ss : Nat} {k : St → Option ORes} {L : List Slot} {S : List Value} {H : AH} {o : Int} : ex rt E x0 k (.ifnonnull o) pc L S H cs ss = pA S fun v r => br (!refEq v .null) pc o fun q => k (q, L, r, H, cs, ss) := rfl
theorem ex_if_acmp {rt : Option FieldType} {E : List (Nat × Nat × Act)} {x0 pc cs ss : Nat} {k : St → Option ORes} {L : List Slot} {S : List Value} {H : AH} {cd : ACond} {o : Int} : ex rt E x0 k (.if_acmp cd o) pc L S H cs ss = pA S fun y S => pA S fun x r => br (acV cd (refEq x y)) pc o fun q => k (q, L, r, H, cs, ss) := rfl
theorem ex_arraylength {rt : Option FieldType} {E : List (Nat × Nat × Act)} {x0 pc cs ss : Nat} {k : St → Option ORes} {L : List Slot} {S : List Value} {H : AH}  : ex rt E x0 k (.arraylength) pc L S H cs ss = pR S fun a r => (arr H a).bind fun q => k (pc + 1, L, .int q.2.length.toInt32 :: r, H, cs, ss) := rfl
theorem ex_iaload {rt : Option FieldType} {E : List (Nat × Nat × Act)} {x0 pc cs ss : Nat} {k : St → Option ORes} {L : List Slot} {S : List Value} {H : AH}  : ex rt E x0 k (.iaload) pc L S H cs ss = ald (isT .int) S H fun v r => k (pc + 1, L, v :: r, H, cs, ss) := rfl
theorem ex_baload {rt : Option FieldType} {E : List (Nat × Nat × Act)} {x0 pc cs ss : Nat} {k : St → Option ORes} {L : List Slot} {S : List Value} {H : AH}  : ex rt E x0 k (.baload) pc L S H cs ss = ald isBZ S H fun v r => k (pc + 1, L, v :: r, H, cs, ss) := rfl
theorem ex_caload {rt : Option FieldType} {E : List (Nat × Nat × Act)} {x0 pc cs ss : Nat} {k : St → Option ORes} {L : List Slot} {S : List Value} {H : AH}  : ex rt E x0 k (.caload) pc L S H cs ss = ald (isT .char) S H fun v r => k (pc + 1, L, v :: r, H, cs, ss) := rfl
theorem ex_laload {rt : Option FieldType} {E : List (Nat × Nat × Act)} {x0 pc cs ss : Nat} {k : St → Option ORes} {L : List Slot} {S : List Value} {H : AH}  : ex rt E x0 k (.laload) pc L S H cs ss = ald (isT .long) S H fun v r => k (pc + 1, L, v :: r, H, cs, ss) := rfl
theorem ex_aaload {rt : Option FieldType} {E : List (Nat × Nat × Act)} {x0 pc cs ss : Nat} {k : St → Option ORes} {L : List Slot} {S : List Value} {H : AH}  : ex rt E x0 k (.aaload) pc L S H cs ss = ald FieldType.isReference S H fun v r => k (pc + 1, L, v :: r, H, cs, ss) := rfl
theorem ex_iastore {rt : Option FieldType} {E : List (Nat × Nat × Act)} {x0 pc cs ss : Nat} {k : St → Option ORes} {L : List Slot} {S : List Value} {H : AH}  : ex rt E x0 k (.iastore) pc L S H cs ss = ast (isT .int) x0 S H fun r H' => k (pc + 1, L, r, H', cs, ss) := rfl
theorem ex_bastore {rt : Option FieldType} {E : List (Nat × Nat × Act)} {x0 pc cs ss : Nat} {k : St → Option ORes} {L : List Slot} {S : List Value} {H : AH}  : ex rt E x0 k (.bastore) pc L S H cs ss = ast (isT .byte) x0 S H fun r H' => k (pc + 1, L, r, H', cs, ss) := rfl
theorem ex_castore {rt : Option FieldType} {E : List (Nat × Nat × Act)} {x0 pc cs ss : Nat} {k : St → Option ORes} {L : List Slot} {S : List Value} {H : AH}  : ex rt E x0 k (.castore) pc L S H cs ss = ast (isT .char) x0 S H fun r H' => k (pc + 1, L, r, H', cs, ss) := rfl
theorem ex_lastore {rt : Option FieldType} {E : List (Nat × Nat × Act)} {x0 pc cs ss : Nat} {k : St → Option ORes} {L : List Slot} {S : List Value} {H : AH}  : ex rt E x0 k (.lastore) pc L S H cs ss = astL x0 S H fun r H' => k (pc + 1, L, r, H', cs, ss) := rfl
theorem ex_ldc {rt : Option FieldType} {E : List (Nat × Nat × Act)} {x0 pc cs ss : Nat} {k : St → Option ORes} {L : List Slot} {S : List Value} {H : AH} {i : Nat} : ex rt E x0 k (.ldc i) pc L S H cs ss = spc E 0 i S H cs ss fun S' H' cs' ss' => k (pc + 2, L, S', H', cs', ss') := rfl
theorem ex_ldc_w {rt : Option FieldType} {E : List (Nat × Nat × Act)} {x0 pc cs ss : Nat} {k : St → Option ORes} {L : List Slot} {S : List Value} {H : AH} {i : Nat} : ex rt E x0 k (.ldc_w i) pc L S H cs ss = spc E 1 i S H cs ss fun S' H' cs' ss' => k (pc + 3, L, S', H', cs', ss') := rfl
theorem ex_ldc2_w {rt : Option FieldType} {E : List (Nat × Nat × Act)} {x0 pc cs ss : Nat} {k : St → Option ORes} {L : List Slot} {S : List Value} {H : AH} {i : Nat} : ex rt E x0 k (.ldc2_w i) pc L S H cs ss = spc E 2 i S H cs ss fun S' H' cs' ss' => k (pc + 3, L, S', H', cs', ss') := rfl
theorem ex_getfield {rt : Option FieldType} {E : List (Nat × Nat × Act)} {x0 pc cs ss : Nat} {k : St → Option ORes} {L : List Slot} {S : List Value} {H : AH} {i : Nat} : ex rt E x0 k (.getfield i) pc L S H cs ss = spc E 3 i S H cs ss fun S' H' cs' ss' => k (pc + 3, L, S', H', cs', ss') := rfl
theorem ex_putfield {rt : Option FieldType} {E : List (Nat × Nat × Act)} {x0 pc cs ss : Nat} {k : St → Option ORes} {L : List Slot} {S : List Value} {H : AH} {i : Nat} : ex rt E x0 k (.putfield i) pc L S H cs ss = spc E 4 i S H cs ss fun S' H' cs' ss' => k (pc + 3, L, S', H', cs', ss') := rfl
theorem ex_getstatic {rt : Option FieldType} {E : List (Nat × Nat × Act)} {x0 pc cs ss : Nat} {k : St → Option ORes} {L : List Slot} {S : List Value} {H : AH} {i : Nat} : ex rt E x0 k (.getstatic i) pc L S H cs ss = spc E 5 i S H cs ss fun S' H' cs' ss' => k (pc + 3, L, S', H', cs', ss') := rfl
theorem ex_new {rt : Option FieldType} {E : List (Nat × Nat × Act)} {x0 pc cs ss : Nat} {k : St → Option ORes} {L : List Slot} {S : List Value} {H : AH} {i : Nat} : ex rt E x0 k (.new i) pc L S H cs ss = spc E 6 i S H cs ss fun S' H' cs' ss' => k (pc + 3, L, S', H', cs', ss') := rfl
theorem ex_invokestatic {rt : Option FieldType} {E : List (Nat × Nat × Act)} {x0 pc cs ss : Nat} {k : St → Option ORes} {L : List Slot} {S : List Value} {H : AH} {i : Nat} : ex rt E x0 k (.invokestatic i) pc L S H cs ss = spc E 7 i S H cs ss fun S' H' cs' ss' => k (pc + 3, L, S', H', cs', ss') := rfl
theorem ex_invokespecial {rt : Option FieldType} {E : List (Nat × Nat × Act)} {x0 pc cs ss : Nat} {k : St → Option ORes} {L : List Slot} {S : List Value} {H : AH} {i : Nat} : ex rt E x0 k (.invokespecial i) pc L S H cs ss = spc E 8 i S H cs ss fun S' H' cs' ss' => k (pc + 3, L, S', H', cs', ss') := rfl
theorem ex_invokevirtual {rt : Option FieldType} {E : List (Nat × Nat × Act)} {x0 pc cs ss : Nat} {k : St → Option ORes} {L : List Slot} {S : List Value} {H : AH} {i : Nat} : ex rt E x0 k (.invokevirtual i) pc L S H cs ss = spc E 9 i S H cs ss fun S' H' cs' ss' => k (pc + 3, L, S', H', cs', ss') := rfl
theorem ex_checkcast {rt : Option FieldType} {E : List (Nat × Nat × Act)} {x0 pc cs ss : Nat} {k : St → Option ORes} {L : List Slot} {S : List Value} {H : AH} {i : Nat} : ex rt E x0 k (.checkcast i) pc L S H cs ss = spc E 10 i S H cs ss fun S' H' cs' ss' => k (pc + 3, L, S', H', cs', ss') := rfl
theorem ex_instanceof {rt : Option FieldType} {E : List (Nat × Nat × Act)} {x0 pc cs ss : Nat} {k : St → Option ORes} {L : List Slot} {S : List Value} {H : AH} {i : Nat} : ex rt E x0 k (.instanceof i) pc L S H cs ss = spc E 11 i S H cs ss fun S' H' cs' ss' => k (pc + 3, L, S', H', cs', ss') := rfl
theorem ex_anewarray {rt : Option FieldType} {E : List (Nat × Nat × Act)} {x0 pc cs ss : Nat} {k : St → Option ORes} {L : List Slot} {S : List Value} {H : AH} {i : Nat} : ex rt E x0 k (.anewarray i) pc L S H cs ss = spc E 12 i S H cs ss fun S' H' cs' ss' => k (pc + 3, L, S', H', cs', ss') := rfl
theorem ex_newarray {rt : Option FieldType} {E : List (Nat × Nat × Act)} {x0 pc cs ss : Nat} {k : St → Option ORes} {L : List Slot} {S : List Value} {H : AH} {t : ArrayType} : ex rt E x0 k (.newarray t) pc L S H cs ss = spc E 13 (atn t) S H cs ss fun S' H' cs' ss' => k (pc + 2, L, S', H', cs', ss') := rfl
theorem ex_ireturn {rt : Option FieldType} {E : List (Nat × Nat × Act)} {x0 pc cs ss : Nat} {k : St → Option ORes} {L : List Slot} {S : List Value} {H : AH}  : ex rt E x0 k (.ireturn) pc L S H cs ss = rI rt S H := rfl
theorem ex_lreturn {rt : Option FieldType} {E : List (Nat × Nat × Act)} {x0 pc cs ss : Nat} {k : St → Option ORes} {L : List Slot} {S : List Value} {H : AH}  : ex rt E x0 k (.lreturn) pc L S H cs ss = rL rt S H := rfl
theorem ex_areturn {rt : Option FieldType} {E : List (Nat × Nat × Act)} {x0 pc cs ss : Nat} {k : St → Option ORes} {L : List Slot} {S : List Value} {H : AH}  : ex rt E x0 k (.areturn) pc L S H cs ss = rA rt S H := rfl
theorem ex_return {rt : Option FieldType} {E : List (Nat × Nat × Act)} {x0 pc cs ss : Nat} {k : St → Option ORes} {L : List Slot} {S : List Value} {H : AH}  : ex rt E x0 k (.return_) pc L S H cs ss = rV rt S H := rfl
end Jvm.Own
namespace Jvm.Own
open Sem ClassFile Op Lib Jvm.RoadKit
/-! ## 7. Walking: one row a step, the answer's property kept apart -/
def Rsq (r : Option ORes) (q : Option ORes → Prop) : Prop := q r
theorem res_of {a b : Option ORes} {q : Option ORes → Prop} (e : a = b) (h : Rsq b q) : Rsq a q := by subst e; exact h
theorem res_t {P : Prop} [Decidable P] {A B : Option ORes} {q : Option ORes → Prop} (hc : P) (h : Rsq A q) : Rsq (if P then A else B) q := by rw [if_pos hc]; exact h
theorem res_f {P : Prop} [Decidable P] {A B : Option ORes} {q : Option ORes → Prop} (hc : ¬ P) (h : Rsq B q) : Rsq (if P then A else B) q := by rw [if_neg hc]; exact h
def OneI (r : Option ORes) : Prop := ∃ H', r = some (some (.int 1), H')
def Is (v : Option ORes) (r : Option ORes) : Prop := r = v
section Ofs
variable {code : ByteArray} {rt : Option FieldType} {E : List (Nat × Nat × Act)} {x0 N : Nat} {st : St} {a v : Option ORes} {q : Option ORes → Prop}
theorem rsq_of (e : a = orun code rt E x0 N st) (h : ∀ go, go = orun code rt E x0 → Rsq (go N st) q) : q a := by subst e; exact h _ rfl
theorem one_of (e : a = orun code rt E x0 N st) (h : ∀ go, go = orun code rt E x0 → Rsq (go N st) OneI) : ∃ H', a = some (some (.int 1), H') := by subst e; exact h _ rfl
theorem is_of (e : a = orun code rt E x0 N st) (h : ∀ go, go = orun code rt E x0 → Rsq (go N st) (Is v)) : a = v := by subst e; exact h _ rfl
end Ofs
theorem one_1 {H : AH} : OneI (some (some (.int 1), H)) := ⟨H, rfl⟩
theorem one_b {H : AH} : OneI (some (some (.int (1 &&& 1)), H)) := ⟨H, by rw [and11]⟩
theorem is_i {z w : Int32} {H H' : AH} (e : z = w) (e' : H = H') : Is (some (some (.int w), H')) (some (some (.int z), H)) := by subst e; subst e'; rfl
theorem is_r {v : Option ORes} : Is v v := rfl
theorem is_1 {H : AH} : Is (some (some (.int 1), H)) (some (some (.int (1 &&& 1)), H)) := by unfold Is; rw [and11]
theorem is_0 {H : AH} : Is (some (some (.int 0), H)) (some (some (.int (0 &&& 1)), H)) := by unfold Is; rw [and01]
def so : Slot → Bool | .unset => true | .val (.int _) => true | .val (.ref _) => true | .val .null => true | _ => false
def so2 : Slot → Slot → Bool | .unset, .unset => true | .val (.long _), .second => true | _, _ => false
def isA : Value → Bool | .ref _ => true | .null => true | _ => false
def isS : Value → Bool | .int _ => true | .ref _ => true | .null => true | _ => false
theorem st1_so {L : List Slot} {k : Nat} {v : Value} {l : Slot} (hL : L[k]? = some l) (hk : so l = true) : st1 L k v = some (L.set k (.val v)) := by
  unfold st1; rw [hL]
  cases l with
  | unset => rfl
  | second => simp [so] at hk
  | val w => cases w <;> first | rfl | (simp [so] at hk)
theorem st2_so {L : List Slot} {k : Nat} {x : Int64} {l l' : Slot} (h1 : L[k]? = some l) (h2 : L[k + 1]? = some l') (hk : so2 l l' = true) : st2 L k x = some ((L.set k (.val (.long x))).set (k + 1) .second) := by
  unfold st2; rw [h1, h2]
  cases l with
  | unset => cases l' with
    | unset => rfl
    | second => simp [so2] at hk
    | val w => simp [so2] at hk
  | second => cases l' <;> simp [so2] at hk
  | val w => cases w <;> cases l' <;> first | rfl | (simp [so2] at hk)
theorem gA_isA {L : List Slot} {k : Nat} {v : Value} (hL : L[k]? = some (.val v)) (hv : isA v = true) : gA L k = some v := by
  unfold gA; rw [hL]; cases v <;> first | rfl | (simp [isA] at hv)
theorem pA_isA {v : Value} {r : List Value} {f : Value → List Value → Option ORes} (hv : isA v = true) : pA (v :: r) f = f v r := by
  cases v <;> first | rfl | (simp [isA] at hv)
theorem p1_isS {v : Value} {r : List Value} {f : Value → List Value → Option ORes} (hv : isS v = true) : p1 (v :: r) f = f v r := by
  cases v <;> first | rfl | (simp [isS] at hv)
def ln (l : List Value) : Int32 := l.length.toInt32
theorem ln_of {l : List Value} {n : Nat} {z : Int32} (h : l.length = n) (h' : n.toInt32 = z) : ln l = z := by unfold ln; rw [h, h']
theorem ln0 : ln [] = 0 := rfl
theorem ln1 {a0 : Value} : ln [a0] = 1 := rfl
theorem ln2 {a0 a1 : Value} : ln [a0, a1] = 2 := rfl
theorem ln3 {a0 a1 a2 : Value} : ln [a0, a1, a2] = 3 := rfl
theorem ln4 {a0 a1 a2 a3 : Value} : ln [a0, a1, a2, a3] = 4 := rfl
theorem ln5 {a0 a1 a2 a3 a4 : Value} : ln [a0, a1, a2, a3, a4] = 5 := rfl
theorem ln6 {a0 a1 a2 a3 a4 a5 : Value} : ln [a0, a1, a2, a3, a4, a5] = 6 := rfl
theorem ln7 {a0 a1 a2 a3 a4 a5 a6 : Value} : ln [a0, a1, a2, a3, a4, a5, a6] = 7 := rfl
theorem ln8 {a0 a1 a2 a3 a4 a5 a6 a7 : Value} : ln [a0, a1, a2, a3, a4, a5, a6, a7] = 8 := rfl
theorem ln9 {a0 a1 a2 a3 a4 a5 a6 a7 a8 : Value} : ln [a0, a1, a2, a3, a4, a5, a6, a7, a8] = 9 := rfl
theorem ln10 {a0 a1 a2 a3 a4 a5 a6 a7 a8 a9 : Value} : ln [a0, a1, a2, a3, a4, a5, a6, a7, a8, a9] = 10 := rfl
theorem ln11 {a0 a1 a2 a3 a4 a5 a6 a7 a8 a9 a10 : Value} : ln [a0, a1, a2, a3, a4, a5, a6, a7, a8, a9, a10] = 11 := rfl
theorem ln12 {a0 a1 a2 a3 a4 a5 a6 a7 a8 a9 a10 a11 : Value} : ln [a0, a1, a2, a3, a4, a5, a6, a7, a8, a9, a10, a11] = 12 := rfl
theorem ln13 {a0 a1 a2 a3 a4 a5 a6 a7 a8 a9 a10 a11 a12 : Value} : ln [a0, a1, a2, a3, a4, a5, a6, a7, a8, a9, a10, a11, a12] = 13 := rfl
theorem ln14 {a0 a1 a2 a3 a4 a5 a6 a7 a8 a9 a10 a11 a12 a13 : Value} : ln [a0, a1, a2, a3, a4, a5, a6, a7, a8, a9, a10, a11, a12, a13] = 14 := rfl
theorem ln15 {a0 a1 a2 a3 a4 a5 a6 a7 a8 a9 a10 a11 a12 a13 a14 : Value} : ln [a0, a1, a2, a3, a4, a5, a6, a7, a8, a9, a10, a11, a12, a13, a14] = 15 := rfl
theorem ln16 {a0 a1 a2 a3 a4 a5 a6 a7 a8 a9 a10 a11 a12 a13 a14 a15 : Value} : ln [a0, a1, a2, a3, a4, a5, a6, a7, a8, a9, a10, a11, a12, a13, a14, a15] = 16 := rfl
theorem ln17 {a0 a1 a2 a3 a4 a5 a6 a7 a8 a9 a10 a11 a12 a13 a14 a15 a16 : Value} : ln [a0, a1, a2, a3, a4, a5, a6, a7, a8, a9, a10, a11, a12, a13, a14, a15, a16] = 17 := rfl
theorem ln18 {a0 a1 a2 a3 a4 a5 a6 a7 a8 a9 a10 a11 a12 a13 a14 a15 a16 a17 : Value} : ln [a0, a1, a2, a3, a4, a5, a6, a7, a8, a9, a10, a11, a12, a13, a14, a15, a16, a17] = 18 := rfl
theorem ln19 {a0 a1 a2 a3 a4 a5 a6 a7 a8 a9 a10 a11 a12 a13 a14 a15 a16 a17 a18 : Value} : ln [a0, a1, a2, a3, a4, a5, a6, a7, a8, a9, a10, a11, a12, a13, a14, a15, a16, a17, a18] = 19 := rfl
theorem ln20 {a0 a1 a2 a3 a4 a5 a6 a7 a8 a9 a10 a11 a12 a13 a14 a15 a16 a17 a18 a19 : Value} : ln [a0, a1, a2, a3, a4, a5, a6, a7, a8, a9, a10, a11, a12, a13, a14, a15, a16, a17, a18, a19] = 20 := rfl
theorem ln21 {a0 a1 a2 a3 a4 a5 a6 a7 a8 a9 a10 a11 a12 a13 a14 a15 a16 a17 a18 a19 a20 : Value} : ln [a0, a1, a2, a3, a4, a5, a6, a7, a8, a9, a10, a11, a12, a13, a14, a15, a16, a17, a18, a19, a20] = 21 := rfl
theorem ln22 {a0 a1 a2 a3 a4 a5 a6 a7 a8 a9 a10 a11 a12 a13 a14 a15 a16 a17 a18 a19 a20 a21 : Value} : ln [a0, a1, a2, a3, a4, a5, a6, a7, a8, a9, a10, a11, a12, a13, a14, a15, a16, a17, a18, a19, a20, a21] = 22 := rfl
theorem ln23 {a0 a1 a2 a3 a4 a5 a6 a7 a8 a9 a10 a11 a12 a13 a14 a15 a16 a17 a18 a19 a20 a21 a22 : Value} : ln [a0, a1, a2, a3, a4, a5, a6, a7, a8, a9, a10, a11, a12, a13, a14, a15, a16, a17, a18, a19, a20, a21, a22] = 23 := rfl
theorem ln24 {a0 a1 a2 a3 a4 a5 a6 a7 a8 a9 a10 a11 a12 a13 a14 a15 a16 a17 a18 a19 a20 a21 a22 a23 : Value} : ln [a0, a1, a2, a3, a4, a5, a6, a7, a8, a9, a10, a11, a12, a13, a14, a15, a16, a17, a18, a19, a20, a21, a22, a23] = 24 := rfl
theorem ln25 {a0 a1 a2 a3 a4 a5 a6 a7 a8 a9 a10 a11 a12 a13 a14 a15 a16 a17 a18 a19 a20 a21 a22 a23 a24 : Value} : ln [a0, a1, a2, a3, a4, a5, a6, a7, a8, a9, a10, a11, a12, a13, a14, a15, a16, a17, a18, a19, a20, a21, a22, a23, a24] = 25 := rfl
theorem ln26 {a0 a1 a2 a3 a4 a5 a6 a7 a8 a9 a10 a11 a12 a13 a14 a15 a16 a17 a18 a19 a20 a21 a22 a23 a24 a25 : Value} : ln [a0, a1, a2, a3, a4, a5, a6, a7, a8, a9, a10, a11, a12, a13, a14, a15, a16, a17, a18, a19, a20, a21, a22, a23, a24, a25] = 26 := rfl
theorem ln27 {a0 a1 a2 a3 a4 a5 a6 a7 a8 a9 a10 a11 a12 a13 a14 a15 a16 a17 a18 a19 a20 a21 a22 a23 a24 a25 a26 : Value} : ln [a0, a1, a2, a3, a4, a5, a6, a7, a8, a9, a10, a11, a12, a13, a14, a15, a16, a17, a18, a19, a20, a21, a22, a23, a24, a25, a26] = 27 := rfl
theorem ln28 {a0 a1 a2 a3 a4 a5 a6 a7 a8 a9 a10 a11 a12 a13 a14 a15 a16 a17 a18 a19 a20 a21 a22 a23 a24 a25 a26 a27 : Value} : ln [a0, a1, a2, a3, a4, a5, a6, a7, a8, a9, a10, a11, a12, a13, a14, a15, a16, a17, a18, a19, a20, a21, a22, a23, a24, a25, a26, a27] = 28 := rfl
theorem ln29 {a0 a1 a2 a3 a4 a5 a6 a7 a8 a9 a10 a11 a12 a13 a14 a15 a16 a17 a18 a19 a20 a21 a22 a23 a24 a25 a26 a27 a28 : Value} : ln [a0, a1, a2, a3, a4, a5, a6, a7, a8, a9, a10, a11, a12, a13, a14, a15, a16, a17, a18, a19, a20, a21, a22, a23, a24, a25, a26, a27, a28] = 29 := rfl
theorem ln30 {a0 a1 a2 a3 a4 a5 a6 a7 a8 a9 a10 a11 a12 a13 a14 a15 a16 a17 a18 a19 a20 a21 a22 a23 a24 a25 a26 a27 a28 a29 : Value} : ln [a0, a1, a2, a3, a4, a5, a6, a7, a8, a9, a10, a11, a12, a13, a14, a15, a16, a17, a18, a19, a20, a21, a22, a23, a24, a25, a26, a27, a28, a29] = 30 := rfl
theorem ln31 {a0 a1 a2 a3 a4 a5 a6 a7 a8 a9 a10 a11 a12 a13 a14 a15 a16 a17 a18 a19 a20 a21 a22 a23 a24 a25 a26 a27 a28 a29 a30 : Value} : ln [a0, a1, a2, a3, a4, a5, a6, a7, a8, a9, a10, a11, a12, a13, a14, a15, a16, a17, a18, a19, a20, a21, a22, a23, a24, a25, a26, a27, a28, a29, a30] = 31 := rfl
theorem ln32 {a0 a1 a2 a3 a4 a5 a6 a7 a8 a9 a10 a11 a12 a13 a14 a15 a16 a17 a18 a19 a20 a21 a22 a23 a24 a25 a26 a27 a28 a29 a30 a31 : Value} : ln [a0, a1, a2, a3, a4, a5, a6, a7, a8, a9, a10, a11, a12, a13, a14, a15, a16, a17, a18, a19, a20, a21, a22, a23, a24, a25, a26, a27, a28, a29, a30, a31] = 32 := rfl
theorem ln33 {a0 a1 a2 a3 a4 a5 a6 a7 a8 a9 a10 a11 a12 a13 a14 a15 a16 a17 a18 a19 a20 a21 a22 a23 a24 a25 a26 a27 a28 a29 a30 a31 a32 : Value} : ln [a0, a1, a2, a3, a4, a5, a6, a7, a8, a9, a10, a11, a12, a13, a14, a15, a16, a17, a18, a19, a20, a21, a22, a23, a24, a25, a26, a27, a28, a29, a30, a31, a32] = 33 := rfl
theorem ln34 {a0 a1 a2 a3 a4 a5 a6 a7 a8 a9 a10 a11 a12 a13 a14 a15 a16 a17 a18 a19 a20 a21 a22 a23 a24 a25 a26 a27 a28 a29 a30 a31 a32 a33 : Value} : ln [a0, a1, a2, a3, a4, a5, a6, a7, a8, a9, a10, a11, a12, a13, a14, a15, a16, a17, a18, a19, a20, a21, a22, a23, a24, a25, a26, a27, a28, a29, a30, a31, a32, a33] = 34 := rfl
theorem ln35 {a0 a1 a2 a3 a4 a5 a6 a7 a8 a9 a10 a11 a12 a13 a14 a15 a16 a17 a18 a19 a20 a21 a22 a23 a24 a25 a26 a27 a28 a29 a30 a31 a32 a33 a34 : Value} : ln [a0, a1, a2, a3, a4, a5, a6, a7, a8, a9, a10, a11, a12, a13, a14, a15, a16, a17, a18, a19, a20, a21, a22, a23, a24, a25, a26, a27, a28, a29, a30, a31, a32, a33, a34] = 35 := rfl
theorem ln36 {a0 a1 a2 a3 a4 a5 a6 a7 a8 a9 a10 a11 a12 a13 a14 a15 a16 a17 a18 a19 a20 a21 a22 a23 a24 a25 a26 a27 a28 a29 a30 a31 a32 a33 a34 a35 : Value} : ln [a0, a1, a2, a3, a4, a5, a6, a7, a8, a9, a10, a11, a12, a13, a14, a15, a16, a17, a18, a19, a20, a21, a22, a23, a24, a25, a26, a27, a28, a29, a30, a31, a32, a33, a34, a35] = 36 := rfl
end Jvm.Own
namespace Jvm.Own
open Sem ClassFile Op Lib Jvm.Stand Jvm.Free Jvm.LawKit Jvm.RoadKit
/-! ## 7. Statics, casts, copies of arrays -/
def aSta (v : Value) : Act := fun S H cs ss => some (v :: S, H, cs, ss)
def aCast (x0 : Nat) (ty : FieldType) : Act := fun S H cs ss => match S with
  | .ref a :: r => (arr H a).bind fun q => if q.1 = ty ∧ x0 ≤ a then some (.ref a :: r, H, cs, ss) else none
  | _ => none
def aClone (x0 : Nat) (ty : FieldType) (W Rc Rs : Nat) : Act := fun S H cs ss => match S with
  | .ref a :: r => (arr H a).bind fun q => if q.1 = ty ∧ x0 ≤ a ∧ (r.map Value.category).sum ≤ W ∧ cs + 1 ≤ Rc ∧ ss + q.2.length ≤ Rs then some (.ref H.length :: r, H ++ [.inr q], cs + 1, ss + q.2.length) else none
  | _ => none
def aCopy (x0 : Nat) (ty : FieldType) (W : Nat) : Act := fun S H cs ss => match S with
  | .int nn :: .int dp :: .ref b :: .int sp :: .ref a :: r => (arr H a).bind fun qa => (arr H b).bind fun qb =>
      if qa.1 = ty ∧ qb.1 = ty ∧ x0 ≤ b ∧ (r.map Value.category).sum ≤ W ∧ ¬ sp < 0 ∧ ¬ dp < 0 ∧ ¬ nn < 0 ∧ sp.toNatClampNeg + nn.toNatClampNeg ≤ qa.2.length ∧ dp.toNatClampNeg + nn.toNatClampNeg ≤ qb.2.length then
        some (r, H.set b (.inr (ty, qb.2.take dp.toNatClampNeg ++ (qa.2.drop sp.toNatClampNeg).take nn.toNatClampNeg ++ qb.2.drop (dp.toNatClampNeg + nn.toNatClampNeg))), cs, ss) else none
  | _ => none
section Acts2
variable {p : Program} {l : Launch} {e : Env} {R : Room} {s : State} {m : MethodId} {args : Array Value} {below : List Frame} {meth : Method} {c : Code} {Z : State} {σ : Nat → Nat} {x0 n0 : Nat} {K : List CD} {a0 : Array Value} {h h' : Heap}
theorem okSta (hx : p.tables.exec = Jvm.exec) (hZ : Z.Warmed39 s.vm) {own R0 O n d : String} {idx : Nat} {v : Value} (hown : s.vm.findClass own = some m.cls) (w : (Jvm.Cond.fieldLink own idx R0 n d).before a0 Z = true) (via : Via Z R0 O n d) (F : Sta Z Z.heap O n d (cv σ v)) : Good p l e R s m args below meth c Z σ x0 n0 K (.getstatic idx) (aSta v) := by
  intro T locs cs ss pc L S H S' H' cs' ss' X hd hL hR hF hB h
  cases h
  obtain ⟨T', X', e', st⟩ := getS (host := "") X hx hZ hown w via rfl (F.ext hR.2.2.1.2) (g := mkF m pc (cL σ L) (S.map (cv σ))) rfl hd
  exact ⟨T', locs, X', e' ▸ hR, hF, hB, st⟩
theorem okCast (hx : p.tables.exec = Jvm.exec) (hZ : Z.Warmed39 s.vm) (hsg : Sg σ x0 n0) {own C ad : String} {idx : Nat} {ty : FieldType} (hown : s.vm.findClass own = some m.cls) (had : "[" ++ ty.toString = ad) (w : (Jvm.Cond.classLink own idx C).before a0 Z = true) (wc : (Jvm.Cond.castable ad C).before a0 Z = true) : Good p l e R s m args below meth c Z σ x0 n0 K (.checkcast idx) (aCast x0 ty) := by
  intro T locs cs ss pc L S H S' H' cs' ss' X hd hL hR hF hB h
  subst had
  unfold aCast at h
  split at h
  · rename_i a r
    replace h := Option.bind_eq_some_iff.mp h
    obtain ⟨⟨t, vs⟩, h1, h⟩ := h
    dsimp only at h
    split at h
    · rename_i hq
      obtain ⟨rfl, hx0⟩ := hq
      cases h
      obtain ⟨cell, A, hs, hl, hfi, hex⟩ := hR.2.2.2 _ _ (arr_some h1)
      obtain ⟨T', X', e', st⟩ := castY X hx hZ hown w rfl (Ins.of_exa (hex (hR.2.2.1.1.symm ▸ hsg.new hx0)) wc) (g := mkF m pc (cL σ L) (List.map (cv σ) (.ref a :: r))) rfl rfl hd
      exact ⟨T', locs, X', e' ▸ hR, hF, hB, st⟩
    · cases h
  · cases h
theorem okClone (hx : p.tables.exec = Jvm.exec) (hZ : Z.Warmed39 s.vm) (hsg : Sg σ x0 n0) {own ad : String} {idx W Rc Rs : Nat} {ty : FieldType} (hown : s.vm.findClass own = some m.cls) (had : "[" ++ ty.toString = ad)
    (w1 : (Jvm.Cond.methodLink own idx ⟨ad, "clone", "()Ljava/lang/Object;"⟩).before a0 Z = true) (w2 : (Jvm.Cond.sameMethod ad "java/lang/Object" "clone" "()Ljava/lang/Object;").before a0 Z = true) (w3 : (Jvm.Cond.native ⟨"java/lang/Object", "clone", "()Ljava/lang/Object;"⟩).before a0 Z = true)
    (w4 : (Jvm.Cond.instanceMethod ⟨"java/lang/Object", "clone", "()Ljava/lang/Object;"⟩).before a0 Z = true) (w5 : (Jvm.Cond.selects ad ⟨ad, "clone", "()Ljava/lang/Object;"⟩ ⟨"java/lang/Object", "clone", "()Ljava/lang/Object;"⟩).before a0 Z = true) (w6 : (Jvm.Cond.castable ad "java/lang/Cloneable").before a0 Z = true)
    (hf : 1 ≤ R.frames) (hlo : W + 14 ≤ R.locals) (hRc : Rc ≤ R.cells) (hRs : Rs ≤ R.slots) : Good p l e R s m args below meth c Z σ x0 n0 K (.invokevirtual idx) (aClone x0 ty W Rc Rs) := by
  intro T locs cs ss pc L S H S' H' cs' ss' X hd hL hR hF hB h
  subst had
  unfold aClone at h
  split at h
  · rename_i a r
    replace h := Option.bind_eq_some_iff.mp h
    obtain ⟨⟨t, vs⟩, h1, h⟩ := h
    dsimp only at h
    split at h
    · rename_i hq
      obtain ⟨rfl, hx0, hW, hc1, hs1⟩ := hq
      cases h
      obtain ⟨cell, A, hs, hl, hfi, hex⟩ := hR.2.2.2 _ _ (arr_some h1)
      obtain ⟨c2, k, e1, e2, e3, -, e5⟩ := hex (hR.2.2.1.1.symm ▸ hsg.new hx0)
      cases A.1.symm.trans e1
      obtain ⟨c1, cC, g1, g2, g3⟩ := Cond.castable_spec w6
      cases e2.symm.trans g1
      have hal : Z.vm.Alike T.vm := hZ.alike.trans X.warmed.alike
      have FC : FitC Z cell := fitC_of A fun i hi v hv => by
        rw [hs] at hv
        simp only [List.getElem?_toArray, List.getElem?_map, Option.map_eq_some_iff] at hv
        obtain ⟨w, hw, rfl⟩ := hv
        rw [cv_fits]; exact hfi w (List.mem_of_getElem? hw)
      have ea : σ H.length = T.heap.size := hR.addr hsg
      have hsz : cell.slots.size = vs.length := by rw [hs]; simp
      obtain ⟨vm', X', st⟩ := X.cloneArray hx hown (mv hZ w1) (mv hZ w2) (mv hZ w3) (mv hZ w4) (mv hZ w5) (a := σ a) A.1 A.2.1.1 A.2.2 (by rw [hZ.alike.findClass]; exact e2) (by rw [hZ.alike.findClass]; exact g2) (by rw [hZ.alike.assignable]; exact g3)
        (fun i v hv => by have q := FC i v hv; rw [← State.fitsSlot_setVm hal] at q; exact q) (g := mkF m pc (cL σ L) (List.map (cv σ) (.ref a :: r))) rfl (size_cL.trans hL) rfl hd hf (by show 2 * 0 + _ + _ ≤ _; rw [cat_sum]; omega) (Nat.le_trans hc1 hRc) (by rw [hsz]; exact Nat.le_trans hs1 hRs)
        (by obtain ⟨-, k2, hk2, comp, hkind⟩ := A.2.1; rw [hZ.alike.clonesLoader]; exact Vm.clonesLoader_of_array hk2 hkind)
      rw [hsz] at X'
      refine ⟨_, locs, X', hR.push (ext_push _ _) (by show (T.heap.push _).size = _; simp) ?_, hF, ⟨Nat.le_trans hc1 hRc, Nat.le_trans hs1 hRs⟩, ?_⟩
      · rw [ea]
        have hN : (T.heap.push { cls := cell.cls, slots := cell.slots })[T.heap.size]? = some { cls := cell.cls, slots := cell.slots } := by simp
        exact ⟨_, ⟨hN, ⟨fun _ z => (by cases z), A.2.1.2⟩, fun z => (by cases z)⟩, hs, hl, hfi, fun _ => ⟨_, k, hN, e2, e3, rfl, e5⟩⟩
      · intro t q
        refine st t ?_
        have q' := q
        simp only [List.map_cons, cv, ea] at q'
        exact q'
    · cases h
  · cases h
theorem RepO.keep {a b : Addr} {o : Ob} (W : Keep h h' [b]) (R : RepO Z σ K h a o) (ne : a ≠ b) : RepO Z σ K h' a o := by
  have nm : a ∉ [b] := ninS ne nin0
  rcases o with ⟨c, vs⟩ | ⟨ty, vs⟩
  · obtain ⟨C, fs, h1, h2, h3⟩ := R
    exact ⟨C, fs, h1, h2.keep W, fun j v q => by obtain ⟨O, n, d, q1, q2⟩ := h3 j v q; exact ⟨O, n, d, q1, q2.keep W nm⟩⟩
  · obtain ⟨cell, h1, h2, h3, h4, h5⟩ := R
    exact ⟨cell, ⟨W.2.1 a cell h1.1 nm, h1.2⟩, h2, h3, h4, fun q => (h5 q).keep W⟩
theorem Rep.writeK {H : AH} (S : Sg σ x0 n0) (R : Rep Z σ x0 n0 K h H) {k : Nat} {o : Ob} (hk : x0 ≤ k) (W : Keep h h' [σ k]) (hsz : h'.size = h.size) (ho : RepO Z σ K h' (σ k) o) : Rep Z σ x0 n0 K h' (H.set k o) := by
  obtain ⟨r1, r2, r3, r4⟩ := R
  refine ⟨by rw [hsz]; simpa using r1, by simpa using r2, r3.keep W (allS (S.new hk) all0), fun j o' q => ?_⟩
  by_cases e : k = j
  · subst e
    by_cases hl : k < H.length
    · rw [List.getElem?_set_self hl] at q; cases q; exact ho
    · rw [List.getElem?_eq_none (by simp; omega)] at q; cases q
  · rw [List.getElem?_set_ne e] at q
    exact (r4 j o' q).keep W fun u => e (S.inj u).symm
theorem stretch_eq {cell : Cell} {vs : List Value} (hs : cell.slots = (vs.map (cv σ)).toArray) {i n : Nat} (hl : i + n ≤ vs.length) : cell.stretch i n = ((vs.drop i).take n).map (cv σ) := by
  apply List.ext_getElem?
  intro j
  simp only [Cell.stretch, List.getElem?_map, List.getElem?_range', List.getElem?_take, List.getElem?_drop]
  by_cases q : j < n
  · have : i + j < vs.length := by omega
    simp [q, hs, this, Array.getD_eq_getD_getElem?]
  · simp [q]
theorem okCopy (hx : p.tables.exec = Jvm.exec) (hZ : Z.Warmed39 s.vm) (hsg : Sg σ x0 n0) {own : String} {idx W : Nat} {ty : FieldType} (hown : s.vm.findClass own = some m.cls) (hty : refKind ty = false)
    (w1 : (Jvm.Cond.methodLink own idx Jvm.Stand.acN).before a0 Z = true) (w2 : (Jvm.Cond.native Jvm.Stand.acN).before a0 Z = true) (w3 : (Jvm.Cond.static Jvm.Stand.acN).before a0 Z = true) (w4 : (Jvm.Cond.initialized "java/lang/System").before a0 Z = true)
    (hf : 1 ≤ R.frames) (hlo : W + (nativeFrameWords "java/lang/System" "arraycopy" 5 + 11) ≤ R.locals) : Good p l e R s m args below meth c Z σ x0 n0 K (.invokestatic idx) (aCopy x0 ty W) := by
  intro T locs cs ss pc L S H S' H' cs' ss' X hd hL hR hF hB h
  unfold aCopy at h
  split at h
  · rename_i nn dp b sp a r
    replace h := Option.bind_eq_some_iff.mp h
    obtain ⟨⟨ta, vs⟩, ha, h⟩ := h
    replace h := Option.bind_eq_some_iff.mp h
    obtain ⟨⟨tb, vd⟩, hb, h⟩ := h
    dsimp only at h
    split at h
    · rename_i hq
      obtain ⟨rfl, rfl, hx0, hW, h1, h2, h3, h4, h5⟩ := hq
      cases h
      obtain ⟨ca, A, hsa, hla, hfa, hea⟩ := hR.2.2.2 _ _ (arr_some ha)
      obtain ⟨cb, B, hsb, hlb, hfb, heb⟩ := hR.2.2.2 _ _ (arr_some hb)
      obtain ⟨oa, ka, hka, sa, hska⟩ := State.isArrayOf_alike hZ.alike A.2.1
      obtain ⟨ob, kb, hkb, sb, hskb⟩ := State.isArrayOf_alike hZ.alike B.2.1
      have nat : ∀ {x : Int32}, ¬ x < 0 → x.toInt = x.toNatClampNeg := fun {x} q => nat_of q
      have za : ca.slots.size = vs.length := by rw [hsa]; simp
      have zb : cb.slots.size = vd.length := by rw [hsb]; simp
      have gv : ∀ i, i < nn.toNatClampNeg → ∃ v ∈ vs, ca.slots.getD (sp.toNatClampNeg + i) .null = cv σ v := fun i hi => by
        have q : sp.toNatClampNeg + i < vs.length := by omega
        exact ⟨vs[sp.toNatClampNeg + i], List.getElem_mem q, by rw [hsa]; simp [Array.getD_eq_getD_getElem?, q]⟩
      obtain ⟨vm₁, hW₁, X', st⟩ := X.arraycopyK hx hown (mvT hZ w1) (mvT hZ w2) (mvT hZ w3) (mvT hZ w4) (src := σ a) (dst := σ b) A.1 B.1 oa ob A.2.2 B.2.2 hka hkb hska hskb (by simp [hty]) h1 h2 h3 (by rw [nat h1, nat h3, za]; omega) (by rw [nat h2, nat h3, zb]; omega)
        (fun vm₁ hw i hi => by
          obtain ⟨v, hv, hg⟩ := gv i hi
          rw [hg, cv_fits]
          refine ⟨hfa v hv, ?_⟩
          have q := hfa v hv
          cases v <;> first | trivial | exact (prim_no_ref hty q).elim) (g := mkF m pc (cL σ L) (List.map (cv σ) (.int nn :: .int dp :: .ref b :: .int sp :: .ref a :: S'))) rfl (size_cL.trans hL) rfl hd hf (by show 2 * 0 + _ + _ ≤ _; rw [cat_sum]; omega)
      have cf := cb.storeRun_facts dp.toNatClampNeg (ca.stretch sp.toNatClampNeg nn.toNatClampNeg)
      have hlt : σ b < T.heap.size := B.lt
      have hKp : Keep T.heap (T.heap.setIfInBounds (σ b) (copied ca cb sp dp nn)) [σ b] := by
        refine ⟨by simp, fun x c q r => ?_, fun x c q => ?_⟩
        · rw [Array.getElem?_setIfInBounds_ne (fun z => r (by simp [z]))]; exact q
        · by_cases z : σ b = x
          · subst z; cases B.1.symm.trans q
            exact ⟨_, by rw [Array.getElem?_setIfInBounds_self_of_lt hlt], cf.1, cf.2.1, cf.2.2.1⟩
          · exact ⟨c, by rw [Array.getElem?_setIfInBounds_ne z]; exact q, rfl, rfl, rfl⟩
      refine ⟨_, _, X', hR.writeK hsg hx0 hKp (by show (T.heap.setIfInBounds _ _).size = _; simp) ?_, hF.app fun y hy => ?_, hB, st⟩
      · have hN : (T.heap.setIfInBounds (σ b) (copied ca cb sp dp nn))[σ b]? = some (copied ca cb sp dp nn) := by rw [Array.getElem?_setIfInBounds_self_of_lt hlt]
        refine ⟨copied ca cb sp dp nn, ⟨hN, ⟨fun k z => B.2.1.1 k (cf.2.1 ▸ z), ?_⟩, fun z => B.2.2 (cf.2.1 ▸ z)⟩, ?_, ?_, ?_, fun q => (heb q).keep hKp⟩
        · obtain ⟨kk, z1, z2⟩ := B.2.1.2
          exact ⟨kk, by rw [show (copied ca cb sp dp nn).cls = cb.cls from cf.1]; exact z1, z2⟩
        · apply Array.ext_getElem?
          intro j
          show (cb.storeRun _ (ca.stretch _ _)).slots[j]? = _
          have hst := stretch_eq (σ := σ) hsa h4
          have hln : (ca.stretch sp.toNatClampNeg nn.toNatClampNeg).length = nn.toNatClampNeg := by simp [Cell.stretch]
          rw [Cell.storeRun_get _ _ _ _ (by rw [hln, zb]; exact h5), hln, hst, hsb]
          have l1 : (vd.take dp.toNatClampNeg).length = dp.toNatClampNeg := by rw [List.length_take]; omega
          have l2 : ((vs.drop sp.toNatClampNeg).take nn.toNatClampNeg).length = nn.toNatClampNeg := by rw [List.length_take, List.length_drop]; omega
          simp only [List.getElem?_toArray, List.map_append, List.append_assoc]
          by_cases c1 : j < dp.toNatClampNeg
          · rw [if_neg (by omega), List.getElem?_append_left (by rw [List.length_map]; omega)]
            simp [List.getElem?_take, c1]
          · rw [List.getElem?_append_right (by rw [List.length_map]; omega), List.length_map, l1]
            by_cases c2 : j < dp.toNatClampNeg + nn.toNatClampNeg
            · rw [if_pos ⟨by omega, c2⟩, List.getElem?_append_left (by rw [List.length_map, l2]; omega)]
            · rw [if_neg (by omega), List.getElem?_append_right (by rw [List.length_map, l2]; omega), List.length_map, l2]
              simp only [List.getElem?_map, List.getElem?_drop]
              congr 2; omega
        · simp only [List.length_append, List.length_take, List.length_drop]; omega
        · intro v hv
          simp only [List.mem_append] at hv
          rcases hv with (q | q) | q
          · exact hfb v (List.mem_of_mem_take q)
          · exact hfa v (List.mem_of_mem_drop (List.mem_of_mem_take q))
          · exact hfb v (List.mem_of_mem_drop q)
      · simp only [copyLocs, List.mem_map] at hy
        obtain ⟨i, -, rfl⟩ := hy
        exact hsg.new hx0
    · cases h
  · cases h
end Acts2
end Jvm.Own
namespace Jvm.Own
open Sem ClassFile Op Lib Jvm.RoadKit
/-! ## 8. Objects that stand before the call (statics) -/
def sgx (xs : List Nat) (n0 : Nat) (k : Nat) : Nat := match xs[k]? with | some a => a | none => n0 + k - xs.length
theorem sgx_in {xs : List Nat} {n0 k a : Nat} (h : xs[k]? = some a) : sgx xs n0 k = a := by
  unfold sgx; rw [h]
theorem sgx_ok {xs : List Nat} {n0 : Nat} (h : ∀ a ∈ xs, a < n0) (hd : xs.Nodup) : Sg (sgx xs n0) xs.length n0 := by
  refine ⟨fun k hk => ?_, fun i hi => ?_, fun i j hi hj e => ?_⟩
  · unfold sgx
    rw [List.getElem?_eq_none hk]
    show n0 + k - xs.length + xs.length = n0 + k
    omega
  · rw [sgx_in (List.getElem?_eq_getElem hi)]
    exact h _ (List.getElem_mem hi)
  · rw [sgx_in (List.getElem?_eq_getElem hi), sgx_in (List.getElem?_eq_getElem hj)] at e
    rcases Nat.lt_trichotomy i j with q | q | q
    · exact absurd e (List.pairwise_iff_getElem.mp hd i j hi hj q)
    · exact q
    · exact absurd e.symm (List.pairwise_iff_getElem.mp hd j i hj hi q)
theorem rep_x {s : State} {xs : List Nat} {K : List CD} {H0 : AH} (hl : H0.length = xs.length) (hr : ∀ k o, H0[k]? = some o → RepO s (sgx xs s.heap.size) K s.heap (sgx xs s.heap.size k) o) : Rep s (sgx xs s.heap.size) xs.length s.heap.size K s.heap H0 :=
  ⟨by rw [hl], by omega, Old.start s, hr⟩
theorem fld_congr {args : Array Value} {first : State} {o : Option Outcome} {idx : List Nat} {s : State} {t t' : Term} {C n d : String} (h : t.eval args first o idx s = t'.eval args first o idx s) : (Term.field t C n d).eval args first o idx s = (Term.field t' C n d).eval args first o idx s := by
  simp only [Term.eval, h]
theorem exa_lt {Z : State} {a : Addr} {C : String} (h : Exa Z Z.heap a C) : a < Z.heap.size := by
  obtain ⟨cell, k, h1, h2⟩ := h
  exact (Array.getElem?_eq_some_iff.mp h1).1
section Conds
variable {args : Array Value} {first s : State} {o : Option Outcome} {idx : List Nat} {t a b : Term} {c d : Cond}
theorem len_el {x : Addr} {cl : Cell} {z : Int32} (h : (Term.length t).eval args first o idx s = some (.int z)) (ht : t.eval args first o idx s = some (.ref x)) (hc : s.arrayAt? x = some cl) : cl.slots.size < 2 ^ 31 ∧ cl.slots.size.toInt32 = z := by
  by_cases q : cl.slots.size < 2 ^ 31
  · have e := len_f ht hc q
    cases e.symm.trans h
    exact ⟨q, rfl⟩
  · simp [Term.eval, ht, hc, q] at h
theorem or_f (hc : c.value args first o s idx = some false) (h : (Cond.or c d).value args first o s idx = some true) : d.value args first o s idx = some true := by
  simpa [Cond.value, hc] using h
theorem lt_no {x y : Int32} (ha : a.eval args first o idx s = some (.int x)) (hb : b.eval args first o idx s = some (.int y)) (h : ¬ x < y) : (Cond.lt a b).value args first o s idx = some false := by
  simp [Cond.value, ha, hb, h]
theorem le_no {x y : Int32} (ha : a.eval args first o idx s = some (.int x)) (hb : b.eval args first o idx s = some (.int y)) (h : y < x) : (Cond.le a b).value args first o s idx = some false := by
  have h' : ¬ x ≤ y := Int32.not_le.mpr h
  simp [Cond.value, ha, hb, h']
theorem seg_in {Z : State} {x : Addr} {cl : Cell} {lo hi v j : Int32} (et : ∀ idx, t.eval args Z none idx Z = some (.ref x)) (hc : Z.arrayAt? x = some cl) (h : (Cond.all t (.or (.lt (.index 0) (.int lo)) (.or (.le (.int hi) (.index 0)) (.eq (.elem t (.index 0)) (.int v))))).value args Z none Z [] = some true)
    (hj : ¬ j < 0) (hs : j.toNatClampNeg < cl.slots.size) (h1 : ¬ j < lo) (h2 : j < hi) : cl.slots[j.toNatClampNeg]? = some (.int v) := by
  have u := Cond.all_elim (et []) hc h j.toNatClampNeg hs
  have u1 := or_f (lt_no (idx_at hj) (Term.int_eval lo) h1) u
  have u2 := or_f (le_no (Term.int_eval hi) (idx_at hj) h2) u1
  exact (elem_f (et _) (idx_at hj) hc hj).symm.trans (eqv_i (Term.int_eval v) u2)
theorem seg_lo {Z : State} {x : Addr} {cl : Cell} {hi v j : Int32} (et : ∀ idx, t.eval args Z none idx Z = some (.ref x)) (hc : Z.arrayAt? x = some cl) (h : (Cond.all t (.or (.le (.int hi) (.index 0)) (.eq (.elem t (.index 0)) (.int v)))).value args Z none Z [] = some true)
    (hj : ¬ j < 0) (hs : j.toNatClampNeg < cl.slots.size) (h2 : j < hi) : cl.slots[j.toNatClampNeg]? = some (.int v) := by
  have u := Cond.all_elim (et []) hc h j.toNatClampNeg hs
  have u2 := or_f (le_no (Term.int_eval hi) (idx_at hj) h2) u
  exact (elem_f (et _) (idx_at hj) hc hj).symm.trans (eqv_i (Term.int_eval v) u2)
theorem seg_hi {Z : State} {x : Addr} {cl : Cell} {lo v j : Int32} (et : ∀ idx, t.eval args Z none idx Z = some (.ref x)) (hc : Z.arrayAt? x = some cl) (h : (Cond.all t (.or (.lt (.index 0) (.int lo)) (.eq (.elem t (.index 0)) (.int v)))).value args Z none Z [] = some true)
    (hj : ¬ j < 0) (hs : j.toNatClampNeg < cl.slots.size) (h1 : ¬ j < lo) : cl.slots[j.toNatClampNeg]? = some (.int v) := by
  have u := Cond.all_elim (et []) hc h j.toNatClampNeg hs
  have u2 := or_f (lt_no (idx_at hj) (Term.int_eval lo) h1) u
  exact (elem_f (et _) (idx_at hj) hc hj).symm.trans (eqv_i (Term.int_eval v) u2)
theorem elem_1 {Z : State} {x : Addr} {cl : Cell} {v j : Int32} (et : ∀ idx, t.eval args Z none idx Z = some (.ref x)) (hc : Z.arrayAt? x = some cl) (h : (Cond.eq (.elem t (.int j)) (.int v)).value args Z none Z [] = some true) (hj : ¬ j < 0) : cl.slots[j.toNatClampNeg]? = some (.int v) :=
  (elem_f (et _) (Term.int_eval j) hc hj).symm.trans (eqv_i (Term.int_eval v) h)
theorem arr_lt {Z : State} {x : Addr} {cl : Cell} {ty : FieldType} (h : Arr Z Z.heap x cl ty) : x < Z.heap.size := (Array.getElem?_eq_some_iff.mp h.1).1
theorem repo_arr {Z : State} {σ : Nat → Nat} {K : List CD} {x : Addr} {cl : Cell} {ty : FieldType} (A : Arr Z Z.heap x cl ty) (q : cl.slots.size < 2 ^ 31) (hv : ∀ k, k < cl.slots.size → ∃ v : Int32, cl.slots[k]? = some (.int v) ∧ fits ty (.int v) = true) : RepO Z σ K Z.heap x (.inr (ty, cl.slots.toList)) := by
  have hm : ∀ v ∈ cl.slots.toList, ∃ y : Int32, v = .int y ∧ fits ty (.int y) = true := by
    intro v hm
    obtain ⟨k, hk⟩ := List.getElem?_of_mem hm
    rw [Array.getElem?_toList] at hk
    obtain ⟨y, h1, h2⟩ := hv k (Array.getElem?_eq_some_iff.mp hk).1
    cases hk.symm.trans h1
    exact ⟨y, rfl, h2⟩
  refine ⟨cl, A, ?_, by simpa using q, fun v h => ?_, fun h => absurd (arr_lt A) (Nat.not_lt.mpr h)⟩
  · have e : cl.slots.toList.map (cv σ) = cl.slots.toList := by
      rw [List.map_congr_left (g := id) (fun v h => by obtain ⟨y, rfl, -⟩ := hm v h; rfl), List.map_id]
    rw [e]
  · obtain ⟨y, rfl, h2⟩ := hm v h
    exact h2
end Conds
end Jvm.Own
namespace Jvm.Pilot.@@N@@
open Jvm Jvm.ClassFile Sem Op Lib Jvm.Free Jvm.Stand Jvm.LawKit Jvm.RoadKit Bundle Jvm.Own Jvm.Pilot.@@N@@.Jvm.D
theorem k0_0 : dec code 0 = some (.bipush 35) := by decide +kernel
theorem k0_2 : dec code 2 = some (.newarray .int) := by decide +kernel
theorem k0_4 : dec code 4 = some (.dup) := by decide +kernel
theorem k0_5 : dec code 5 = some (.iconst 0) := by decide +kernel
theorem k0_6 : dec code 6 = some (.iconst 0) := by decide +kernel
theorem k0_7 : dec code 7 = some (.iastore) := by decide +kernel
theorem k0_8 : dec code 8 = some (.dup) := by decide +kernel
theorem k0_9 : dec code 9 = some (.iconst 1) := by decide +kernel
theorem k0_10 : dec code 10 = some (.bipush 58) := by decide +kernel
theorem k0_12 : dec code 12 = some (.iastore) := by decide +kernel
theorem k0_13 : dec code 13 = some (.dup) := by decide +kernel
theorem k0_14 : dec code 14 = some (.iconst 2) := by decide +kernel
theorem k0_15 : dec code 15 = some (.bipush 65) := by decide +kernel
theorem k0_17 : dec code 17 = some (.iastore) := by decide +kernel
theorem k0_18 : dec code 18 = some (.dup) := by decide +kernel
theorem k0_19 : dec code 19 = some (.iconst 3) := by decide +kernel
theorem k0_20 : dec code 20 = some (.bipush 90) := by decide +kernel
theorem k0_22 : dec code 22 = some (.iastore) := by decide +kernel
theorem k0_23 : dec code 23 = some (.dup) := by decide +kernel
theorem k0_24 : dec code 24 = some (.iconst 4) := by decide +kernel
theorem k0_25 : dec code 25 = some (.bipush 95) := by decide +kernel
theorem k0_27 : dec code 27 = some (.iastore) := by decide +kernel
theorem k0_28 : dec code 28 = some (.dup) := by decide +kernel
theorem k0_29 : dec code 29 = some (.iconst 5) := by decide +kernel
theorem k0_30 : dec code 30 = some (.bipush 97) := by decide +kernel
theorem k0_32 : dec code 32 = some (.iastore) := by decide +kernel
theorem k0_33 : dec code 33 = some (.dup) := by decide +kernel
theorem k0_34 : dec code 34 = some (.bipush 6) := by decide +kernel
theorem k0_36 : dec code 36 = some (.bipush 122) := by decide +kernel
theorem k0_38 : dec code 38 = some (.iastore) := by decide +kernel
theorem k0_39 : dec code 39 = some (.dup) := by decide +kernel
theorem k0_40 : dec code 40 = some (.bipush 7) := by decide +kernel
theorem k0_42 : dec code 42 = some (.bipush 127) := by decide +kernel
theorem k0_44 : dec code 44 = some (.iastore) := by decide +kernel
theorem k0_45 : dec code 45 = some (.dup) := by decide +kernel
theorem k0_46 : dec code 46 = some (.bipush 8) := by decide +kernel
theorem k0_48 : dec code 48 = some (.sipush 128) := by decide +kernel
theorem k0_51 : dec code 51 = some (.iastore) := by decide +kernel
theorem k0_52 : dec code 52 = some (.dup) := by decide +kernel
theorem k0_53 : dec code 53 = some (.bipush 9) := by decide +kernel
theorem k0_55 : dec code 55 = some (.sipush 192) := by decide +kernel
theorem k0_58 : dec code 58 = some (.iastore) := by decide +kernel
theorem k0_59 : dec code 59 = some (.dup) := by decide +kernel
theorem k0_60 : dec code 60 = some (.bipush 10) := by decide +kernel
theorem k0_62 : dec code 62 = some (.sipush 214) := by decide +kernel
theorem k0_65 : dec code 65 = some (.iastore) := by decide +kernel
theorem k0_66 : dec code 66 = some (.dup) := by decide +kernel
theorem k0_67 : dec code 67 = some (.bipush 11) := by decide +kernel
theorem k0_69 : dec code 69 = some (.sipush 216) := by decide +kernel
theorem k0_72 : dec code 72 = some (.iastore) := by decide +kernel
theorem k0_73 : dec code 73 = some (.dup) := by decide +kernel
theorem k0_74 : dec code 74 = some (.bipush 12) := by decide +kernel
theorem k0_76 : dec code 76 = some (.sipush 246) := by decide +kernel
theorem k0_79 : dec code 79 = some (.iastore) := by decide +kernel
theorem k0_80 : dec code 80 = some (.dup) := by decide +kernel
theorem k0_81 : dec code 81 = some (.bipush 13) := by decide +kernel
theorem k0_83 : dec code 83 = some (.sipush 248) := by decide +kernel
theorem k0_86 : dec code 86 = some (.iastore) := by decide +kernel
theorem k0_87 : dec code 87 = some (.dup) := by decide +kernel
theorem k0_88 : dec code 88 = some (.bipush 14) := by decide +kernel
theorem k0_90 : dec code 90 = some (.sipush 767) := by decide +kernel
theorem k0_93 : dec code 93 = some (.iastore) := by decide +kernel
theorem k0_94 : dec code 94 = some (.dup) := by decide +kernel
theorem k0_95 : dec code 95 = some (.bipush 15) := by decide +kernel
theorem k0_97 : dec code 97 = some (.sipush 880) := by decide +kernel
theorem k0_100 : dec code 100 = some (.iastore) := by decide +kernel
theorem k0_101 : dec code 101 = some (.dup) := by decide +kernel
theorem k0_102 : dec code 102 = some (.bipush 16) := by decide +kernel
theorem k0_104 : dec code 104 = some (.sipush 893) := by decide +kernel
theorem k0_107 : dec code 107 = some (.iastore) := by decide +kernel
theorem k0_108 : dec code 108 = some (.dup) := by decide +kernel
theorem k0_109 : dec code 109 = some (.bipush 17) := by decide +kernel
theorem k0_111 : dec code 111 = some (.sipush 895) := by decide +kernel
theorem k0_114 : dec code 114 = some (.iastore) := by decide +kernel
theorem k0_115 : dec code 115 = some (.dup) := by decide +kernel
theorem k0_116 : dec code 116 = some (.bipush 18) := by decide +kernel
theorem k0_118 : dec code 118 = some (.sipush 8191) := by decide +kernel
theorem k0_121 : dec code 121 = some (.iastore) := by decide +kernel
theorem k0_122 : dec code 122 = some (.dup) := by decide +kernel
theorem k0_123 : dec code 123 = some (.bipush 19) := by decide +kernel
theorem k0_125 : dec code 125 = some (.sipush 8204) := by decide +kernel
theorem k0_128 : dec code 128 = some (.iastore) := by decide +kernel
theorem k0_129 : dec code 129 = some (.dup) := by decide +kernel
theorem k0_130 : dec code 130 = some (.bipush 20) := by decide +kernel
theorem k0_132 : dec code 132 = some (.sipush 8205) := by decide +kernel
theorem k0_135 : dec code 135 = some (.iastore) := by decide +kernel
theorem k0_136 : dec code 136 = some (.dup) := by decide +kernel
theorem k0_137 : dec code 137 = some (.bipush 21) := by decide +kernel
theorem k0_139 : dec code 139 = some (.sipush 8304) := by decide +kernel
theorem k0_142 : dec code 142 = some (.iastore) := by decide +kernel
theorem k0_143 : dec code 143 = some (.dup) := by decide +kernel
theorem k0_144 : dec code 144 = some (.bipush 22) := by decide +kernel
theorem k0_146 : dec code 146 = some (.sipush 8591) := by decide +kernel
theorem k0_149 : dec code 149 = some (.iastore) := by decide +kernel
theorem k0_150 : dec code 150 = some (.dup) := by decide +kernel
theorem k0_151 : dec code 151 = some (.bipush 23) := by decide +kernel
theorem k0_153 : dec code 153 = some (.sipush 11264) := by decide +kernel
theorem k0_156 : dec code 156 = some (.iastore) := by decide +kernel
theorem k0_157 : dec code 157 = some (.dup) := by decide +kernel
theorem k0_158 : dec code 158 = some (.bipush 24) := by decide +kernel
theorem k0_160 : dec code 160 = some (.sipush 12271) := by decide +kernel
theorem k0_163 : dec code 163 = some (.iastore) := by decide +kernel
theorem k0_164 : dec code 164 = some (.dup) := by decide +kernel
theorem k0_165 : dec code 165 = some (.bipush 25) := by decide +kernel
theorem k0_167 : dec code 167 = some (.sipush 12289) := by decide +kernel
theorem k0_170 : dec code 170 = some (.iastore) := by decide +kernel
theorem k0_171 : dec code 171 = some (.dup) := by decide +kernel
theorem k0_172 : dec code 172 = some (.bipush 26) := by decide +kernel
theorem k0_174 : dec code 174 = some (.ldc 24) := by decide +kernel
theorem k0_176 : dec code 176 = some (.iastore) := by decide +kernel
theorem k0_177 : dec code 177 = some (.dup) := by decide +kernel
theorem k0_178 : dec code 178 = some (.bipush 27) := by decide +kernel
theorem k0_180 : dec code 180 = some (.ldc 25) := by decide +kernel
theorem k0_182 : dec code 182 = some (.iastore) := by decide +kernel
theorem k0_183 : dec code 183 = some (.dup) := by decide +kernel
theorem k0_184 : dec code 184 = some (.bipush 28) := by decide +kernel
theorem k0_186 : dec code 186 = some (.ldc 26) := by decide +kernel
theorem k0_188 : dec code 188 = some (.iastore) := by decide +kernel
theorem k0_189 : dec code 189 = some (.dup) := by decide +kernel
theorem k0_190 : dec code 190 = some (.bipush 29) := by decide +kernel
theorem k0_192 : dec code 192 = some (.ldc 27) := by decide +kernel
theorem k0_194 : dec code 194 = some (.iastore) := by decide +kernel
theorem k0_195 : dec code 195 = some (.dup) := by decide +kernel
theorem k0_196 : dec code 196 = some (.bipush 30) := by decide +kernel
theorem k0_198 : dec code 198 = some (.ldc 28) := by decide +kernel
theorem k0_200 : dec code 200 = some (.iastore) := by decide +kernel
theorem k0_201 : dec code 201 = some (.dup) := by decide +kernel
theorem k0_202 : dec code 202 = some (.bipush 31) := by decide +kernel
theorem k0_204 : dec code 204 = some (.ldc 29) := by decide +kernel
theorem k0_206 : dec code 206 = some (.iastore) := by decide +kernel
theorem k0_207 : dec code 207 = some (.dup) := by decide +kernel
theorem k0_208 : dec code 208 = some (.bipush 32) := by decide +kernel
theorem k0_210 : dec code 210 = some (.ldc 19) := by decide +kernel
theorem k0_212 : dec code 212 = some (.iastore) := by decide +kernel
theorem k0_213 : dec code 213 = some (.dup) := by decide +kernel
theorem k0_214 : dec code 214 = some (.bipush 33) := by decide +kernel
theorem k0_216 : dec code 216 = some (.ldc 32) := by decide +kernel
theorem k0_218 : dec code 218 = some (.iastore) := by decide +kernel
theorem k0_219 : dec code 219 = some (.dup) := by decide +kernel
theorem k0_220 : dec code 220 = some (.bipush 34) := by decide +kernel
theorem k0_222 : dec code 222 = some (.ldc 33) := by decide +kernel
theorem k0_224 : dec code 224 = some (.iastore) := by decide +kernel
theorem k0_225 : dec code 225 = some (.astore 4) := by decide +kernel
theorem k0_227 : dec code 227 = some (.iload_n 3) := by decide +kernel
theorem k0_228 : dec code 228 = some (.iconst 1) := by decide +kernel
theorem k0_229 : dec code 229 = some (.iand) := by decide +kernel
theorem k0_230 : dec code 230 = some (.ifCond .eq 9) := by decide +kernel
theorem k0_233 : dec code 233 = some (.iload_n 0) := by decide +kernel
theorem k0_234 : dec code 234 = some (.istore 5) := by decide +kernel
theorem k0_236 : dec code 236 = some (.goto 33) := by decide +kernel
theorem k0_239 : dec code 239 = some (.iload_n 1) := by decide +kernel
theorem k0_240 : dec code 240 = some (.ldc 34) := by decide +kernel
theorem k0_242 : dec code 242 = some (.iand) := by decide +kernel
theorem k0_243 : dec code 243 = some (.aload 4) := by decide +kernel
theorem k0_245 : dec code 245 = some (.arraylength) := by decide +kernel
theorem k0_246 : dec code 246 = some (.irem) := by decide +kernel
theorem k0_247 : dec code 247 = some (.istore 6) := by decide +kernel
theorem k0_249 : dec code 249 = some (.iload_n 2) := by decide +kernel
theorem k0_250 : dec code 250 = some (.ldc 34) := by decide +kernel
theorem k0_252 : dec code 252 = some (.iand) := by decide +kernel
theorem k0_253 : dec code 253 = some (.iconst 5) := by decide +kernel
theorem k0_254 : dec code 254 = some (.irem) := by decide +kernel
theorem k0_255 : dec code 255 = some (.iconst 2) := by decide +kernel
theorem k0_256 : dec code 256 = some (.isub) := by decide +kernel
theorem k0_257 : dec code 257 = some (.istore 7) := by decide +kernel
theorem k0_259 : dec code 259 = some (.aload 4) := by decide +kernel
theorem k0_261 : dec code 261 = some (.iload 6) := by decide +kernel
theorem k0_263 : dec code 263 = some (.iaload) := by decide +kernel
theorem k0_264 : dec code 264 = some (.iload 7) := by decide +kernel
theorem k0_266 : dec code 266 = some (.iadd) := by decide +kernel
theorem k0_267 : dec code 267 = some (.istore 5) := by decide +kernel
theorem k0_269 : dec code 269 = some (.iload 5) := by decide +kernel
theorem k0_271 : dec code 271 = some (.invokestatic 35) := by decide +kernel
theorem k0_274 : dec code 274 = some (.iload 5) := by decide +kernel
theorem k0_276 : dec code 276 = some (.invokestatic 40) := by decide +kernel
theorem k0_279 : dec code 279 = some (.if_icmp .ne 7) := by decide +kernel
theorem k0_282 : dec code 282 = some (.iconst 1) := by decide +kernel
theorem k0_283 : dec code 283 = some (.goto 4) := by decide +kernel
theorem k0_286 : dec code 286 = some (.iconst 0) := by decide +kernel
theorem k0_287 : dec code 287 = some (.ireturn) := by decide +kernel
theorem k1_0 : dec prog_114_method_5_code 0 = some (.iload_n 0) := by decide +kernel
theorem k1_1 : dec prog_114_method_5_code 1 = some (.sipush 128) := by decide +kernel
theorem k1_4 : dec prog_114_method_5_code 4 = some (.if_icmp .ge 24) := by decide +kernel
theorem k1_7 : dec prog_114_method_5_code 7 = some (.iload_n 0) := by decide +kernel
theorem k1_8 : dec prog_114_method_5_code 8 = some (.ifCond .lt 15) := by decide +kernel
theorem k1_11 : dec prog_114_method_5_code 11 = some (.getstatic 7) := by decide +kernel
theorem k1_14 : dec prog_114_method_5_code 14 = some (.iload_n 0) := by decide +kernel
theorem k1_15 : dec prog_114_method_5_code 15 = some (.baload) := by decide +kernel
theorem k1_16 : dec prog_114_method_5_code 16 = some (.ifCond .eq 7) := by decide +kernel
theorem k1_19 : dec prog_114_method_5_code 19 = some (.iconst 1) := by decide +kernel
theorem k1_20 : dec prog_114_method_5_code 20 = some (.goto 4) := by decide +kernel
theorem k1_23 : dec prog_114_method_5_code 23 = some (.iconst 0) := by decide +kernel
theorem k1_24 : dec prog_114_method_5_code 24 = some (.istore_n 1) := by decide +kernel
theorem k1_25 : dec prog_114_method_5_code 25 = some (.goto 170) := by decide +kernel
theorem k1_28 : dec prog_114_method_5_code 28 = some (.iload_n 0) := by decide +kernel
theorem k1_29 : dec prog_114_method_5_code 29 = some (.sipush 192) := by decide +kernel
theorem k1_32 : dec prog_114_method_5_code 32 = some (.if_icmp .lt 10) := by decide +kernel
theorem k1_35 : dec prog_114_method_5_code 35 = some (.iload_n 0) := by decide +kernel
theorem k1_36 : dec prog_114_method_5_code 36 = some (.sipush 214) := by decide +kernel
theorem k1_39 : dec prog_114_method_5_code 39 = some (.if_icmp .le 150) := by decide +kernel
theorem k1_42 : dec prog_114_method_5_code 42 = some (.iload_n 0) := by decide +kernel
theorem k1_43 : dec prog_114_method_5_code 43 = some (.sipush 216) := by decide +kernel
theorem k1_46 : dec prog_114_method_5_code 46 = some (.if_icmp .lt 10) := by decide +kernel
theorem k1_49 : dec prog_114_method_5_code 49 = some (.iload_n 0) := by decide +kernel
theorem k1_50 : dec prog_114_method_5_code 50 = some (.sipush 246) := by decide +kernel
theorem k1_53 : dec prog_114_method_5_code 53 = some (.if_icmp .le 136) := by decide +kernel
theorem k1_56 : dec prog_114_method_5_code 56 = some (.iload_n 0) := by decide +kernel
theorem k1_57 : dec prog_114_method_5_code 57 = some (.sipush 248) := by decide +kernel
theorem k1_60 : dec prog_114_method_5_code 60 = some (.if_icmp .lt 10) := by decide +kernel
theorem k1_63 : dec prog_114_method_5_code 63 = some (.iload_n 0) := by decide +kernel
theorem k1_64 : dec prog_114_method_5_code 64 = some (.sipush 767) := by decide +kernel
theorem k1_67 : dec prog_114_method_5_code 67 = some (.if_icmp .le 122) := by decide +kernel
theorem k1_70 : dec prog_114_method_5_code 70 = some (.iload_n 0) := by decide +kernel
theorem k1_71 : dec prog_114_method_5_code 71 = some (.sipush 880) := by decide +kernel
theorem k1_74 : dec prog_114_method_5_code 74 = some (.if_icmp .lt 10) := by decide +kernel
theorem k1_77 : dec prog_114_method_5_code 77 = some (.iload_n 0) := by decide +kernel
theorem k1_78 : dec prog_114_method_5_code 78 = some (.sipush 893) := by decide +kernel
theorem k1_81 : dec prog_114_method_5_code 81 = some (.if_icmp .le 108) := by decide +kernel
theorem k1_84 : dec prog_114_method_5_code 84 = some (.iload_n 0) := by decide +kernel
theorem k1_85 : dec prog_114_method_5_code 85 = some (.sipush 895) := by decide +kernel
theorem k1_88 : dec prog_114_method_5_code 88 = some (.if_icmp .lt 10) := by decide +kernel
theorem k1_91 : dec prog_114_method_5_code 91 = some (.iload_n 0) := by decide +kernel
theorem k1_92 : dec prog_114_method_5_code 92 = some (.sipush 8191) := by decide +kernel
theorem k1_95 : dec prog_114_method_5_code 95 = some (.if_icmp .le 94) := by decide +kernel
theorem k1_98 : dec prog_114_method_5_code 98 = some (.iload_n 0) := by decide +kernel
theorem k1_99 : dec prog_114_method_5_code 99 = some (.sipush 8204) := by decide +kernel
theorem k1_102 : dec prog_114_method_5_code 102 = some (.if_icmp .eq 87) := by decide +kernel
theorem k1_105 : dec prog_114_method_5_code 105 = some (.iload_n 0) := by decide +kernel
theorem k1_106 : dec prog_114_method_5_code 106 = some (.sipush 8205) := by decide +kernel
theorem k1_109 : dec prog_114_method_5_code 109 = some (.if_icmp .eq 80) := by decide +kernel
theorem k1_112 : dec prog_114_method_5_code 112 = some (.iload_n 0) := by decide +kernel
theorem k1_113 : dec prog_114_method_5_code 113 = some (.sipush 8304) := by decide +kernel
theorem k1_116 : dec prog_114_method_5_code 116 = some (.if_icmp .lt 10) := by decide +kernel
theorem k1_119 : dec prog_114_method_5_code 119 = some (.iload_n 0) := by decide +kernel
theorem k1_120 : dec prog_114_method_5_code 120 = some (.sipush 8591) := by decide +kernel
theorem k1_123 : dec prog_114_method_5_code 123 = some (.if_icmp .le 66) := by decide +kernel
theorem k1_126 : dec prog_114_method_5_code 126 = some (.iload_n 0) := by decide +kernel
theorem k1_127 : dec prog_114_method_5_code 127 = some (.sipush 11264) := by decide +kernel
theorem k1_130 : dec prog_114_method_5_code 130 = some (.if_icmp .lt 10) := by decide +kernel
theorem k1_133 : dec prog_114_method_5_code 133 = some (.iload_n 0) := by decide +kernel
theorem k1_134 : dec prog_114_method_5_code 134 = some (.sipush 12271) := by decide +kernel
theorem k1_137 : dec prog_114_method_5_code 137 = some (.if_icmp .le 52) := by decide +kernel
theorem k1_140 : dec prog_114_method_5_code 140 = some (.iload_n 0) := by decide +kernel
theorem k1_141 : dec prog_114_method_5_code 141 = some (.sipush 12289) := by decide +kernel
theorem k1_144 : dec prog_114_method_5_code 144 = some (.if_icmp .lt 9) := by decide +kernel
theorem k1_147 : dec prog_114_method_5_code 147 = some (.iload_n 0) := by decide +kernel
theorem k1_148 : dec prog_114_method_5_code 148 = some (.ldc 16) := by decide +kernel
theorem k1_150 : dec prog_114_method_5_code 150 = some (.if_icmp .le 39) := by decide +kernel
theorem k1_153 : dec prog_114_method_5_code 153 = some (.iload_n 0) := by decide +kernel
theorem k1_154 : dec prog_114_method_5_code 154 = some (.ldc 21) := by decide +kernel
theorem k1_156 : dec prog_114_method_5_code 156 = some (.if_icmp .lt 9) := by decide +kernel
theorem k1_159 : dec prog_114_method_5_code 159 = some (.iload_n 0) := by decide +kernel
theorem k1_160 : dec prog_114_method_5_code 160 = some (.ldc 22) := by decide +kernel
theorem k1_162 : dec prog_114_method_5_code 162 = some (.if_icmp .le 27) := by decide +kernel
theorem k1_165 : dec prog_114_method_5_code 165 = some (.iload_n 0) := by decide +kernel
theorem k1_166 : dec prog_114_method_5_code 166 = some (.ldc 23) := by decide +kernel
theorem k1_168 : dec prog_114_method_5_code 168 = some (.if_icmp .lt 9) := by decide +kernel
theorem k1_171 : dec prog_114_method_5_code 171 = some (.iload_n 0) := by decide +kernel
theorem k1_172 : dec prog_114_method_5_code 172 = some (.ldc 18) := by decide +kernel
theorem k1_174 : dec prog_114_method_5_code 174 = some (.if_icmp .le 15) := by decide +kernel
theorem k1_177 : dec prog_114_method_5_code 177 = some (.iload_n 0) := by decide +kernel
theorem k1_178 : dec prog_114_method_5_code 178 = some (.ldc 19) := by decide +kernel
theorem k1_180 : dec prog_114_method_5_code 180 = some (.if_icmp .lt 13) := by decide +kernel
theorem k1_183 : dec prog_114_method_5_code 183 = some (.iload_n 0) := by decide +kernel
theorem k1_184 : dec prog_114_method_5_code 184 = some (.ldc 24) := by decide +kernel
theorem k1_186 : dec prog_114_method_5_code 186 = some (.if_icmp .gt 7) := by decide +kernel
theorem k1_189 : dec prog_114_method_5_code 189 = some (.iconst 1) := by decide +kernel
theorem k1_190 : dec prog_114_method_5_code 190 = some (.goto 4) := by decide +kernel
theorem k1_193 : dec prog_114_method_5_code 193 = some (.iconst 0) := by decide +kernel
theorem k1_194 : dec prog_114_method_5_code 194 = some (.istore_n 1) := by decide +kernel
theorem k1_195 : dec prog_114_method_5_code 195 = some (.iload_n 1) := by decide +kernel
theorem k1_196 : dec prog_114_method_5_code 196 = some (.ireturn) := by decide +kernel
theorem k2_0 : dec method_4_code 0 = some (.iload_n 0) := by decide +kernel
theorem k2_1 : dec method_4_code 1 = some (.iconst 0) := by decide +kernel
theorem k2_2 : dec method_4_code 2 = some (.ldc 19) := by decide +kernel
theorem k2_4 : dec method_4_code 4 = some (.invokestatic 7) := by decide +kernel
theorem k2_7 : dec method_4_code 7 = some (.ifCond .eq 14) := by decide +kernel
theorem k2_10 : dec method_4_code 10 = some (.iload_n 0) := by decide +kernel
theorem k2_11 : dec method_4_code 11 = some (.invokestatic 20) := by decide +kernel
theorem k2_14 : dec method_4_code 14 = some (.ifCond .ne 7) := by decide +kernel
theorem k2_17 : dec method_4_code 17 = some (.iconst 1) := by decide +kernel
theorem k2_18 : dec method_4_code 18 = some (.goto 4) := by decide +kernel
theorem k2_21 : dec method_4_code 21 = some (.iconst 0) := by decide +kernel
theorem k2_22 : dec method_4_code 22 = some (.ireturn) := by decide +kernel
theorem k3_0 : dec method_2_code 0 = some (.iload_n 0) := by decide +kernel
theorem k3_1 : dec method_2_code 1 = some (.iload_n 1) := by decide +kernel
theorem k3_2 : dec method_2_code 2 = some (.if_icmp .lt 12) := by decide +kernel
theorem k3_5 : dec method_2_code 5 = some (.iload_n 0) := by decide +kernel
theorem k3_6 : dec method_2_code 6 = some (.iload_n 2) := by decide +kernel
theorem k3_7 : dec method_2_code 7 = some (.if_icmp .gt 7) := by decide +kernel
theorem k3_10 : dec method_2_code 10 = some (.iconst 1) := by decide +kernel
theorem k3_11 : dec method_2_code 11 = some (.goto 4) := by decide +kernel
theorem k3_14 : dec method_2_code 14 = some (.iconst 0) := by decide +kernel
theorem k3_15 : dec method_2_code 15 = some (.ireturn) := by decide +kernel
theorem k4_0 : dec method_3_code 0 = some (.iload_n 0) := by decide +kernel
theorem k4_1 : dec method_3_code 1 = some (.iconst 0) := by decide +kernel
theorem k4_2 : dec method_3_code 2 = some (.bipush 57) := by decide +kernel
theorem k4_4 : dec method_3_code 4 = some (.invokestatic 7) := by decide +kernel
theorem k4_7 : dec method_3_code 7 = some (.ifCond .ne 162) := by decide +kernel
theorem k4_10 : dec method_3_code 10 = some (.iload_n 0) := by decide +kernel
theorem k4_11 : dec method_3_code 11 = some (.bipush 59) := by decide +kernel
theorem k4_13 : dec method_3_code 13 = some (.bipush 64) := by decide +kernel
theorem k4_15 : dec method_3_code 15 = some (.invokestatic 7) := by decide +kernel
theorem k4_18 : dec method_3_code 18 = some (.ifCond .ne 151) := by decide +kernel
theorem k4_21 : dec method_3_code 21 = some (.iload_n 0) := by decide +kernel
theorem k4_22 : dec method_3_code 22 = some (.bipush 91) := by decide +kernel
theorem k4_24 : dec method_3_code 24 = some (.bipush 94) := by decide +kernel
theorem k4_26 : dec method_3_code 26 = some (.invokestatic 7) := by decide +kernel
theorem k4_29 : dec method_3_code 29 = some (.ifCond .ne 140) := by decide +kernel
theorem k4_32 : dec method_3_code 32 = some (.iload_n 0) := by decide +kernel
theorem k4_33 : dec method_3_code 33 = some (.bipush 96) := by decide +kernel
theorem k4_35 : dec method_3_code 35 = some (.if_icmp .eq 134) := by decide +kernel
theorem k4_38 : dec method_3_code 38 = some (.iload_n 0) := by decide +kernel
theorem k4_39 : dec method_3_code 39 = some (.bipush 123) := by decide +kernel
theorem k4_41 : dec method_3_code 41 = some (.sipush 191) := by decide +kernel
theorem k4_44 : dec method_3_code 44 = some (.invokestatic 7) := by decide +kernel
theorem k4_47 : dec method_3_code 47 = some (.ifCond .ne 122) := by decide +kernel
theorem k4_50 : dec method_3_code 50 = some (.iload_n 0) := by decide +kernel
theorem k4_51 : dec method_3_code 51 = some (.sipush 215) := by decide +kernel
theorem k4_54 : dec method_3_code 54 = some (.if_icmp .eq 115) := by decide +kernel
theorem k4_57 : dec method_3_code 57 = some (.iload_n 0) := by decide +kernel
theorem k4_58 : dec method_3_code 58 = some (.sipush 247) := by decide +kernel
theorem k4_61 : dec method_3_code 61 = some (.if_icmp .eq 108) := by decide +kernel
theorem k4_64 : dec method_3_code 64 = some (.iload_n 0) := by decide +kernel
theorem k4_65 : dec method_3_code 65 = some (.sipush 768) := by decide +kernel
theorem k4_68 : dec method_3_code 68 = some (.sipush 879) := by decide +kernel
theorem k4_71 : dec method_3_code 71 = some (.invokestatic 7) := by decide +kernel
theorem k4_74 : dec method_3_code 74 = some (.ifCond .ne 95) := by decide +kernel
theorem k4_77 : dec method_3_code 77 = some (.iload_n 0) := by decide +kernel
theorem k4_78 : dec method_3_code 78 = some (.sipush 894) := by decide +kernel
theorem k4_81 : dec method_3_code 81 = some (.if_icmp .eq 88) := by decide +kernel
theorem k4_84 : dec method_3_code 84 = some (.iload_n 0) := by decide +kernel
theorem k4_85 : dec method_3_code 85 = some (.sipush 8192) := by decide +kernel
theorem k4_88 : dec method_3_code 88 = some (.sipush 8203) := by decide +kernel
theorem k4_91 : dec method_3_code 91 = some (.invokestatic 7) := by decide +kernel
theorem k4_94 : dec method_3_code 94 = some (.ifCond .ne 75) := by decide +kernel
theorem k4_97 : dec method_3_code 97 = some (.iload_n 0) := by decide +kernel
theorem k4_98 : dec method_3_code 98 = some (.sipush 8206) := by decide +kernel
theorem k4_101 : dec method_3_code 101 = some (.sipush 8303) := by decide +kernel
theorem k4_104 : dec method_3_code 104 = some (.invokestatic 7) := by decide +kernel
theorem k4_107 : dec method_3_code 107 = some (.ifCond .ne 62) := by decide +kernel
theorem k4_110 : dec method_3_code 110 = some (.iload_n 0) := by decide +kernel
theorem k4_111 : dec method_3_code 111 = some (.sipush 8592) := by decide +kernel
theorem k4_114 : dec method_3_code 114 = some (.sipush 11263) := by decide +kernel
theorem k4_117 : dec method_3_code 117 = some (.invokestatic 7) := by decide +kernel
theorem k4_120 : dec method_3_code 120 = some (.ifCond .ne 49) := by decide +kernel
theorem k4_123 : dec method_3_code 123 = some (.iload_n 0) := by decide +kernel
theorem k4_124 : dec method_3_code 124 = some (.sipush 12272) := by decide +kernel
theorem k4_127 : dec method_3_code 127 = some (.sipush 12288) := by decide +kernel
theorem k4_130 : dec method_3_code 130 = some (.invokestatic 7) := by decide +kernel
theorem k4_133 : dec method_3_code 133 = some (.ifCond .ne 36) := by decide +kernel
theorem k4_136 : dec method_3_code 136 = some (.iload_n 0) := by decide +kernel
theorem k4_137 : dec method_3_code 137 = some (.ldc 13) := by decide +kernel
theorem k4_139 : dec method_3_code 139 = some (.ldc 14) := by decide +kernel
theorem k4_141 : dec method_3_code 141 = some (.invokestatic 7) := by decide +kernel
theorem k4_144 : dec method_3_code 144 = some (.ifCond .ne 25) := by decide +kernel
theorem k4_147 : dec method_3_code 147 = some (.iload_n 0) := by decide +kernel
theorem k4_148 : dec method_3_code 148 = some (.ldc 15) := by decide +kernel
theorem k4_150 : dec method_3_code 150 = some (.ldc 16) := by decide +kernel
theorem k4_152 : dec method_3_code 152 = some (.invokestatic 7) := by decide +kernel
theorem k4_155 : dec method_3_code 155 = some (.ifCond .ne 14) := by decide +kernel
theorem k4_158 : dec method_3_code 158 = some (.iload_n 0) := by decide +kernel
theorem k4_159 : dec method_3_code 159 = some (.ldc 17) := by decide +kernel
theorem k4_161 : dec method_3_code 161 = some (.ldc 18) := by decide +kernel
theorem k4_163 : dec method_3_code 163 = some (.invokestatic 7) := by decide +kernel
theorem k4_166 : dec method_3_code 166 = some (.ifCond .eq 7) := by decide +kernel
theorem k4_169 : dec method_3_code 169 = some (.iconst 1) := by decide +kernel
theorem k4_170 : dec method_3_code 170 = some (.goto 4) := by decide +kernel
theorem k4_173 : dec method_3_code 173 = some (.iconst 0) := by decide +kernel
theorem k4_174 : dec method_3_code 174 = some (.ireturn) := by decide +kernel
def K : List CD := []
theorem kok {Z : State} {a0 : Array Value} (hw : ∀ d ∈ tables_1, d.before a0 Z = true) : KOk Z a0 K := by
  intro c C fs h
  cases h
def OwnSta (Z : State) (σ : Nat → Nat) : Prop := Sta Z Z.heap "com/example/tariffwire/tariffwire/xml/XmlChars" "ASCII_NAME_START" "[Z" (.ref (σ 0))
/-! body 1: XmlChars.isNameStart(I)Z -/
def E1 : List (Nat × Nat × Act) := [(5, 7, aSta (.ref 0)), (0, 16, aI (55295)), (0, 21, aI (63744)), (0, 22, aI (64975)), (0, 23, aI (65008)), (0, 18, aI (65533)), (0, 19, aI (65536)), (0, 24, aI (983039))]
def F1 : List Value → AH → Option ORes := fn prog_114_method_5_code 2 (Option.some Jvm.ClassFile.FieldType.boolean) E1 1 224
def r1 : Room := { frames := 0, cells := 0, slots := 0, locals := 0 }
theorem says1 (l : Launch) {Z : State} {a0 : Array Value} {σ : Nat → Nat} {n0 : Nat} (hsg : Sg σ 1 n0) (hw : ∀ d ∈ tables_1, d.before a0 Z = true) (hst : OwnSta Z σ) : Says l Z σ 1 n0 K (⟨"com/example/tariffwire/tariffwire/xml/XmlChars", "isNameStart", "(I)Z"⟩ : MethodName) prog_114_method_5_code 2 (Option.some Jvm.ClassFile.FieldType.boolean) [] r1 F1 :=
  says_fn hsg (plainFor_of_name (by first | (simp [plainName, overriddenIn]; done) | decide +kernel)) fun p e s m args below meth c hx hby hml hZ hown hnm => ag_cons (okSta hx hZ hown (hw _ (List.mem_of_getElem? (i := 14) rfl)) Via.refl hst) <| ag_cons (okI hx hZ hown (hw _ (List.mem_of_getElem? (i := 36) rfl))) <| ag_cons (okI hx hZ hown (hw _ (List.mem_of_getElem? (i := 33) rfl))) <| ag_cons (okI hx hZ hown (hw _ (List.mem_of_getElem? (i := 37) rfl))) <| ag_cons (okI hx hZ hown (hw _ (List.mem_of_getElem? (i := 34) rfl))) <| ag_cons (okI hx hZ hown (hw _ (List.mem_of_getElem? (i := 38) rfl))) <| ag_cons (okI hx hZ hown (hw _ (List.mem_of_getElem? (i := 35) rfl))) <| ag_cons (okI hx hZ hown (hw _ (List.mem_of_getElem? (i := 39) rfl))) <| ag_nil
/-! body 3: XmlCharsIsNameStartPinLaw.in(III)Z -/
def E3 : List (Nat × Nat × Act) := []
def F3 : List Value → AH → Option ORes := fn method_2_code 3 (Option.some Jvm.ClassFile.FieldType.boolean) E3 1 60
def r3 : Room := { frames := 0, cells := 0, slots := 0, locals := 0 }
theorem says3 (l : Launch) {Z : State} {a0 : Array Value} {σ : Nat → Nat} {n0 : Nat} (hsg : Sg σ 1 n0) (hw : ∀ d ∈ tables_1, d.before a0 Z = true) (hst : OwnSta Z σ) : Says l Z σ 1 n0 K (⟨"com/example/tariffwire/tariffwire/xml/XmlCharsIsNameStartPinLaw", "in", "(III)Z"⟩ : MethodName) method_2_code 3 (Option.some Jvm.ClassFile.FieldType.boolean) [] r3 F3 :=
  says_fn hsg (plainFor_of_name (by first | (simp [plainName, overriddenIn]; done) | decide +kernel)) fun p e s m args below meth c hx hby hml hZ hown hnm => ag_nil
/-! body 4: XmlCharsIsNameStartPinLaw.gap(I)Z -/
def E4 : List (Nat × Nat × Act) := [(7, 7, aCall 3 6 0 0 0 0 F3), (0, 13, aI (55296)), (0, 14, aI (63743)), (0, 15, aI (64976)), (0, 16, aI (65007)), (0, 17, aI (65534)), (0, 18, aI (65535))]
def F4 : List Value → AH → Option ORes := fn method_3_code 1 (Option.some Jvm.ClassFile.FieldType.boolean) E4 1 192
def r4 : Room := { frames := 1, cells := 0, slots := 0, locals := 20 }
theorem says4 (l : Launch) {Z : State} {a0 : Array Value} {σ : Nat → Nat} {n0 : Nat} (hsg : Sg σ 1 n0) (hw : ∀ d ∈ tables_1, d.before a0 Z = true) (hst : OwnSta Z σ) : Says l Z σ 1 n0 K (⟨"com/example/tariffwire/tariffwire/xml/XmlCharsIsNameStartPinLaw", "gap", "(I)Z"⟩ : MethodName) method_3_code 1 (Option.some Jvm.ClassFile.FieldType.boolean) [] r4 F4 :=
  says_fn hsg (plainFor_of_name (by first | (simp [plainName, overriddenIn]; done) | decide +kernel)) fun p e s m args below meth c hx hby hml hZ hown hnm => ag_cons (okStat (W := 6) hx hZ (says3 l hsg hw hst) hown (hw _ (List.mem_of_getElem? (i := 20) rfl)) (hw _ (List.mem_of_getElem? (i := 21) rfl)) (hw _ (List.mem_of_getElem? (i := 18) rfl)) (hw _ (List.mem_of_getElem? (i := 22) rfl)) (by decide) (by decide +kernel : parseMethodDescriptor "(III)Z" = some ⟨[.int, .int, .int], some .boolean⟩) rfl (by decide) (by decide) (by decide) (by decide)) <| ag_cons (okI hx hZ hown (hw _ (List.mem_of_getElem? (i := 27) rfl))) <| ag_cons (okI hx hZ hown (hw _ (List.mem_of_getElem? (i := 28) rfl))) <| ag_cons (okI hx hZ hown (hw _ (List.mem_of_getElem? (i := 29) rfl))) <| ag_cons (okI hx hZ hown (hw _ (List.mem_of_getElem? (i := 30) rfl))) <| ag_cons (okI hx hZ hown (hw _ (List.mem_of_getElem? (i := 31) rfl))) <| ag_cons (okI hx hZ hown (hw _ (List.mem_of_getElem? (i := 32) rfl))) <| ag_nil
/-! body 2: XmlCharsIsNameStartPinLaw.reference(I)Z -/
def E2 : List (Nat × Nat × Act) := [(0, 19, aI (983039)), (7, 7, aCall 3 6 0 0 0 0 F3), (7, 20, aCall 1 6 0 0 0 0 F4)]
def F2 : List Value → AH → Option ORes := fn method_4_code 1 (Option.some Jvm.ClassFile.FieldType.boolean) E2 1 64
def r2 : Room := { frames := 2, cells := 0, slots := 0, locals := 38 }
theorem says2 (l : Launch) {Z : State} {a0 : Array Value} {σ : Nat → Nat} {n0 : Nat} (hsg : Sg σ 1 n0) (hw : ∀ d ∈ tables_1, d.before a0 Z = true) (hst : OwnSta Z σ) : Says l Z σ 1 n0 K (⟨"com/example/tariffwire/tariffwire/xml/XmlCharsIsNameStartPinLaw", "reference", "(I)Z"⟩ : MethodName) method_4_code 1 (Option.some Jvm.ClassFile.FieldType.boolean) [] r2 F2 :=
  says_fn hsg (plainFor_of_name (by first | (simp [plainName, overriddenIn]; done) | decide +kernel)) fun p e s m args below meth c hx hby hml hZ hown hnm => ag_cons (okI hx hZ hown (hw _ (List.mem_of_getElem? (i := 7) rfl))) <| ag_cons (okStat (W := 6) hx hZ (says3 l hsg hw hst) hown (hw _ (List.mem_of_getElem? (i := 20) rfl)) (hw _ (List.mem_of_getElem? (i := 21) rfl)) (hw _ (List.mem_of_getElem? (i := 18) rfl)) (hw _ (List.mem_of_getElem? (i := 22) rfl)) (by decide) (by decide +kernel : parseMethodDescriptor "(III)Z" = some ⟨[.int, .int, .int], some .boolean⟩) rfl (by decide) (by decide) (by decide) (by decide)) <| ag_cons (okStat (W := 6) hx hZ (says4 l hsg hw hst) hown (hw _ (List.mem_of_getElem? (i := 23) rfl)) (hw _ (List.mem_of_getElem? (i := 24) rfl)) (hw _ (List.mem_of_getElem? (i := 18) rfl)) (hw _ (List.mem_of_getElem? (i := 25) rfl)) (by decide) (by decide +kernel : parseMethodDescriptor "(I)Z" = some ⟨[.int], some .boolean⟩) rfl (by decide) (by decide) (by decide) (by decide)) <| ag_nil
/-! body 0: XmlCharsIsNameStartPinLaw.law(IIII)Z -/
def E0 : List (Nat × Nat × Act) := [(13, 6, aArr .int 16 192), (0, 24, aI (55295)), (0, 25, aI (63744)), (0, 26, aI (64975)), (0, 27, aI (65008)), (0, 28, aI (65533)), (0, 29, aI (65536)), (0, 19, aI (983039)), (0, 32, aI (-2147483646)), (0, 33, aI (2147483645)), (0, 34, aI (2147483647)), (7, 35, aCall 1 6 16 192 0 0 F1), (7, 40, aCall 1 6 16 192 0 0 F2)]
def F0 : List Value → AH → Option ORes := fn code maxLocals ret E0 1 400
theorem says0 (l : Launch) {Z : State} {a0 : Array Value} {σ : Nat → Nat} {n0 : Nat} (hsg : Sg σ 1 n0) (hw : ∀ d ∈ tables_1, d.before a0 Z = true) (hst : OwnSta Z σ) : Says l Z σ 1 n0 K x code maxLocals ret tables_1 room_1 F0 :=
  says_fn hsg (plainFor_of_name (by first | (simp [x, plainName, overriddenIn]; done) | decide +kernel)) fun p e s m args below meth c hx hby hml hZ hown hnm => ag_cons (okArr (t := .int) hx hZ hsg (hw _ (List.mem_of_getElem? (i := 0) rfl)) (by decide) (by decide)) <| ag_cons (okI hx hZ hown (hw _ (List.mem_of_getElem? (i := 1) rfl))) <| ag_cons (okI hx hZ hown (hw _ (List.mem_of_getElem? (i := 2) rfl))) <| ag_cons (okI hx hZ hown (hw _ (List.mem_of_getElem? (i := 3) rfl))) <| ag_cons (okI hx hZ hown (hw _ (List.mem_of_getElem? (i := 4) rfl))) <| ag_cons (okI hx hZ hown (hw _ (List.mem_of_getElem? (i := 5) rfl))) <| ag_cons (okI hx hZ hown (hw _ (List.mem_of_getElem? (i := 6) rfl))) <| ag_cons (okI hx hZ hown (hw _ (List.mem_of_getElem? (i := 7) rfl))) <| ag_cons (okI hx hZ hown (hw _ (List.mem_of_getElem? (i := 8) rfl))) <| ag_cons (okI hx hZ hown (hw _ (List.mem_of_getElem? (i := 9) rfl))) <| ag_cons (okI hx hZ hown (hw _ (List.mem_of_getElem? (i := 26) rfl))) <| ag_cons (okStat (W := 6) hx hZ (says1 l hsg hw hst) hown (hw _ (List.mem_of_getElem? (i := 10) rfl)) (hw _ (List.mem_of_getElem? (i := 11) rfl)) (hw _ (List.mem_of_getElem? (i := 12) rfl)) (hw _ (List.mem_of_getElem? (i := 13) rfl)) (by decide) (by decide +kernel : parseMethodDescriptor "(I)Z" = some ⟨[.int], some .boolean⟩) rfl (by decide) (by decide) (by decide) (by decide)) <| ag_cons (okStat (W := 6) hx hZ (says2 l hsg hw hst) hown (hw _ (List.mem_of_getElem? (i := 16) rfl)) (hw _ (List.mem_of_getElem? (i := 17) rfl)) (hw _ (List.mem_of_getElem? (i := 18) rfl)) (hw _ (List.mem_of_getElem? (i := 19) rfl)) (by decide) (by decide +kernel : parseMethodDescriptor "(I)Z" = some ⟨[.int], some .boolean⟩) rfl (by decide) (by decide) (by decide) (by decide)) <| ag_nil
theorem f1_in {x0 : Int32} {H : AH} : F1 [.int x0] H = orun prog_114_method_5_code (Option.some Jvm.ClassFile.FieldType.boolean) E1 1 224 (0, [.val (.int x0), .unset], [], H, 0, 0) := rfl
theorem s1_0 {n cs ss : Nat} {L : List Slot} {S : List Value} {H : AH} : orun prog_114_method_5_code (Option.some Jvm.ClassFile.FieldType.boolean) E1 1 (n + 1) (0, L, S, H, cs, ss) = (gI L 0).bind fun v => orun prog_114_method_5_code (Option.some Jvm.ClassFile.FieldType.boolean) E1 1 n (1, L, .int v :: S, H, cs, ss) := s_any k1_0
theorem s1_1 {n cs ss : Nat} {L : List Slot} {S : List Value} {H : AH} : orun prog_114_method_5_code (Option.some Jvm.ClassFile.FieldType.boolean) E1 1 (n + 1) (1, L, S, H, cs, ss) = orun prog_114_method_5_code (Option.some Jvm.ClassFile.FieldType.boolean) E1 1 n (4, L, (.int 128 :: S), H, cs, ss) := s_any k1_1
theorem s1_4 {n cs ss : Nat} {L : List Slot} {S : List Value} {H : AH} : orun prog_114_method_5_code (Option.some Jvm.ClassFile.FieldType.boolean) E1 1 (n + 1) (4, L, S, H, cs, ss) = pI S fun y S => pI S fun x r => if x < y then orun prog_114_method_5_code (Option.some Jvm.ClassFile.FieldType.boolean) E1 1 n (7, L, r, H, cs, ss) else orun prog_114_method_5_code (Option.some Jvm.ClassFile.FieldType.boolean) E1 1 n (28, L, r, H, cs, ss) := s_icmpN (Q := fun x y => x < y) (fun _ _ => h_ge) k1_4 (by decide) (by decide)
theorem s1_7 {n cs ss : Nat} {L : List Slot} {S : List Value} {H : AH} : orun prog_114_method_5_code (Option.some Jvm.ClassFile.FieldType.boolean) E1 1 (n + 1) (7, L, S, H, cs, ss) = (gI L 0).bind fun v => orun prog_114_method_5_code (Option.some Jvm.ClassFile.FieldType.boolean) E1 1 n (8, L, .int v :: S, H, cs, ss) := s_any k1_7
theorem s1_8 {n cs ss : Nat} {L : List Slot} {S : List Value} {H : AH} : orun prog_114_method_5_code (Option.some Jvm.ClassFile.FieldType.boolean) E1 1 (n + 1) (8, L, S, H, cs, ss) = pI S fun x r => if x < 0 then orun prog_114_method_5_code (Option.some Jvm.ClassFile.FieldType.boolean) E1 1 n (23, L, r, H, cs, ss) else orun prog_114_method_5_code (Option.some Jvm.ClassFile.FieldType.boolean) E1 1 n (11, L, r, H, cs, ss) := s_if (Q := fun x => x < 0) (fun _ => z_lt) k1_8 (by decide) (by decide)
theorem s1_11 {n cs ss : Nat} {L : List Slot} {S : List Value} {H : AH} : orun prog_114_method_5_code (Option.some Jvm.ClassFile.FieldType.boolean) E1 1 (n + 1) (11, L, S, H, cs, ss) = (aSta (.ref 0) S H cs ss).bind fun r => orun prog_114_method_5_code (Option.some Jvm.ClassFile.FieldType.boolean) E1 1 n (14, L, r.1, r.2.1, r.2.2.1, r.2.2.2) := s_any k1_11
theorem s1_14 {n cs ss : Nat} {L : List Slot} {S : List Value} {H : AH} : orun prog_114_method_5_code (Option.some Jvm.ClassFile.FieldType.boolean) E1 1 (n + 1) (14, L, S, H, cs, ss) = (gI L 0).bind fun v => orun prog_114_method_5_code (Option.some Jvm.ClassFile.FieldType.boolean) E1 1 n (15, L, .int v :: S, H, cs, ss) := s_any k1_14
theorem s1_15 {n cs ss : Nat} {L : List Slot} {S : List Value} {H : AH} : orun prog_114_method_5_code (Option.some Jvm.ClassFile.FieldType.boolean) E1 1 (n + 1) (15, L, S, H, cs, ss) = ex (Option.some Jvm.ClassFile.FieldType.boolean) E1 1 (orun prog_114_method_5_code (Option.some Jvm.ClassFile.FieldType.boolean) E1 1 n) (.baload) 15 L S H cs ss := s_any k1_15
theorem s1_16 {n cs ss : Nat} {L : List Slot} {S : List Value} {H : AH} : orun prog_114_method_5_code (Option.some Jvm.ClassFile.FieldType.boolean) E1 1 (n + 1) (16, L, S, H, cs, ss) = pI S fun x r => if x = 0 then orun prog_114_method_5_code (Option.some Jvm.ClassFile.FieldType.boolean) E1 1 n (23, L, r, H, cs, ss) else orun prog_114_method_5_code (Option.some Jvm.ClassFile.FieldType.boolean) E1 1 n (19, L, r, H, cs, ss) := s_if (Q := fun x => x = 0) (fun _ => z_eq) k1_16 (by decide) (by decide)
theorem s1_19 {n cs ss : Nat} {L : List Slot} {S : List Value} {H : AH} : orun prog_114_method_5_code (Option.some Jvm.ClassFile.FieldType.boolean) E1 1 (n + 1) (19, L, S, H, cs, ss) = orun prog_114_method_5_code (Option.some Jvm.ClassFile.FieldType.boolean) E1 1 n (20, L, (.int 1 :: S), H, cs, ss) := s_any k1_19
theorem s1_20 {n cs ss : Nat} {L : List Slot} {S : List Value} {H : AH} : orun prog_114_method_5_code (Option.some Jvm.ClassFile.FieldType.boolean) E1 1 (n + 1) (20, L, S, H, cs, ss) = orun prog_114_method_5_code (Option.some Jvm.ClassFile.FieldType.boolean) E1 1 n (24, L, S, H, cs, ss) := s_goto k1_20 (by decide) (by decide)
theorem s1_23 {n cs ss : Nat} {L : List Slot} {S : List Value} {H : AH} : orun prog_114_method_5_code (Option.some Jvm.ClassFile.FieldType.boolean) E1 1 (n + 1) (23, L, S, H, cs, ss) = orun prog_114_method_5_code (Option.some Jvm.ClassFile.FieldType.boolean) E1 1 n (24, L, (.int 0 :: S), H, cs, ss) := s_any k1_23
theorem s1_24 {n cs ss : Nat} {L : List Slot} {S : List Value} {H : AH} : orun prog_114_method_5_code (Option.some Jvm.ClassFile.FieldType.boolean) E1 1 (n + 1) (24, L, S, H, cs, ss) = pI S fun x r => (st1 L 1 (.int x)).bind fun L' => orun prog_114_method_5_code (Option.some Jvm.ClassFile.FieldType.boolean) E1 1 n (25, L', r, H, cs, ss) := s_any k1_24
theorem s1_25 {n cs ss : Nat} {L : List Slot} {S : List Value} {H : AH} : orun prog_114_method_5_code (Option.some Jvm.ClassFile.FieldType.boolean) E1 1 (n + 1) (25, L, S, H, cs, ss) = orun prog_114_method_5_code (Option.some Jvm.ClassFile.FieldType.boolean) E1 1 n (195, L, S, H, cs, ss) := s_goto k1_25 (by decide) (by decide)
theorem s1_28 {n cs ss : Nat} {L : List Slot} {S : List Value} {H : AH} : orun prog_114_method_5_code (Option.some Jvm.ClassFile.FieldType.boolean) E1 1 (n + 1) (28, L, S, H, cs, ss) = (gI L 0).bind fun v => orun prog_114_method_5_code (Option.some Jvm.ClassFile.FieldType.boolean) E1 1 n (29, L, .int v :: S, H, cs, ss) := s_any k1_28
theorem s1_29 {n cs ss : Nat} {L : List Slot} {S : List Value} {H : AH} : orun prog_114_method_5_code (Option.some Jvm.ClassFile.FieldType.boolean) E1 1 (n + 1) (29, L, S, H, cs, ss) = orun prog_114_method_5_code (Option.some Jvm.ClassFile.FieldType.boolean) E1 1 n (32, L, (.int 192 :: S), H, cs, ss) := s_any k1_29
theorem s1_32 {n cs ss : Nat} {L : List Slot} {S : List Value} {H : AH} : orun prog_114_method_5_code (Option.some Jvm.ClassFile.FieldType.boolean) E1 1 (n + 1) (32, L, S, H, cs, ss) = pI S fun y S => pI S fun x r => if x < y then orun prog_114_method_5_code (Option.some Jvm.ClassFile.FieldType.boolean) E1 1 n (42, L, r, H, cs, ss) else orun prog_114_method_5_code (Option.some Jvm.ClassFile.FieldType.boolean) E1 1 n (35, L, r, H, cs, ss) := s_icmp (Q := fun x y => x < y) (fun _ _ => h_lt) k1_32 (by decide) (by decide)
theorem s1_35 {n cs ss : Nat} {L : List Slot} {S : List Value} {H : AH} : orun prog_114_method_5_code (Option.some Jvm.ClassFile.FieldType.boolean) E1 1 (n + 1) (35, L, S, H, cs, ss) = (gI L 0).bind fun v => orun prog_114_method_5_code (Option.some Jvm.ClassFile.FieldType.boolean) E1 1 n (36, L, .int v :: S, H, cs, ss) := s_any k1_35
theorem s1_36 {n cs ss : Nat} {L : List Slot} {S : List Value} {H : AH} : orun prog_114_method_5_code (Option.some Jvm.ClassFile.FieldType.boolean) E1 1 (n + 1) (36, L, S, H, cs, ss) = orun prog_114_method_5_code (Option.some Jvm.ClassFile.FieldType.boolean) E1 1 n (39, L, (.int 214 :: S), H, cs, ss) := s_any k1_36
theorem s1_39 {n cs ss : Nat} {L : List Slot} {S : List Value} {H : AH} : orun prog_114_method_5_code (Option.some Jvm.ClassFile.FieldType.boolean) E1 1 (n + 1) (39, L, S, H, cs, ss) = pI S fun y S => pI S fun x r => if y < x then orun prog_114_method_5_code (Option.some Jvm.ClassFile.FieldType.boolean) E1 1 n (42, L, r, H, cs, ss) else orun prog_114_method_5_code (Option.some Jvm.ClassFile.FieldType.boolean) E1 1 n (189, L, r, H, cs, ss) := s_icmpN (Q := fun x y => y < x) (fun _ _ => h_le) k1_39 (by decide) (by decide)
theorem s1_42 {n cs ss : Nat} {L : List Slot} {S : List Value} {H : AH} : orun prog_114_method_5_code (Option.some Jvm.ClassFile.FieldType.boolean) E1 1 (n + 1) (42, L, S, H, cs, ss) = (gI L 0).bind fun v => orun prog_114_method_5_code (Option.some Jvm.ClassFile.FieldType.boolean) E1 1 n (43, L, .int v :: S, H, cs, ss) := s_any k1_42
theorem s1_43 {n cs ss : Nat} {L : List Slot} {S : List Value} {H : AH} : orun prog_114_method_5_code (Option.some Jvm.ClassFile.FieldType.boolean) E1 1 (n + 1) (43, L, S, H, cs, ss) = orun prog_114_method_5_code (Option.some Jvm.ClassFile.FieldType.boolean) E1 1 n (46, L, (.int 216 :: S), H, cs, ss) := s_any k1_43
theorem s1_46 {n cs ss : Nat} {L : List Slot} {S : List Value} {H : AH} : orun prog_114_method_5_code (Option.some Jvm.ClassFile.FieldType.boolean) E1 1 (n + 1) (46, L, S, H, cs, ss) = pI S fun y S => pI S fun x r => if x < y then orun prog_114_method_5_code (Option.some Jvm.ClassFile.FieldType.boolean) E1 1 n (56, L, r, H, cs, ss) else orun prog_114_method_5_code (Option.some Jvm.ClassFile.FieldType.boolean) E1 1 n (49, L, r, H, cs, ss) := s_icmp (Q := fun x y => x < y) (fun _ _ => h_lt) k1_46 (by decide) (by decide)
theorem s1_49 {n cs ss : Nat} {L : List Slot} {S : List Value} {H : AH} : orun prog_114_method_5_code (Option.some Jvm.ClassFile.FieldType.boolean) E1 1 (n + 1) (49, L, S, H, cs, ss) = (gI L 0).bind fun v => orun prog_114_method_5_code (Option.some Jvm.ClassFile.FieldType.boolean) E1 1 n (50, L, .int v :: S, H, cs, ss) := s_any k1_49
theorem s1_50 {n cs ss : Nat} {L : List Slot} {S : List Value} {H : AH} : orun prog_114_method_5_code (Option.some Jvm.ClassFile.FieldType.boolean) E1 1 (n + 1) (50, L, S, H, cs, ss) = orun prog_114_method_5_code (Option.some Jvm.ClassFile.FieldType.boolean) E1 1 n (53, L, (.int 246 :: S), H, cs, ss) := s_any k1_50
theorem s1_53 {n cs ss : Nat} {L : List Slot} {S : List Value} {H : AH} : orun prog_114_method_5_code (Option.some Jvm.ClassFile.FieldType.boolean) E1 1 (n + 1) (53, L, S, H, cs, ss) = pI S fun y S => pI S fun x r => if y < x then orun prog_114_method_5_code (Option.some Jvm.ClassFile.FieldType.boolean) E1 1 n (56, L, r, H, cs, ss) else orun prog_114_method_5_code (Option.some Jvm.ClassFile.FieldType.boolean) E1 1 n (189, L, r, H, cs, ss) := s_icmpN (Q := fun x y => y < x) (fun _ _ => h_le) k1_53 (by decide) (by decide)
theorem s1_56 {n cs ss : Nat} {L : List Slot} {S : List Value} {H : AH} : orun prog_114_method_5_code (Option.some Jvm.ClassFile.FieldType.boolean) E1 1 (n + 1) (56, L, S, H, cs, ss) = (gI L 0).bind fun v => orun prog_114_method_5_code (Option.some Jvm.ClassFile.FieldType.boolean) E1 1 n (57, L, .int v :: S, H, cs, ss) := s_any k1_56
theorem s1_57 {n cs ss : Nat} {L : List Slot} {S : List Value} {H : AH} : orun prog_114_method_5_code (Option.some Jvm.ClassFile.FieldType.boolean) E1 1 (n + 1) (57, L, S, H, cs, ss) = orun prog_114_method_5_code (Option.some Jvm.ClassFile.FieldType.boolean) E1 1 n (60, L, (.int 248 :: S), H, cs, ss) := s_any k1_57
theorem s1_60 {n cs ss : Nat} {L : List Slot} {S : List Value} {H : AH} : orun prog_114_method_5_code (Option.some Jvm.ClassFile.FieldType.boolean) E1 1 (n + 1) (60, L, S, H, cs, ss) = pI S fun y S => pI S fun x r => if x < y then orun prog_114_method_5_code (Option.some Jvm.ClassFile.FieldType.boolean) E1 1 n (70, L, r, H, cs, ss) else orun prog_114_method_5_code (Option.some Jvm.ClassFile.FieldType.boolean) E1 1 n (63, L, r, H, cs, ss) := s_icmp (Q := fun x y => x < y) (fun _ _ => h_lt) k1_60 (by decide) (by decide)
theorem s1_63 {n cs ss : Nat} {L : List Slot} {S : List Value} {H : AH} : orun prog_114_method_5_code (Option.some Jvm.ClassFile.FieldType.boolean) E1 1 (n + 1) (63, L, S, H, cs, ss) = (gI L 0).bind fun v => orun prog_114_method_5_code (Option.some Jvm.ClassFile.FieldType.boolean) E1 1 n (64, L, .int v :: S, H, cs, ss) := s_any k1_63
theorem s1_64 {n cs ss : Nat} {L : List Slot} {S : List Value} {H : AH} : orun prog_114_method_5_code (Option.some Jvm.ClassFile.FieldType.boolean) E1 1 (n + 1) (64, L, S, H, cs, ss) = orun prog_114_method_5_code (Option.some Jvm.ClassFile.FieldType.boolean) E1 1 n (67, L, (.int 767 :: S), H, cs, ss) := s_any k1_64
theorem s1_67 {n cs ss : Nat} {L : List Slot} {S : List Value} {H : AH} : orun prog_114_method_5_code (Option.some Jvm.ClassFile.FieldType.boolean) E1 1 (n + 1) (67, L, S, H, cs, ss) = pI S fun y S => pI S fun x r => if y < x then orun prog_114_method_5_code (Option.some Jvm.ClassFile.FieldType.boolean) E1 1 n (70, L, r, H, cs, ss) else orun prog_114_method_5_code (Option.some Jvm.ClassFile.FieldType.boolean) E1 1 n (189, L, r, H, cs, ss) := s_icmpN (Q := fun x y => y < x) (fun _ _ => h_le) k1_67 (by decide) (by decide)
theorem s1_70 {n cs ss : Nat} {L : List Slot} {S : List Value} {H : AH} : orun prog_114_method_5_code (Option.some Jvm.ClassFile.FieldType.boolean) E1 1 (n + 1) (70, L, S, H, cs, ss) = (gI L 0).bind fun v => orun prog_114_method_5_code (Option.some Jvm.ClassFile.FieldType.boolean) E1 1 n (71, L, .int v :: S, H, cs, ss) := s_any k1_70
theorem s1_71 {n cs ss : Nat} {L : List Slot} {S : List Value} {H : AH} : orun prog_114_method_5_code (Option.some Jvm.ClassFile.FieldType.boolean) E1 1 (n + 1) (71, L, S, H, cs, ss) = orun prog_114_method_5_code (Option.some Jvm.ClassFile.FieldType.boolean) E1 1 n (74, L, (.int 880 :: S), H, cs, ss) := s_any k1_71
theorem s1_74 {n cs ss : Nat} {L : List Slot} {S : List Value} {H : AH} : orun prog_114_method_5_code (Option.some Jvm.ClassFile.FieldType.boolean) E1 1 (n + 1) (74, L, S, H, cs, ss) = pI S fun y S => pI S fun x r => if x < y then orun prog_114_method_5_code (Option.some Jvm.ClassFile.FieldType.boolean) E1 1 n (84, L, r, H, cs, ss) else orun prog_114_method_5_code (Option.some Jvm.ClassFile.FieldType.boolean) E1 1 n (77, L, r, H, cs, ss) := s_icmp (Q := fun x y => x < y) (fun _ _ => h_lt) k1_74 (by decide) (by decide)
theorem s1_77 {n cs ss : Nat} {L : List Slot} {S : List Value} {H : AH} : orun prog_114_method_5_code (Option.some Jvm.ClassFile.FieldType.boolean) E1 1 (n + 1) (77, L, S, H, cs, ss) = (gI L 0).bind fun v => orun prog_114_method_5_code (Option.some Jvm.ClassFile.FieldType.boolean) E1 1 n (78, L, .int v :: S, H, cs, ss) := s_any k1_77
theorem s1_78 {n cs ss : Nat} {L : List Slot} {S : List Value} {H : AH} : orun prog_114_method_5_code (Option.some Jvm.ClassFile.FieldType.boolean) E1 1 (n + 1) (78, L, S, H, cs, ss) = orun prog_114_method_5_code (Option.some Jvm.ClassFile.FieldType.boolean) E1 1 n (81, L, (.int 893 :: S), H, cs, ss) := s_any k1_78
theorem s1_81 {n cs ss : Nat} {L : List Slot} {S : List Value} {H : AH} : orun prog_114_method_5_code (Option.some Jvm.ClassFile.FieldType.boolean) E1 1 (n + 1) (81, L, S, H, cs, ss) = pI S fun y S => pI S fun x r => if y < x then orun prog_114_method_5_code (Option.some Jvm.ClassFile.FieldType.boolean) E1 1 n (84, L, r, H, cs, ss) else orun prog_114_method_5_code (Option.some Jvm.ClassFile.FieldType.boolean) E1 1 n (189, L, r, H, cs, ss) := s_icmpN (Q := fun x y => y < x) (fun _ _ => h_le) k1_81 (by decide) (by decide)
theorem s1_84 {n cs ss : Nat} {L : List Slot} {S : List Value} {H : AH} : orun prog_114_method_5_code (Option.some Jvm.ClassFile.FieldType.boolean) E1 1 (n + 1) (84, L, S, H, cs, ss) = (gI L 0).bind fun v => orun prog_114_method_5_code (Option.some Jvm.ClassFile.FieldType.boolean) E1 1 n (85, L, .int v :: S, H, cs, ss) := s_any k1_84
theorem s1_85 {n cs ss : Nat} {L : List Slot} {S : List Value} {H : AH} : orun prog_114_method_5_code (Option.some Jvm.ClassFile.FieldType.boolean) E1 1 (n + 1) (85, L, S, H, cs, ss) = orun prog_114_method_5_code (Option.some Jvm.ClassFile.FieldType.boolean) E1 1 n (88, L, (.int 895 :: S), H, cs, ss) := s_any k1_85
theorem s1_88 {n cs ss : Nat} {L : List Slot} {S : List Value} {H : AH} : orun prog_114_method_5_code (Option.some Jvm.ClassFile.FieldType.boolean) E1 1 (n + 1) (88, L, S, H, cs, ss) = pI S fun y S => pI S fun x r => if x < y then orun prog_114_method_5_code (Option.some Jvm.ClassFile.FieldType.boolean) E1 1 n (98, L, r, H, cs, ss) else orun prog_114_method_5_code (Option.some Jvm.ClassFile.FieldType.boolean) E1 1 n (91, L, r, H, cs, ss) := s_icmp (Q := fun x y => x < y) (fun _ _ => h_lt) k1_88 (by decide) (by decide)
theorem s1_91 {n cs ss : Nat} {L : List Slot} {S : List Value} {H : AH} : orun prog_114_method_5_code (Option.some Jvm.ClassFile.FieldType.boolean) E1 1 (n + 1) (91, L, S, H, cs, ss) = (gI L 0).bind fun v => orun prog_114_method_5_code (Option.some Jvm.ClassFile.FieldType.boolean) E1 1 n (92, L, .int v :: S, H, cs, ss) := s_any k1_91
theorem s1_92 {n cs ss : Nat} {L : List Slot} {S : List Value} {H : AH} : orun prog_114_method_5_code (Option.some Jvm.ClassFile.FieldType.boolean) E1 1 (n + 1) (92, L, S, H, cs, ss) = orun prog_114_method_5_code (Option.some Jvm.ClassFile.FieldType.boolean) E1 1 n (95, L, (.int 8191 :: S), H, cs, ss) := s_any k1_92
theorem s1_95 {n cs ss : Nat} {L : List Slot} {S : List Value} {H : AH} : orun prog_114_method_5_code (Option.some Jvm.ClassFile.FieldType.boolean) E1 1 (n + 1) (95, L, S, H, cs, ss) = pI S fun y S => pI S fun x r => if y < x then orun prog_114_method_5_code (Option.some Jvm.ClassFile.FieldType.boolean) E1 1 n (98, L, r, H, cs, ss) else orun prog_114_method_5_code (Option.some Jvm.ClassFile.FieldType.boolean) E1 1 n (189, L, r, H, cs, ss) := s_icmpN (Q := fun x y => y < x) (fun _ _ => h_le) k1_95 (by decide) (by decide)
theorem s1_98 {n cs ss : Nat} {L : List Slot} {S : List Value} {H : AH} : orun prog_114_method_5_code (Option.some Jvm.ClassFile.FieldType.boolean) E1 1 (n + 1) (98, L, S, H, cs, ss) = (gI L 0).bind fun v => orun prog_114_method_5_code (Option.some Jvm.ClassFile.FieldType.boolean) E1 1 n (99, L, .int v :: S, H, cs, ss) := s_any k1_98
theorem s1_99 {n cs ss : Nat} {L : List Slot} {S : List Value} {H : AH} : orun prog_114_method_5_code (Option.some Jvm.ClassFile.FieldType.boolean) E1 1 (n + 1) (99, L, S, H, cs, ss) = orun prog_114_method_5_code (Option.some Jvm.ClassFile.FieldType.boolean) E1 1 n (102, L, (.int 8204 :: S), H, cs, ss) := s_any k1_99
theorem s1_102 {n cs ss : Nat} {L : List Slot} {S : List Value} {H : AH} : orun prog_114_method_5_code (Option.some Jvm.ClassFile.FieldType.boolean) E1 1 (n + 1) (102, L, S, H, cs, ss) = pI S fun y S => pI S fun x r => if x = y then orun prog_114_method_5_code (Option.some Jvm.ClassFile.FieldType.boolean) E1 1 n (189, L, r, H, cs, ss) else orun prog_114_method_5_code (Option.some Jvm.ClassFile.FieldType.boolean) E1 1 n (105, L, r, H, cs, ss) := s_icmp (Q := fun x y => x = y) (fun _ _ => h_eq) k1_102 (by decide) (by decide)
theorem s1_105 {n cs ss : Nat} {L : List Slot} {S : List Value} {H : AH} : orun prog_114_method_5_code (Option.some Jvm.ClassFile.FieldType.boolean) E1 1 (n + 1) (105, L, S, H, cs, ss) = (gI L 0).bind fun v => orun prog_114_method_5_code (Option.some Jvm.ClassFile.FieldType.boolean) E1 1 n (106, L, .int v :: S, H, cs, ss) := s_any k1_105
theorem s1_106 {n cs ss : Nat} {L : List Slot} {S : List Value} {H : AH} : orun prog_114_method_5_code (Option.some Jvm.ClassFile.FieldType.boolean) E1 1 (n + 1) (106, L, S, H, cs, ss) = orun prog_114_method_5_code (Option.some Jvm.ClassFile.FieldType.boolean) E1 1 n (109, L, (.int 8205 :: S), H, cs, ss) := s_any k1_106
theorem s1_109 {n cs ss : Nat} {L : List Slot} {S : List Value} {H : AH} : orun prog_114_method_5_code (Option.some Jvm.ClassFile.FieldType.boolean) E1 1 (n + 1) (109, L, S, H, cs, ss) = pI S fun y S => pI S fun x r => if x = y then orun prog_114_method_5_code (Option.some Jvm.ClassFile.FieldType.boolean) E1 1 n (189, L, r, H, cs, ss) else orun prog_114_method_5_code (Option.some Jvm.ClassFile.FieldType.boolean) E1 1 n (112, L, r, H, cs, ss) := s_icmp (Q := fun x y => x = y) (fun _ _ => h_eq) k1_109 (by decide) (by decide)
theorem s1_112 {n cs ss : Nat} {L : List Slot} {S : List Value} {H : AH} : orun prog_114_method_5_code (Option.some Jvm.ClassFile.FieldType.boolean) E1 1 (n + 1) (112, L, S, H, cs, ss) = (gI L 0).bind fun v => orun prog_114_method_5_code (Option.some Jvm.ClassFile.FieldType.boolean) E1 1 n (113, L, .int v :: S, H, cs, ss) := s_any k1_112
theorem s1_113 {n cs ss : Nat} {L : List Slot} {S : List Value} {H : AH} : orun prog_114_method_5_code (Option.some Jvm.ClassFile.FieldType.boolean) E1 1 (n + 1) (113, L, S, H, cs, ss) = orun prog_114_method_5_code (Option.some Jvm.ClassFile.FieldType.boolean) E1 1 n (116, L, (.int 8304 :: S), H, cs, ss) := s_any k1_113
theorem s1_116 {n cs ss : Nat} {L : List Slot} {S : List Value} {H : AH} : orun prog_114_method_5_code (Option.some Jvm.ClassFile.FieldType.boolean) E1 1 (n + 1) (116, L, S, H, cs, ss) = pI S fun y S => pI S fun x r => if x < y then orun prog_114_method_5_code (Option.some Jvm.ClassFile.FieldType.boolean) E1 1 n (126, L, r, H, cs, ss) else orun prog_114_method_5_code (Option.some Jvm.ClassFile.FieldType.boolean) E1 1 n (119, L, r, H, cs, ss) := s_icmp (Q := fun x y => x < y) (fun _ _ => h_lt) k1_116 (by decide) (by decide)
theorem s1_119 {n cs ss : Nat} {L : List Slot} {S : List Value} {H : AH} : orun prog_114_method_5_code (Option.some Jvm.ClassFile.FieldType.boolean) E1 1 (n + 1) (119, L, S, H, cs, ss) = (gI L 0).bind fun v => orun prog_114_method_5_code (Option.some Jvm.ClassFile.FieldType.boolean) E1 1 n (120, L, .int v :: S, H, cs, ss) := s_any k1_119
theorem s1_120 {n cs ss : Nat} {L : List Slot} {S : List Value} {H : AH} : orun prog_114_method_5_code (Option.some Jvm.ClassFile.FieldType.boolean) E1 1 (n + 1) (120, L, S, H, cs, ss) = orun prog_114_method_5_code (Option.some Jvm.ClassFile.FieldType.boolean) E1 1 n (123, L, (.int 8591 :: S), H, cs, ss) := s_any k1_120
theorem s1_123 {n cs ss : Nat} {L : List Slot} {S : List Value} {H : AH} : orun prog_114_method_5_code (Option.some Jvm.ClassFile.FieldType.boolean) E1 1 (n + 1) (123, L, S, H, cs, ss) = pI S fun y S => pI S fun x r => if y < x then orun prog_114_method_5_code (Option.some Jvm.ClassFile.FieldType.boolean) E1 1 n (126, L, r, H, cs, ss) else orun prog_114_method_5_code (Option.some Jvm.ClassFile.FieldType.boolean) E1 1 n (189, L, r, H, cs, ss) := s_icmpN (Q := fun x y => y < x) (fun _ _ => h_le) k1_123 (by decide) (by decide)
theorem s1_126 {n cs ss : Nat} {L : List Slot} {S : List Value} {H : AH} : orun prog_114_method_5_code (Option.some Jvm.ClassFile.FieldType.boolean) E1 1 (n + 1) (126, L, S, H, cs, ss) = (gI L 0).bind fun v => orun prog_114_method_5_code (Option.some Jvm.ClassFile.FieldType.boolean) E1 1 n (127, L, .int v :: S, H, cs, ss) := s_any k1_126
theorem s1_127 {n cs ss : Nat} {L : List Slot} {S : List Value} {H : AH} : orun prog_114_method_5_code (Option.some Jvm.ClassFile.FieldType.boolean) E1 1 (n + 1) (127, L, S, H, cs, ss) = orun prog_114_method_5_code (Option.some Jvm.ClassFile.FieldType.boolean) E1 1 n (130, L, (.int 11264 :: S), H, cs, ss) := s_any k1_127
theorem s1_130 {n cs ss : Nat} {L : List Slot} {S : List Value} {H : AH} : orun prog_114_method_5_code (Option.some Jvm.ClassFile.FieldType.boolean) E1 1 (n + 1) (130, L, S, H, cs, ss) = pI S fun y S => pI S fun x r => if x < y then orun prog_114_method_5_code (Option.some Jvm.ClassFile.FieldType.boolean) E1 1 n (140, L, r, H, cs, ss) else orun prog_114_method_5_code (Option.some Jvm.ClassFile.FieldType.boolean) E1 1 n (133, L, r, H, cs, ss) := s_icmp (Q := fun x y => x < y) (fun _ _ => h_lt) k1_130 (by decide) (by decide)
theorem s1_133 {n cs ss : Nat} {L : List Slot} {S : List Value} {H : AH} : orun prog_114_method_5_code (Option.some Jvm.ClassFile.FieldType.boolean) E1 1 (n + 1) (133, L, S, H, cs, ss) = (gI L 0).bind fun v => orun prog_114_method_5_code (Option.some Jvm.ClassFile.FieldType.boolean) E1 1 n (134, L, .int v :: S, H, cs, ss) := s_any k1_133
theorem s1_134 {n cs ss : Nat} {L : List Slot} {S : List Value} {H : AH} : orun prog_114_method_5_code (Option.some Jvm.ClassFile.FieldType.boolean) E1 1 (n + 1) (134, L, S, H, cs, ss) = orun prog_114_method_5_code (Option.some Jvm.ClassFile.FieldType.boolean) E1 1 n (137, L, (.int 12271 :: S), H, cs, ss) := s_any k1_134
theorem s1_137 {n cs ss : Nat} {L : List Slot} {S : List Value} {H : AH} : orun prog_114_method_5_code (Option.some Jvm.ClassFile.FieldType.boolean) E1 1 (n + 1) (137, L, S, H, cs, ss) = pI S fun y S => pI S fun x r => if y < x then orun prog_114_method_5_code (Option.some Jvm.ClassFile.FieldType.boolean) E1 1 n (140, L, r, H, cs, ss) else orun prog_114_method_5_code (Option.some Jvm.ClassFile.FieldType.boolean) E1 1 n (189, L, r, H, cs, ss) := s_icmpN (Q := fun x y => y < x) (fun _ _ => h_le) k1_137 (by decide) (by decide)
theorem s1_140 {n cs ss : Nat} {L : List Slot} {S : List Value} {H : AH} : orun prog_114_method_5_code (Option.some Jvm.ClassFile.FieldType.boolean) E1 1 (n + 1) (140, L, S, H, cs, ss) = (gI L 0).bind fun v => orun prog_114_method_5_code (Option.some Jvm.ClassFile.FieldType.boolean) E1 1 n (141, L, .int v :: S, H, cs, ss) := s_any k1_140
theorem s1_141 {n cs ss : Nat} {L : List Slot} {S : List Value} {H : AH} : orun prog_114_method_5_code (Option.some Jvm.ClassFile.FieldType.boolean) E1 1 (n + 1) (141, L, S, H, cs, ss) = orun prog_114_method_5_code (Option.some Jvm.ClassFile.FieldType.boolean) E1 1 n (144, L, (.int 12289 :: S), H, cs, ss) := s_any k1_141
theorem s1_144 {n cs ss : Nat} {L : List Slot} {S : List Value} {H : AH} : orun prog_114_method_5_code (Option.some Jvm.ClassFile.FieldType.boolean) E1 1 (n + 1) (144, L, S, H, cs, ss) = pI S fun y S => pI S fun x r => if x < y then orun prog_114_method_5_code (Option.some Jvm.ClassFile.FieldType.boolean) E1 1 n (153, L, r, H, cs, ss) else orun prog_114_method_5_code (Option.some Jvm.ClassFile.FieldType.boolean) E1 1 n (147, L, r, H, cs, ss) := s_icmp (Q := fun x y => x < y) (fun _ _ => h_lt) k1_144 (by decide) (by decide)
theorem s1_147 {n cs ss : Nat} {L : List Slot} {S : List Value} {H : AH} : orun prog_114_method_5_code (Option.some Jvm.ClassFile.FieldType.boolean) E1 1 (n + 1) (147, L, S, H, cs, ss) = (gI L 0).bind fun v => orun prog_114_method_5_code (Option.some Jvm.ClassFile.FieldType.boolean) E1 1 n (148, L, .int v :: S, H, cs, ss) := s_any k1_147
theorem s1_148 {n cs ss : Nat} {L : List Slot} {S : List Value} {H : AH} : orun prog_114_method_5_code (Option.some Jvm.ClassFile.FieldType.boolean) E1 1 (n + 1) (148, L, S, H, cs, ss) = (aI (55295) S H cs ss).bind fun r => orun prog_114_method_5_code (Option.some Jvm.ClassFile.FieldType.boolean) E1 1 n (150, L, r.1, r.2.1, r.2.2.1, r.2.2.2) := s_any k1_148
theorem s1_150 {n cs ss : Nat} {L : List Slot} {S : List Value} {H : AH} : orun prog_114_method_5_code (Option.some Jvm.ClassFile.FieldType.boolean) E1 1 (n + 1) (150, L, S, H, cs, ss) = pI S fun y S => pI S fun x r => if y < x then orun prog_114_method_5_code (Option.some Jvm.ClassFile.FieldType.boolean) E1 1 n (153, L, r, H, cs, ss) else orun prog_114_method_5_code (Option.some Jvm.ClassFile.FieldType.boolean) E1 1 n (189, L, r, H, cs, ss) := s_icmpN (Q := fun x y => y < x) (fun _ _ => h_le) k1_150 (by decide) (by decide)
theorem s1_153 {n cs ss : Nat} {L : List Slot} {S : List Value} {H : AH} : orun prog_114_method_5_code (Option.some Jvm.ClassFile.FieldType.boolean) E1 1 (n + 1) (153, L, S, H, cs, ss) = (gI L 0).bind fun v => orun prog_114_method_5_code (Option.some Jvm.ClassFile.FieldType.boolean) E1 1 n (154, L, .int v :: S, H, cs, ss) := s_any k1_153
theorem s1_154 {n cs ss : Nat} {L : List Slot} {S : List Value} {H : AH} : orun prog_114_method_5_code (Option.some Jvm.ClassFile.FieldType.boolean) E1 1 (n + 1) (154, L, S, H, cs, ss) = (aI (63744) S H cs ss).bind fun r => orun prog_114_method_5_code (Option.some Jvm.ClassFile.FieldType.boolean) E1 1 n (156, L, r.1, r.2.1, r.2.2.1, r.2.2.2) := s_any k1_154
theorem s1_156 {n cs ss : Nat} {L : List Slot} {S : List Value} {H : AH} : orun prog_114_method_5_code (Option.some Jvm.ClassFile.FieldType.boolean) E1 1 (n + 1) (156, L, S, H, cs, ss) = pI S fun y S => pI S fun x r => if x < y then orun prog_114_method_5_code (Option.some Jvm.ClassFile.FieldType.boolean) E1 1 n (165, L, r, H, cs, ss) else orun prog_114_method_5_code (Option.some Jvm.ClassFile.FieldType.boolean) E1 1 n (159, L, r, H, cs, ss) := s_icmp (Q := fun x y => x < y) (fun _ _ => h_lt) k1_156 (by decide) (by decide)
theorem s1_159 {n cs ss : Nat} {L : List Slot} {S : List Value} {H : AH} : orun prog_114_method_5_code (Option.some Jvm.ClassFile.FieldType.boolean) E1 1 (n + 1) (159, L, S, H, cs, ss) = (gI L 0).bind fun v => orun prog_114_method_5_code (Option.some Jvm.ClassFile.FieldType.boolean) E1 1 n (160, L, .int v :: S, H, cs, ss) := s_any k1_159
theorem s1_160 {n cs ss : Nat} {L : List Slot} {S : List Value} {H : AH} : orun prog_114_method_5_code (Option.some Jvm.ClassFile.FieldType.boolean) E1 1 (n + 1) (160, L, S, H, cs, ss) = (aI (64975) S H cs ss).bind fun r => orun prog_114_method_5_code (Option.some Jvm.ClassFile.FieldType.boolean) E1 1 n (162, L, r.1, r.2.1, r.2.2.1, r.2.2.2) := s_any k1_160
theorem s1_162 {n cs ss : Nat} {L : List Slot} {S : List Value} {H : AH} : orun prog_114_method_5_code (Option.some Jvm.ClassFile.FieldType.boolean) E1 1 (n + 1) (162, L, S, H, cs, ss) = pI S fun y S => pI S fun x r => if y < x then orun prog_114_method_5_code (Option.some Jvm.ClassFile.FieldType.boolean) E1 1 n (165, L, r, H, cs, ss) else orun prog_114_method_5_code (Option.some Jvm.ClassFile.FieldType.boolean) E1 1 n (189, L, r, H, cs, ss) := s_icmpN (Q := fun x y => y < x) (fun _ _ => h_le) k1_162 (by decide) (by decide)
theorem s1_165 {n cs ss : Nat} {L : List Slot} {S : List Value} {H : AH} : orun prog_114_method_5_code (Option.some Jvm.ClassFile.FieldType.boolean) E1 1 (n + 1) (165, L, S, H, cs, ss) = (gI L 0).bind fun v => orun prog_114_method_5_code (Option.some Jvm.ClassFile.FieldType.boolean) E1 1 n (166, L, .int v :: S, H, cs, ss) := s_any k1_165
theorem s1_166 {n cs ss : Nat} {L : List Slot} {S : List Value} {H : AH} : orun prog_114_method_5_code (Option.some Jvm.ClassFile.FieldType.boolean) E1 1 (n + 1) (166, L, S, H, cs, ss) = (aI (65008) S H cs ss).bind fun r => orun prog_114_method_5_code (Option.some Jvm.ClassFile.FieldType.boolean) E1 1 n (168, L, r.1, r.2.1, r.2.2.1, r.2.2.2) := s_any k1_166
theorem s1_168 {n cs ss : Nat} {L : List Slot} {S : List Value} {H : AH} : orun prog_114_method_5_code (Option.some Jvm.ClassFile.FieldType.boolean) E1 1 (n + 1) (168, L, S, H, cs, ss) = pI S fun y S => pI S fun x r => if x < y then orun prog_114_method_5_code (Option.some Jvm.ClassFile.FieldType.boolean) E1 1 n (177, L, r, H, cs, ss) else orun prog_114_method_5_code (Option.some Jvm.ClassFile.FieldType.boolean) E1 1 n (171, L, r, H, cs, ss) := s_icmp (Q := fun x y => x < y) (fun _ _ => h_lt) k1_168 (by decide) (by decide)
theorem s1_171 {n cs ss : Nat} {L : List Slot} {S : List Value} {H : AH} : orun prog_114_method_5_code (Option.some Jvm.ClassFile.FieldType.boolean) E1 1 (n + 1) (171, L, S, H, cs, ss) = (gI L 0).bind fun v => orun prog_114_method_5_code (Option.some Jvm.ClassFile.FieldType.boolean) E1 1 n (172, L, .int v :: S, H, cs, ss) := s_any k1_171
theorem s1_172 {n cs ss : Nat} {L : List Slot} {S : List Value} {H : AH} : orun prog_114_method_5_code (Option.some Jvm.ClassFile.FieldType.boolean) E1 1 (n + 1) (172, L, S, H, cs, ss) = (aI (65533) S H cs ss).bind fun r => orun prog_114_method_5_code (Option.some Jvm.ClassFile.FieldType.boolean) E1 1 n (174, L, r.1, r.2.1, r.2.2.1, r.2.2.2) := s_any k1_172
theorem s1_174 {n cs ss : Nat} {L : List Slot} {S : List Value} {H : AH} : orun prog_114_method_5_code (Option.some Jvm.ClassFile.FieldType.boolean) E1 1 (n + 1) (174, L, S, H, cs, ss) = pI S fun y S => pI S fun x r => if y < x then orun prog_114_method_5_code (Option.some Jvm.ClassFile.FieldType.boolean) E1 1 n (177, L, r, H, cs, ss) else orun prog_114_method_5_code (Option.some Jvm.ClassFile.FieldType.boolean) E1 1 n (189, L, r, H, cs, ss) := s_icmpN (Q := fun x y => y < x) (fun _ _ => h_le) k1_174 (by decide) (by decide)
theorem s1_177 {n cs ss : Nat} {L : List Slot} {S : List Value} {H : AH} : orun prog_114_method_5_code (Option.some Jvm.ClassFile.FieldType.boolean) E1 1 (n + 1) (177, L, S, H, cs, ss) = (gI L 0).bind fun v => orun prog_114_method_5_code (Option.some Jvm.ClassFile.FieldType.boolean) E1 1 n (178, L, .int v :: S, H, cs, ss) := s_any k1_177
theorem s1_178 {n cs ss : Nat} {L : List Slot} {S : List Value} {H : AH} : orun prog_114_method_5_code (Option.some Jvm.ClassFile.FieldType.boolean) E1 1 (n + 1) (178, L, S, H, cs, ss) = (aI (65536) S H cs ss).bind fun r => orun prog_114_method_5_code (Option.some Jvm.ClassFile.FieldType.boolean) E1 1 n (180, L, r.1, r.2.1, r.2.2.1, r.2.2.2) := s_any k1_178
theorem s1_180 {n cs ss : Nat} {L : List Slot} {S : List Value} {H : AH} : orun prog_114_method_5_code (Option.some Jvm.ClassFile.FieldType.boolean) E1 1 (n + 1) (180, L, S, H, cs, ss) = pI S fun y S => pI S fun x r => if x < y then orun prog_114_method_5_code (Option.some Jvm.ClassFile.FieldType.boolean) E1 1 n (193, L, r, H, cs, ss) else orun prog_114_method_5_code (Option.some Jvm.ClassFile.FieldType.boolean) E1 1 n (183, L, r, H, cs, ss) := s_icmp (Q := fun x y => x < y) (fun _ _ => h_lt) k1_180 (by decide) (by decide)
theorem s1_183 {n cs ss : Nat} {L : List Slot} {S : List Value} {H : AH} : orun prog_114_method_5_code (Option.some Jvm.ClassFile.FieldType.boolean) E1 1 (n + 1) (183, L, S, H, cs, ss) = (gI L 0).bind fun v => orun prog_114_method_5_code (Option.some Jvm.ClassFile.FieldType.boolean) E1 1 n (184, L, .int v :: S, H, cs, ss) := s_any k1_183
theorem s1_184 {n cs ss : Nat} {L : List Slot} {S : List Value} {H : AH} : orun prog_114_method_5_code (Option.some Jvm.ClassFile.FieldType.boolean) E1 1 (n + 1) (184, L, S, H, cs, ss) = (aI (983039) S H cs ss).bind fun r => orun prog_114_method_5_code (Option.some Jvm.ClassFile.FieldType.boolean) E1 1 n (186, L, r.1, r.2.1, r.2.2.1, r.2.2.2) := s_any k1_184
theorem s1_186 {n cs ss : Nat} {L : List Slot} {S : List Value} {H : AH} : orun prog_114_method_5_code (Option.some Jvm.ClassFile.FieldType.boolean) E1 1 (n + 1) (186, L, S, H, cs, ss) = pI S fun y S => pI S fun x r => if y < x then orun prog_114_method_5_code (Option.some Jvm.ClassFile.FieldType.boolean) E1 1 n (193, L, r, H, cs, ss) else orun prog_114_method_5_code (Option.some Jvm.ClassFile.FieldType.boolean) E1 1 n (189, L, r, H, cs, ss) := s_icmp (Q := fun x y => y < x) (fun _ _ => h_gt) k1_186 (by decide) (by decide)
theorem s1_189 {n cs ss : Nat} {L : List Slot} {S : List Value} {H : AH} : orun prog_114_method_5_code (Option.some Jvm.ClassFile.FieldType.boolean) E1 1 (n + 1) (189, L, S, H, cs, ss) = orun prog_114_method_5_code (Option.some Jvm.ClassFile.FieldType.boolean) E1 1 n (190, L, (.int 1 :: S), H, cs, ss) := s_any k1_189
theorem s1_190 {n cs ss : Nat} {L : List Slot} {S : List Value} {H : AH} : orun prog_114_method_5_code (Option.some Jvm.ClassFile.FieldType.boolean) E1 1 (n + 1) (190, L, S, H, cs, ss) = orun prog_114_method_5_code (Option.some Jvm.ClassFile.FieldType.boolean) E1 1 n (194, L, S, H, cs, ss) := s_goto k1_190 (by decide) (by decide)
theorem s1_193 {n cs ss : Nat} {L : List Slot} {S : List Value} {H : AH} : orun prog_114_method_5_code (Option.some Jvm.ClassFile.FieldType.boolean) E1 1 (n + 1) (193, L, S, H, cs, ss) = orun prog_114_method_5_code (Option.some Jvm.ClassFile.FieldType.boolean) E1 1 n (194, L, (.int 0 :: S), H, cs, ss) := s_any k1_193
theorem s1_194 {n cs ss : Nat} {L : List Slot} {S : List Value} {H : AH} : orun prog_114_method_5_code (Option.some Jvm.ClassFile.FieldType.boolean) E1 1 (n + 1) (194, L, S, H, cs, ss) = pI S fun x r => (st1 L 1 (.int x)).bind fun L' => orun prog_114_method_5_code (Option.some Jvm.ClassFile.FieldType.boolean) E1 1 n (195, L', r, H, cs, ss) := s_any k1_194
theorem s1_195 {n cs ss : Nat} {L : List Slot} {S : List Value} {H : AH} : orun prog_114_method_5_code (Option.some Jvm.ClassFile.FieldType.boolean) E1 1 (n + 1) (195, L, S, H, cs, ss) = (gI L 1).bind fun v => orun prog_114_method_5_code (Option.some Jvm.ClassFile.FieldType.boolean) E1 1 n (196, L, .int v :: S, H, cs, ss) := s_any k1_195
theorem s1_196 {n cs ss : Nat} {L : List Slot} {S : List Value} {H : AH} : orun prog_114_method_5_code (Option.some Jvm.ClassFile.FieldType.boolean) E1 1 (n + 1) (196, L, S, H, cs, ss) = pI S fun z _ => some (some (.int (z &&& 1)), H) := s_any k1_196
theorem t1_0 {go : Nat → St → Option ORes} (hgo : go = orun prog_114_method_5_code (Option.some Jvm.ClassFile.FieldType.boolean) E1 1) {n cs ss : Nat} {l1 : Slot} {S : List Value} {H : AH} {q : Option ORes → Prop} {v : Int32} (h : Rsq (go n (1, [.val (.int v), l1], (.int v :: S), H, cs, ss)) q) : Rsq (go (n + 1) (0, [.val (.int v), l1], S, H, cs, ss)) q := by
  subst hgo
  exact res_of s1_0 h
theorem t1_1 {go : Nat → St → Option ORes} (hgo : go = orun prog_114_method_5_code (Option.some Jvm.ClassFile.FieldType.boolean) E1 1) {n cs ss : Nat} {L : List Slot} {S : List Value} {H : AH} {q : Option ORes → Prop} (h : Rsq (go n (4, L, (.int 128 :: S), H, cs, ss)) q) : Rsq (go (n + 1) (1, L, S, H, cs, ss)) q := by
  subst hgo
  exact res_of s1_1 h
theorem t1_4t {go : Nat → St → Option ORes} (hgo : go = orun prog_114_method_5_code (Option.some Jvm.ClassFile.FieldType.boolean) E1 1) {n cs ss : Nat} {L : List Slot} {S : List Value} {H : AH} {q : Option ORes → Prop} {x y : Int32} (hc : x < y) (h : Rsq (go n (7, L, S, H, cs, ss)) q) : Rsq (go (n + 1) (4, L, (.int y :: .int x :: S), H, cs, ss)) q := by
  subst hgo
  exact res_of s1_4 (res_t hc h)
theorem t1_4f {go : Nat → St → Option ORes} (hgo : go = orun prog_114_method_5_code (Option.some Jvm.ClassFile.FieldType.boolean) E1 1) {n cs ss : Nat} {L : List Slot} {S : List Value} {H : AH} {q : Option ORes → Prop} {x y : Int32} (hc : ¬ x < y) (h : Rsq (go n (28, L, S, H, cs, ss)) q) : Rsq (go (n + 1) (4, L, (.int y :: .int x :: S), H, cs, ss)) q := by
  subst hgo
  exact res_of s1_4 (res_f hc h)
theorem t1_7 {go : Nat → St → Option ORes} (hgo : go = orun prog_114_method_5_code (Option.some Jvm.ClassFile.FieldType.boolean) E1 1) {n cs ss : Nat} {l1 : Slot} {S : List Value} {H : AH} {q : Option ORes → Prop} {v : Int32} (h : Rsq (go n (8, [.val (.int v), l1], (.int v :: S), H, cs, ss)) q) : Rsq (go (n + 1) (7, [.val (.int v), l1], S, H, cs, ss)) q := by
  subst hgo
  exact res_of s1_7 h
theorem t1_8t {go : Nat → St → Option ORes} (hgo : go = orun prog_114_method_5_code (Option.some Jvm.ClassFile.FieldType.boolean) E1 1) {n cs ss : Nat} {L : List Slot} {S : List Value} {H : AH} {q : Option ORes → Prop} {x : Int32} (hc : x < 0) (h : Rsq (go n (23, L, S, H, cs, ss)) q) : Rsq (go (n + 1) (8, L, (.int x :: S), H, cs, ss)) q := by
  subst hgo
  exact res_of s1_8 (res_t hc h)
theorem t1_8f {go : Nat → St → Option ORes} (hgo : go = orun prog_114_method_5_code (Option.some Jvm.ClassFile.FieldType.boolean) E1 1) {n cs ss : Nat} {L : List Slot} {S : List Value} {H : AH} {q : Option ORes → Prop} {x : Int32} (hc : ¬ x < 0) (h : Rsq (go n (11, L, S, H, cs, ss)) q) : Rsq (go (n + 1) (8, L, (.int x :: S), H, cs, ss)) q := by
  subst hgo
  exact res_of s1_8 (res_f hc h)
theorem u1_11 {go : Nat → St → Option ORes} (hgo : go = orun prog_114_method_5_code (Option.some Jvm.ClassFile.FieldType.boolean) E1 1) {n cs ss : Nat} {L : List Slot} {S : List Value} {H : AH} : go (n + 1) (11, L, S, H, cs, ss) = (aSta (.ref 0) S H cs ss).bind fun r => go n (14, L, r.1, r.2.1, r.2.2.1, r.2.2.2) := by
  subst hgo
  exact s1_11
theorem t1_14 {go : Nat → St → Option ORes} (hgo : go = orun prog_114_method_5_code (Option.some Jvm.ClassFile.FieldType.boolean) E1 1) {n cs ss : Nat} {l1 : Slot} {S : List Value} {H : AH} {q : Option ORes → Prop} {v : Int32} (h : Rsq (go n (15, [.val (.int v), l1], (.int v :: S), H, cs, ss)) q) : Rsq (go (n + 1) (14, [.val (.int v), l1], S, H, cs, ss)) q := by
  subst hgo
  exact res_of s1_14 h
theorem u1_15 {go : Nat → St → Option ORes} (hgo : go = orun prog_114_method_5_code (Option.some Jvm.ClassFile.FieldType.boolean) E1 1) {n cs ss : Nat} {L : List Slot} {S : List Value} {H : AH} : go (n + 1) (15, L, S, H, cs, ss) = ex (Option.some Jvm.ClassFile.FieldType.boolean) E1 1 (go n) (.baload) 15 L S H cs ss := by
  subst hgo
  exact s1_15
theorem t1_16t {go : Nat → St → Option ORes} (hgo : go = orun prog_114_method_5_code (Option.some Jvm.ClassFile.FieldType.boolean) E1 1) {n cs ss : Nat} {L : List Slot} {S : List Value} {H : AH} {q : Option ORes → Prop} {x : Int32} (hc : x = 0) (h : Rsq (go n (23, L, S, H, cs, ss)) q) : Rsq (go (n + 1) (16, L, (.int x :: S), H, cs, ss)) q := by
  subst hgo
  exact res_of s1_16 (res_t hc h)
theorem t1_16f {go : Nat → St → Option ORes} (hgo : go = orun prog_114_method_5_code (Option.some Jvm.ClassFile.FieldType.boolean) E1 1) {n cs ss : Nat} {L : List Slot} {S : List Value} {H : AH} {q : Option ORes → Prop} {x : Int32} (hc : ¬ x = 0) (h : Rsq (go n (19, L, S, H, cs, ss)) q) : Rsq (go (n + 1) (16, L, (.int x :: S), H, cs, ss)) q := by
  subst hgo
  exact res_of s1_16 (res_f hc h)
theorem t1_19 {go : Nat → St → Option ORes} (hgo : go = orun prog_114_method_5_code (Option.some Jvm.ClassFile.FieldType.boolean) E1 1) {n cs ss : Nat} {L : List Slot} {S : List Value} {H : AH} {q : Option ORes → Prop} (h : Rsq (go n (20, L, (.int 1 :: S), H, cs, ss)) q) : Rsq (go (n + 1) (19, L, S, H, cs, ss)) q := by
  subst hgo
  exact res_of s1_19 h
theorem t1_20 {go : Nat → St → Option ORes} (hgo : go = orun prog_114_method_5_code (Option.some Jvm.ClassFile.FieldType.boolean) E1 1) {n cs ss : Nat} {L : List Slot} {S : List Value} {H : AH} {q : Option ORes → Prop} (h : Rsq (go n (24, L, S, H, cs, ss)) q) : Rsq (go (n + 1) (20, L, S, H, cs, ss)) q := by
  subst hgo
  exact res_of s1_20 h
theorem t1_23 {go : Nat → St → Option ORes} (hgo : go = orun prog_114_method_5_code (Option.some Jvm.ClassFile.FieldType.boolean) E1 1) {n cs ss : Nat} {L : List Slot} {S : List Value} {H : AH} {q : Option ORes → Prop} (h : Rsq (go n (24, L, (.int 0 :: S), H, cs, ss)) q) : Rsq (go (n + 1) (23, L, S, H, cs, ss)) q := by
  subst hgo
  exact res_of s1_23 h
theorem t1_24 {go : Nat → St → Option ORes} (hgo : go = orun prog_114_method_5_code (Option.some Jvm.ClassFile.FieldType.boolean) E1 1) {n cs ss : Nat} {l0 l1 : Slot} {S : List Value} {H : AH} {q : Option ORes → Prop} {x : Int32} (hk : so l1 = true) (h : Rsq (go n (25, [l0, .val (.int x)], S, H, cs, ss)) q) : Rsq (go (n + 1) (24, [l0, l1], (.int x :: S), H, cs, ss)) q := by
  subst hgo
  refine res_of s1_24 ?_
  rw [pI_int, st1_so (L := [l0, l1]) (k := 1) (l := l1) rfl hk]
  exact h
theorem t1_25 {go : Nat → St → Option ORes} (hgo : go = orun prog_114_method_5_code (Option.some Jvm.ClassFile.FieldType.boolean) E1 1) {n cs ss : Nat} {L : List Slot} {S : List Value} {H : AH} {q : Option ORes → Prop} (h : Rsq (go n (195, L, S, H, cs, ss)) q) : Rsq (go (n + 1) (25, L, S, H, cs, ss)) q := by
  subst hgo
  exact res_of s1_25 h
theorem t1_28 {go : Nat → St → Option ORes} (hgo : go = orun prog_114_method_5_code (Option.some Jvm.ClassFile.FieldType.boolean) E1 1) {n cs ss : Nat} {l1 : Slot} {S : List Value} {H : AH} {q : Option ORes → Prop} {v : Int32} (h : Rsq (go n (29, [.val (.int v), l1], (.int v :: S), H, cs, ss)) q) : Rsq (go (n + 1) (28, [.val (.int v), l1], S, H, cs, ss)) q := by
  subst hgo
  exact res_of s1_28 h
theorem t1_29 {go : Nat → St → Option ORes} (hgo : go = orun prog_114_method_5_code (Option.some Jvm.ClassFile.FieldType.boolean) E1 1) {n cs ss : Nat} {L : List Slot} {S : List Value} {H : AH} {q : Option ORes → Prop} (h : Rsq (go n (32, L, (.int 192 :: S), H, cs, ss)) q) : Rsq (go (n + 1) (29, L, S, H, cs, ss)) q := by
  subst hgo
  exact res_of s1_29 h
theorem t1_32t {go : Nat → St → Option ORes} (hgo : go = orun prog_114_method_5_code (Option.some Jvm.ClassFile.FieldType.boolean) E1 1) {n cs ss : Nat} {L : List Slot} {S : List Value} {H : AH} {q : Option ORes → Prop} {x y : Int32} (hc : x < y) (h : Rsq (go n (42, L, S, H, cs, ss)) q) : Rsq (go (n + 1) (32, L, (.int y :: .int x :: S), H, cs, ss)) q := by
  subst hgo
  exact res_of s1_32 (res_t hc h)
theorem t1_32f {go : Nat → St → Option ORes} (hgo : go = orun prog_114_method_5_code (Option.some Jvm.ClassFile.FieldType.boolean) E1 1) {n cs ss : Nat} {L : List Slot} {S : List Value} {H : AH} {q : Option ORes → Prop} {x y : Int32} (hc : ¬ x < y) (h : Rsq (go n (35, L, S, H, cs, ss)) q) : Rsq (go (n + 1) (32, L, (.int y :: .int x :: S), H, cs, ss)) q := by
  subst hgo
  exact res_of s1_32 (res_f hc h)
theorem t1_35 {go : Nat → St → Option ORes} (hgo : go = orun prog_114_method_5_code (Option.some Jvm.ClassFile.FieldType.boolean) E1 1) {n cs ss : Nat} {l1 : Slot} {S : List Value} {H : AH} {q : Option ORes → Prop} {v : Int32} (h : Rsq (go n (36, [.val (.int v), l1], (.int v :: S), H, cs, ss)) q) : Rsq (go (n + 1) (35, [.val (.int v), l1], S, H, cs, ss)) q := by
  subst hgo
  exact res_of s1_35 h
theorem t1_36 {go : Nat → St → Option ORes} (hgo : go = orun prog_114_method_5_code (Option.some Jvm.ClassFile.FieldType.boolean) E1 1) {n cs ss : Nat} {L : List Slot} {S : List Value} {H : AH} {q : Option ORes → Prop} (h : Rsq (go n (39, L, (.int 214 :: S), H, cs, ss)) q) : Rsq (go (n + 1) (36, L, S, H, cs, ss)) q := by
  subst hgo
  exact res_of s1_36 h
theorem t1_39t {go : Nat → St → Option ORes} (hgo : go = orun prog_114_method_5_code (Option.some Jvm.ClassFile.FieldType.boolean) E1 1) {n cs ss : Nat} {L : List Slot} {S : List Value} {H : AH} {q : Option ORes → Prop} {x y : Int32} (hc : y < x) (h : Rsq (go n (42, L, S, H, cs, ss)) q) : Rsq (go (n + 1) (39, L, (.int y :: .int x :: S), H, cs, ss)) q := by
  subst hgo
  exact res_of s1_39 (res_t hc h)
theorem t1_39f {go : Nat → St → Option ORes} (hgo : go = orun prog_114_method_5_code (Option.some Jvm.ClassFile.FieldType.boolean) E1 1) {n cs ss : Nat} {L : List Slot} {S : List Value} {H : AH} {q : Option ORes → Prop} {x y : Int32} (hc : ¬ y < x) (h : Rsq (go n (189, L, S, H, cs, ss)) q) : Rsq (go (n + 1) (39, L, (.int y :: .int x :: S), H, cs, ss)) q := by
  subst hgo
  exact res_of s1_39 (res_f hc h)
theorem t1_42 {go : Nat → St → Option ORes} (hgo : go = orun prog_114_method_5_code (Option.some Jvm.ClassFile.FieldType.boolean) E1 1) {n cs ss : Nat} {l1 : Slot} {S : List Value} {H : AH} {q : Option ORes → Prop} {v : Int32} (h : Rsq (go n (43, [.val (.int v), l1], (.int v :: S), H, cs, ss)) q) : Rsq (go (n + 1) (42, [.val (.int v), l1], S, H, cs, ss)) q := by
  subst hgo
  exact res_of s1_42 h
theorem t1_43 {go : Nat → St → Option ORes} (hgo : go = orun prog_114_method_5_code (Option.some Jvm.ClassFile.FieldType.boolean) E1 1) {n cs ss : Nat} {L : List Slot} {S : List Value} {H : AH} {q : Option ORes → Prop} (h : Rsq (go n (46, L, (.int 216 :: S), H, cs, ss)) q) : Rsq (go (n + 1) (43, L, S, H, cs, ss)) q := by
  subst hgo
  exact res_of s1_43 h
theorem t1_46t {go : Nat → St → Option ORes} (hgo : go = orun prog_114_method_5_code (Option.some Jvm.ClassFile.FieldType.boolean) E1 1) {n cs ss : Nat} {L : List Slot} {S : List Value} {H : AH} {q : Option ORes → Prop} {x y : Int32} (hc : x < y) (h : Rsq (go n (56, L, S, H, cs, ss)) q) : Rsq (go (n + 1) (46, L, (.int y :: .int x :: S), H, cs, ss)) q := by
  subst hgo
  exact res_of s1_46 (res_t hc h)
theorem t1_46f {go : Nat → St → Option ORes} (hgo : go = orun prog_114_method_5_code (Option.some Jvm.ClassFile.FieldType.boolean) E1 1) {n cs ss : Nat} {L : List Slot} {S : List Value} {H : AH} {q : Option ORes → Prop} {x y : Int32} (hc : ¬ x < y) (h : Rsq (go n (49, L, S, H, cs, ss)) q) : Rsq (go (n + 1) (46, L, (.int y :: .int x :: S), H, cs, ss)) q := by
  subst hgo
  exact res_of s1_46 (res_f hc h)
theorem t1_49 {go : Nat → St → Option ORes} (hgo : go = orun prog_114_method_5_code (Option.some Jvm.ClassFile.FieldType.boolean) E1 1) {n cs ss : Nat} {l1 : Slot} {S : List Value} {H : AH} {q : Option ORes → Prop} {v : Int32} (h : Rsq (go n (50, [.val (.int v), l1], (.int v :: S), H, cs, ss)) q) : Rsq (go (n + 1) (49, [.val (.int v), l1], S, H, cs, ss)) q := by
  subst hgo
  exact res_of s1_49 h
theorem t1_50 {go : Nat → St → Option ORes} (hgo : go = orun prog_114_method_5_code (Option.some Jvm.ClassFile.FieldType.boolean) E1 1) {n cs ss : Nat} {L : List Slot} {S : List Value} {H : AH} {q : Option ORes → Prop} (h : Rsq (go n (53, L, (.int 246 :: S), H, cs, ss)) q) : Rsq (go (n + 1) (50, L, S, H, cs, ss)) q := by
  subst hgo
  exact res_of s1_50 h
theorem t1_53t {go : Nat → St → Option ORes} (hgo : go = orun prog_114_method_5_code (Option.some Jvm.ClassFile.FieldType.boolean) E1 1) {n cs ss : Nat} {L : List Slot} {S : List Value} {H : AH} {q : Option ORes → Prop} {x y : Int32} (hc : y < x) (h : Rsq (go n (56, L, S, H, cs, ss)) q) : Rsq (go (n + 1) (53, L, (.int y :: .int x :: S), H, cs, ss)) q := by
  subst hgo
  exact res_of s1_53 (res_t hc h)
theorem t1_53f {go : Nat → St → Option ORes} (hgo : go = orun prog_114_method_5_code (Option.some Jvm.ClassFile.FieldType.boolean) E1 1) {n cs ss : Nat} {L : List Slot} {S : List Value} {H : AH} {q : Option ORes → Prop} {x y : Int32} (hc : ¬ y < x) (h : Rsq (go n (189, L, S, H, cs, ss)) q) : Rsq (go (n + 1) (53, L, (.int y :: .int x :: S), H, cs, ss)) q := by
  subst hgo
  exact res_of s1_53 (res_f hc h)
theorem t1_56 {go : Nat → St → Option ORes} (hgo : go = orun prog_114_method_5_code (Option.some Jvm.ClassFile.FieldType.boolean) E1 1) {n cs ss : Nat} {l1 : Slot} {S : List Value} {H : AH} {q : Option ORes → Prop} {v : Int32} (h : Rsq (go n (57, [.val (.int v), l1], (.int v :: S), H, cs, ss)) q) : Rsq (go (n + 1) (56, [.val (.int v), l1], S, H, cs, ss)) q := by
  subst hgo
  exact res_of s1_56 h
theorem t1_57 {go : Nat → St → Option ORes} (hgo : go = orun prog_114_method_5_code (Option.some Jvm.ClassFile.FieldType.boolean) E1 1) {n cs ss : Nat} {L : List Slot} {S : List Value} {H : AH} {q : Option ORes → Prop} (h : Rsq (go n (60, L, (.int 248 :: S), H, cs, ss)) q) : Rsq (go (n + 1) (57, L, S, H, cs, ss)) q := by
  subst hgo
  exact res_of s1_57 h
theorem t1_60t {go : Nat → St → Option ORes} (hgo : go = orun prog_114_method_5_code (Option.some Jvm.ClassFile.FieldType.boolean) E1 1) {n cs ss : Nat} {L : List Slot} {S : List Value} {H : AH} {q : Option ORes → Prop} {x y : Int32} (hc : x < y) (h : Rsq (go n (70, L, S, H, cs, ss)) q) : Rsq (go (n + 1) (60, L, (.int y :: .int x :: S), H, cs, ss)) q := by
  subst hgo
  exact res_of s1_60 (res_t hc h)
theorem t1_60f {go : Nat → St → Option ORes} (hgo : go = orun prog_114_method_5_code (Option.some Jvm.ClassFile.FieldType.boolean) E1 1) {n cs ss : Nat} {L : List Slot} {S : List Value} {H : AH} {q : Option ORes → Prop} {x y : Int32} (hc : ¬ x < y) (h : Rsq (go n (63, L, S, H, cs, ss)) q) : Rsq (go (n + 1) (60, L, (.int y :: .int x :: S), H, cs, ss)) q := by
  subst hgo
  exact res_of s1_60 (res_f hc h)
theorem t1_63 {go : Nat → St → Option ORes} (hgo : go = orun prog_114_method_5_code (Option.some Jvm.ClassFile.FieldType.boolean) E1 1) {n cs ss : Nat} {l1 : Slot} {S : List Value} {H : AH} {q : Option ORes → Prop} {v : Int32} (h : Rsq (go n (64, [.val (.int v), l1], (.int v :: S), H, cs, ss)) q) : Rsq (go (n + 1) (63, [.val (.int v), l1], S, H, cs, ss)) q := by
  subst hgo
  exact res_of s1_63 h
theorem t1_64 {go : Nat → St → Option ORes} (hgo : go = orun prog_114_method_5_code (Option.some Jvm.ClassFile.FieldType.boolean) E1 1) {n cs ss : Nat} {L : List Slot} {S : List Value} {H : AH} {q : Option ORes → Prop} (h : Rsq (go n (67, L, (.int 767 :: S), H, cs, ss)) q) : Rsq (go (n + 1) (64, L, S, H, cs, ss)) q := by
  subst hgo
  exact res_of s1_64 h
theorem t1_67t {go : Nat → St → Option ORes} (hgo : go = orun prog_114_method_5_code (Option.some Jvm.ClassFile.FieldType.boolean) E1 1) {n cs ss : Nat} {L : List Slot} {S : List Value} {H : AH} {q : Option ORes → Prop} {x y : Int32} (hc : y < x) (h : Rsq (go n (70, L, S, H, cs, ss)) q) : Rsq (go (n + 1) (67, L, (.int y :: .int x :: S), H, cs, ss)) q := by
  subst hgo
  exact res_of s1_67 (res_t hc h)
theorem t1_67f {go : Nat → St → Option ORes} (hgo : go = orun prog_114_method_5_code (Option.some Jvm.ClassFile.FieldType.boolean) E1 1) {n cs ss : Nat} {L : List Slot} {S : List Value} {H : AH} {q : Option ORes → Prop} {x y : Int32} (hc : ¬ y < x) (h : Rsq (go n (189, L, S, H, cs, ss)) q) : Rsq (go (n + 1) (67, L, (.int y :: .int x :: S), H, cs, ss)) q := by
  subst hgo
  exact res_of s1_67 (res_f hc h)
theorem t1_70 {go : Nat → St → Option ORes} (hgo : go = orun prog_114_method_5_code (Option.some Jvm.ClassFile.FieldType.boolean) E1 1) {n cs ss : Nat} {l1 : Slot} {S : List Value} {H : AH} {q : Option ORes → Prop} {v : Int32} (h : Rsq (go n (71, [.val (.int v), l1], (.int v :: S), H, cs, ss)) q) : Rsq (go (n + 1) (70, [.val (.int v), l1], S, H, cs, ss)) q := by
  subst hgo
  exact res_of s1_70 h
theorem t1_71 {go : Nat → St → Option ORes} (hgo : go = orun prog_114_method_5_code (Option.some Jvm.ClassFile.FieldType.boolean) E1 1) {n cs ss : Nat} {L : List Slot} {S : List Value} {H : AH} {q : Option ORes → Prop} (h : Rsq (go n (74, L, (.int 880 :: S), H, cs, ss)) q) : Rsq (go (n + 1) (71, L, S, H, cs, ss)) q := by
  subst hgo
  exact res_of s1_71 h
theorem t1_74t {go : Nat → St → Option ORes} (hgo : go = orun prog_114_method_5_code (Option.some Jvm.ClassFile.FieldType.boolean) E1 1) {n cs ss : Nat} {L : List Slot} {S : List Value} {H : AH} {q : Option ORes → Prop} {x y : Int32} (hc : x < y) (h : Rsq (go n (84, L, S, H, cs, ss)) q) : Rsq (go (n + 1) (74, L, (.int y :: .int x :: S), H, cs, ss)) q := by
  subst hgo
  exact res_of s1_74 (res_t hc h)
theorem t1_74f {go : Nat → St → Option ORes} (hgo : go = orun prog_114_method_5_code (Option.some Jvm.ClassFile.FieldType.boolean) E1 1) {n cs ss : Nat} {L : List Slot} {S : List Value} {H : AH} {q : Option ORes → Prop} {x y : Int32} (hc : ¬ x < y) (h : Rsq (go n (77, L, S, H, cs, ss)) q) : Rsq (go (n + 1) (74, L, (.int y :: .int x :: S), H, cs, ss)) q := by
  subst hgo
  exact res_of s1_74 (res_f hc h)
theorem t1_77 {go : Nat → St → Option ORes} (hgo : go = orun prog_114_method_5_code (Option.some Jvm.ClassFile.FieldType.boolean) E1 1) {n cs ss : Nat} {l1 : Slot} {S : List Value} {H : AH} {q : Option ORes → Prop} {v : Int32} (h : Rsq (go n (78, [.val (.int v), l1], (.int v :: S), H, cs, ss)) q) : Rsq (go (n + 1) (77, [.val (.int v), l1], S, H, cs, ss)) q := by
  subst hgo
  exact res_of s1_77 h
theorem t1_78 {go : Nat → St → Option ORes} (hgo : go = orun prog_114_method_5_code (Option.some Jvm.ClassFile.FieldType.boolean) E1 1) {n cs ss : Nat} {L : List Slot} {S : List Value} {H : AH} {q : Option ORes → Prop} (h : Rsq (go n (81, L, (.int 893 :: S), H, cs, ss)) q) : Rsq (go (n + 1) (78, L, S, H, cs, ss)) q := by
  subst hgo
  exact res_of s1_78 h
theorem t1_81t {go : Nat → St → Option ORes} (hgo : go = orun prog_114_method_5_code (Option.some Jvm.ClassFile.FieldType.boolean) E1 1) {n cs ss : Nat} {L : List Slot} {S : List Value} {H : AH} {q : Option ORes → Prop} {x y : Int32} (hc : y < x) (h : Rsq (go n (84, L, S, H, cs, ss)) q) : Rsq (go (n + 1) (81, L, (.int y :: .int x :: S), H, cs, ss)) q := by
  subst hgo
  exact res_of s1_81 (res_t hc h)
theorem t1_81f {go : Nat → St → Option ORes} (hgo : go = orun prog_114_method_5_code (Option.some Jvm.ClassFile.FieldType.boolean) E1 1) {n cs ss : Nat} {L : List Slot} {S : List Value} {H : AH} {q : Option ORes → Prop} {x y : Int32} (hc : ¬ y < x) (h : Rsq (go n (189, L, S, H, cs, ss)) q) : Rsq (go (n + 1) (81, L, (.int y :: .int x :: S), H, cs, ss)) q := by
  subst hgo
  exact res_of s1_81 (res_f hc h)
theorem t1_84 {go : Nat → St → Option ORes} (hgo : go = orun prog_114_method_5_code (Option.some Jvm.ClassFile.FieldType.boolean) E1 1) {n cs ss : Nat} {l1 : Slot} {S : List Value} {H : AH} {q : Option ORes → Prop} {v : Int32} (h : Rsq (go n (85, [.val (.int v), l1], (.int v :: S), H, cs, ss)) q) : Rsq (go (n + 1) (84, [.val (.int v), l1], S, H, cs, ss)) q := by
  subst hgo
  exact res_of s1_84 h
theorem t1_85 {go : Nat → St → Option ORes} (hgo : go = orun prog_114_method_5_code (Option.some Jvm.ClassFile.FieldType.boolean) E1 1) {n cs ss : Nat} {L : List Slot} {S : List Value} {H : AH} {q : Option ORes → Prop} (h : Rsq (go n (88, L, (.int 895 :: S), H, cs, ss)) q) : Rsq (go (n + 1) (85, L, S, H, cs, ss)) q := by
  subst hgo
  exact res_of s1_85 h
theorem t1_88t {go : Nat → St → Option ORes} (hgo : go = orun prog_114_method_5_code (Option.some Jvm.ClassFile.FieldType.boolean) E1 1) {n cs ss : Nat} {L : List Slot} {S : List Value} {H : AH} {q : Option ORes → Prop} {x y : Int32} (hc : x < y) (h : Rsq (go n (98, L, S, H, cs, ss)) q) : Rsq (go (n + 1) (88, L, (.int y :: .int x :: S), H, cs, ss)) q := by
  subst hgo
  exact res_of s1_88 (res_t hc h)
theorem t1_88f {go : Nat → St → Option ORes} (hgo : go = orun prog_114_method_5_code (Option.some Jvm.ClassFile.FieldType.boolean) E1 1) {n cs ss : Nat} {L : List Slot} {S : List Value} {H : AH} {q : Option ORes → Prop} {x y : Int32} (hc : ¬ x < y) (h : Rsq (go n (91, L, S, H, cs, ss)) q) : Rsq (go (n + 1) (88, L, (.int y :: .int x :: S), H, cs, ss)) q := by
  subst hgo
  exact res_of s1_88 (res_f hc h)
theorem t1_91 {go : Nat → St → Option ORes} (hgo : go = orun prog_114_method_5_code (Option.some Jvm.ClassFile.FieldType.boolean) E1 1) {n cs ss : Nat} {l1 : Slot} {S : List Value} {H : AH} {q : Option ORes → Prop} {v : Int32} (h : Rsq (go n (92, [.val (.int v), l1], (.int v :: S), H, cs, ss)) q) : Rsq (go (n + 1) (91, [.val (.int v), l1], S, H, cs, ss)) q := by
  subst hgo
  exact res_of s1_91 h
theorem t1_92 {go : Nat → St → Option ORes} (hgo : go = orun prog_114_method_5_code (Option.some Jvm.ClassFile.FieldType.boolean) E1 1) {n cs ss : Nat} {L : List Slot} {S : List Value} {H : AH} {q : Option ORes → Prop} (h : Rsq (go n (95, L, (.int 8191 :: S), H, cs, ss)) q) : Rsq (go (n + 1) (92, L, S, H, cs, ss)) q := by
  subst hgo
  exact res_of s1_92 h
theorem t1_95t {go : Nat → St → Option ORes} (hgo : go = orun prog_114_method_5_code (Option.some Jvm.ClassFile.FieldType.boolean) E1 1) {n cs ss : Nat} {L : List Slot} {S : List Value} {H : AH} {q : Option ORes → Prop} {x y : Int32} (hc : y < x) (h : Rsq (go n (98, L, S, H, cs, ss)) q) : Rsq (go (n + 1) (95, L, (.int y :: .int x :: S), H, cs, ss)) q := by
  subst hgo
  exact res_of s1_95 (res_t hc h)
theorem t1_95f {go : Nat → St → Option ORes} (hgo : go = orun prog_114_method_5_code (Option.some Jvm.ClassFile.FieldType.boolean) E1 1) {n cs ss : Nat} {L : List Slot} {S : List Value} {H : AH} {q : Option ORes → Prop} {x y : Int32} (hc : ¬ y < x) (h : Rsq (go n (189, L, S, H, cs, ss)) q) : Rsq (go (n + 1) (95, L, (.int y :: .int x :: S), H, cs, ss)) q := by
  subst hgo
  exact res_of s1_95 (res_f hc h)
theorem t1_98 {go : Nat → St → Option ORes} (hgo : go = orun prog_114_method_5_code (Option.some Jvm.ClassFile.FieldType.boolean) E1 1) {n cs ss : Nat} {l1 : Slot} {S : List Value} {H : AH} {q : Option ORes → Prop} {v : Int32} (h : Rsq (go n (99, [.val (.int v), l1], (.int v :: S), H, cs, ss)) q) : Rsq (go (n + 1) (98, [.val (.int v), l1], S, H, cs, ss)) q := by
  subst hgo
  exact res_of s1_98 h
theorem t1_99 {go : Nat → St → Option ORes} (hgo : go = orun prog_114_method_5_code (Option.some Jvm.ClassFile.FieldType.boolean) E1 1) {n cs ss : Nat} {L : List Slot} {S : List Value} {H : AH} {q : Option ORes → Prop} (h : Rsq (go n (102, L, (.int 8204 :: S), H, cs, ss)) q) : Rsq (go (n + 1) (99, L, S, H, cs, ss)) q := by
  subst hgo
  exact res_of s1_99 h
theorem t1_102t {go : Nat → St → Option ORes} (hgo : go = orun prog_114_method_5_code (Option.some Jvm.ClassFile.FieldType.boolean) E1 1) {n cs ss : Nat} {L : List Slot} {S : List Value} {H : AH} {q : Option ORes → Prop} {x y : Int32} (hc : x = y) (h : Rsq (go n (189, L, S, H, cs, ss)) q) : Rsq (go (n + 1) (102, L, (.int y :: .int x :: S), H, cs, ss)) q := by
  subst hgo
  exact res_of s1_102 (res_t hc h)
theorem t1_102f {go : Nat → St → Option ORes} (hgo : go = orun prog_114_method_5_code (Option.some Jvm.ClassFile.FieldType.boolean) E1 1) {n cs ss : Nat} {L : List Slot} {S : List Value} {H : AH} {q : Option ORes → Prop} {x y : Int32} (hc : ¬ x = y) (h : Rsq (go n (105, L, S, H, cs, ss)) q) : Rsq (go (n + 1) (102, L, (.int y :: .int x :: S), H, cs, ss)) q := by
  subst hgo
  exact res_of s1_102 (res_f hc h)
theorem t1_105 {go : Nat → St → Option ORes} (hgo : go = orun prog_114_method_5_code (Option.some Jvm.ClassFile.FieldType.boolean) E1 1) {n cs ss : Nat} {l1 : Slot} {S : List Value} {H : AH} {q : Option ORes → Prop} {v : Int32} (h : Rsq (go n (106, [.val (.int v), l1], (.int v :: S), H, cs, ss)) q) : Rsq (go (n + 1) (105, [.val (.int v), l1], S, H, cs, ss)) q := by
  subst hgo
  exact res_of s1_105 h
theorem t1_106 {go : Nat → St → Option ORes} (hgo : go = orun prog_114_method_5_code (Option.some Jvm.ClassFile.FieldType.boolean) E1 1) {n cs ss : Nat} {L : List Slot} {S : List Value} {H : AH} {q : Option ORes → Prop} (h : Rsq (go n (109, L, (.int 8205 :: S), H, cs, ss)) q) : Rsq (go (n + 1) (106, L, S, H, cs, ss)) q := by
  subst hgo
  exact res_of s1_106 h
theorem t1_109t {go : Nat → St → Option ORes} (hgo : go = orun prog_114_method_5_code (Option.some Jvm.ClassFile.FieldType.boolean) E1 1) {n cs ss : Nat} {L : List Slot} {S : List Value} {H : AH} {q : Option ORes → Prop} {x y : Int32} (hc : x = y) (h : Rsq (go n (189, L, S, H, cs, ss)) q) : Rsq (go (n + 1) (109, L, (.int y :: .int x :: S), H, cs, ss)) q := by
  subst hgo
  exact res_of s1_109 (res_t hc h)
theorem t1_109f {go : Nat → St → Option ORes} (hgo : go = orun prog_114_method_5_code (Option.some Jvm.ClassFile.FieldType.boolean) E1 1) {n cs ss : Nat} {L : List Slot} {S : List Value} {H : AH} {q : Option ORes → Prop} {x y : Int32} (hc : ¬ x = y) (h : Rsq (go n (112, L, S, H, cs, ss)) q) : Rsq (go (n + 1) (109, L, (.int y :: .int x :: S), H, cs, ss)) q := by
  subst hgo
  exact res_of s1_109 (res_f hc h)
theorem t1_112 {go : Nat → St → Option ORes} (hgo : go = orun prog_114_method_5_code (Option.some Jvm.ClassFile.FieldType.boolean) E1 1) {n cs ss : Nat} {l1 : Slot} {S : List Value} {H : AH} {q : Option ORes → Prop} {v : Int32} (h : Rsq (go n (113, [.val (.int v), l1], (.int v :: S), H, cs, ss)) q) : Rsq (go (n + 1) (112, [.val (.int v), l1], S, H, cs, ss)) q := by
  subst hgo
  exact res_of s1_112 h
theorem t1_113 {go : Nat → St → Option ORes} (hgo : go = orun prog_114_method_5_code (Option.some Jvm.ClassFile.FieldType.boolean) E1 1) {n cs ss : Nat} {L : List Slot} {S : List Value} {H : AH} {q : Option ORes → Prop} (h : Rsq (go n (116, L, (.int 8304 :: S), H, cs, ss)) q) : Rsq (go (n + 1) (113, L, S, H, cs, ss)) q := by
  subst hgo
  exact res_of s1_113 h
theorem t1_116t {go : Nat → St → Option ORes} (hgo : go = orun prog_114_method_5_code (Option.some Jvm.ClassFile.FieldType.boolean) E1 1) {n cs ss : Nat} {L : List Slot} {S : List Value} {H : AH} {q : Option ORes → Prop} {x y : Int32} (hc : x < y) (h : Rsq (go n (126, L, S, H, cs, ss)) q) : Rsq (go (n + 1) (116, L, (.int y :: .int x :: S), H, cs, ss)) q := by
  subst hgo
  exact res_of s1_116 (res_t hc h)
theorem t1_116f {go : Nat → St → Option ORes} (hgo : go = orun prog_114_method_5_code (Option.some Jvm.ClassFile.FieldType.boolean) E1 1) {n cs ss : Nat} {L : List Slot} {S : List Value} {H : AH} {q : Option ORes → Prop} {x y : Int32} (hc : ¬ x < y) (h : Rsq (go n (119, L, S, H, cs, ss)) q) : Rsq (go (n + 1) (116, L, (.int y :: .int x :: S), H, cs, ss)) q := by
  subst hgo
  exact res_of s1_116 (res_f hc h)
theorem t1_119 {go : Nat → St → Option ORes} (hgo : go = orun prog_114_method_5_code (Option.some Jvm.ClassFile.FieldType.boolean) E1 1) {n cs ss : Nat} {l1 : Slot} {S : List Value} {H : AH} {q : Option ORes → Prop} {v : Int32} (h : Rsq (go n (120, [.val (.int v), l1], (.int v :: S), H, cs, ss)) q) : Rsq (go (n + 1) (119, [.val (.int v), l1], S, H, cs, ss)) q := by
  subst hgo
  exact res_of s1_119 h
theorem t1_120 {go : Nat → St → Option ORes} (hgo : go = orun prog_114_method_5_code (Option.some Jvm.ClassFile.FieldType.boolean) E1 1) {n cs ss : Nat} {L : List Slot} {S : List Value} {H : AH} {q : Option ORes → Prop} (h : Rsq (go n (123, L, (.int 8591 :: S), H, cs, ss)) q) : Rsq (go (n + 1) (120, L, S, H, cs, ss)) q := by
  subst hgo
  exact res_of s1_120 h
theorem t1_123t {go : Nat → St → Option ORes} (hgo : go = orun prog_114_method_5_code (Option.some Jvm.ClassFile.FieldType.boolean) E1 1) {n cs ss : Nat} {L : List Slot} {S : List Value} {H : AH} {q : Option ORes → Prop} {x y : Int32} (hc : y < x) (h : Rsq (go n (126, L, S, H, cs, ss)) q) : Rsq (go (n + 1) (123, L, (.int y :: .int x :: S), H, cs, ss)) q := by
  subst hgo
  exact res_of s1_123 (res_t hc h)
theorem t1_123f {go : Nat → St → Option ORes} (hgo : go = orun prog_114_method_5_code (Option.some Jvm.ClassFile.FieldType.boolean) E1 1) {n cs ss : Nat} {L : List Slot} {S : List Value} {H : AH} {q : Option ORes → Prop} {x y : Int32} (hc : ¬ y < x) (h : Rsq (go n (189, L, S, H, cs, ss)) q) : Rsq (go (n + 1) (123, L, (.int y :: .int x :: S), H, cs, ss)) q := by
  subst hgo
  exact res_of s1_123 (res_f hc h)
theorem t1_126 {go : Nat → St → Option ORes} (hgo : go = orun prog_114_method_5_code (Option.some Jvm.ClassFile.FieldType.boolean) E1 1) {n cs ss : Nat} {l1 : Slot} {S : List Value} {H : AH} {q : Option ORes → Prop} {v : Int32} (h : Rsq (go n (127, [.val (.int v), l1], (.int v :: S), H, cs, ss)) q) : Rsq (go (n + 1) (126, [.val (.int v), l1], S, H, cs, ss)) q := by
  subst hgo
  exact res_of s1_126 h
theorem t1_127 {go : Nat → St → Option ORes} (hgo : go = orun prog_114_method_5_code (Option.some Jvm.ClassFile.FieldType.boolean) E1 1) {n cs ss : Nat} {L : List Slot} {S : List Value} {H : AH} {q : Option ORes → Prop} (h : Rsq (go n (130, L, (.int 11264 :: S), H, cs, ss)) q) : Rsq (go (n + 1) (127, L, S, H, cs, ss)) q := by
  subst hgo
  exact res_of s1_127 h
theorem t1_130t {go : Nat → St → Option ORes} (hgo : go = orun prog_114_method_5_code (Option.some Jvm.ClassFile.FieldType.boolean) E1 1) {n cs ss : Nat} {L : List Slot} {S : List Value} {H : AH} {q : Option ORes → Prop} {x y : Int32} (hc : x < y) (h : Rsq (go n (140, L, S, H, cs, ss)) q) : Rsq (go (n + 1) (130, L, (.int y :: .int x :: S), H, cs, ss)) q := by
  subst hgo
  exact res_of s1_130 (res_t hc h)
theorem t1_130f {go : Nat → St → Option ORes} (hgo : go = orun prog_114_method_5_code (Option.some Jvm.ClassFile.FieldType.boolean) E1 1) {n cs ss : Nat} {L : List Slot} {S : List Value} {H : AH} {q : Option ORes → Prop} {x y : Int32} (hc : ¬ x < y) (h : Rsq (go n (133, L, S, H, cs, ss)) q) : Rsq (go (n + 1) (130, L, (.int y :: .int x :: S), H, cs, ss)) q := by
  subst hgo
  exact res_of s1_130 (res_f hc h)
theorem t1_133 {go : Nat → St → Option ORes} (hgo : go = orun prog_114_method_5_code (Option.some Jvm.ClassFile.FieldType.boolean) E1 1) {n cs ss : Nat} {l1 : Slot} {S : List Value} {H : AH} {q : Option ORes → Prop} {v : Int32} (h : Rsq (go n (134, [.val (.int v), l1], (.int v :: S), H, cs, ss)) q) : Rsq (go (n + 1) (133, [.val (.int v), l1], S, H, cs, ss)) q := by
  subst hgo
  exact res_of s1_133 h
theorem t1_134 {go : Nat → St → Option ORes} (hgo : go = orun prog_114_method_5_code (Option.some Jvm.ClassFile.FieldType.boolean) E1 1) {n cs ss : Nat} {L : List Slot} {S : List Value} {H : AH} {q : Option ORes → Prop} (h : Rsq (go n (137, L, (.int 12271 :: S), H, cs, ss)) q) : Rsq (go (n + 1) (134, L, S, H, cs, ss)) q := by
  subst hgo
  exact res_of s1_134 h
theorem t1_137t {go : Nat → St → Option ORes} (hgo : go = orun prog_114_method_5_code (Option.some Jvm.ClassFile.FieldType.boolean) E1 1) {n cs ss : Nat} {L : List Slot} {S : List Value} {H : AH} {q : Option ORes → Prop} {x y : Int32} (hc : y < x) (h : Rsq (go n (140, L, S, H, cs, ss)) q) : Rsq (go (n + 1) (137, L, (.int y :: .int x :: S), H, cs, ss)) q := by
  subst hgo
  exact res_of s1_137 (res_t hc h)
theorem t1_137f {go : Nat → St → Option ORes} (hgo : go = orun prog_114_method_5_code (Option.some Jvm.ClassFile.FieldType.boolean) E1 1) {n cs ss : Nat} {L : List Slot} {S : List Value} {H : AH} {q : Option ORes → Prop} {x y : Int32} (hc : ¬ y < x) (h : Rsq (go n (189, L, S, H, cs, ss)) q) : Rsq (go (n + 1) (137, L, (.int y :: .int x :: S), H, cs, ss)) q := by
  subst hgo
  exact res_of s1_137 (res_f hc h)
theorem t1_140 {go : Nat → St → Option ORes} (hgo : go = orun prog_114_method_5_code (Option.some Jvm.ClassFile.FieldType.boolean) E1 1) {n cs ss : Nat} {l1 : Slot} {S : List Value} {H : AH} {q : Option ORes → Prop} {v : Int32} (h : Rsq (go n (141, [.val (.int v), l1], (.int v :: S), H, cs, ss)) q) : Rsq (go (n + 1) (140, [.val (.int v), l1], S, H, cs, ss)) q := by
  subst hgo
  exact res_of s1_140 h
theorem t1_141 {go : Nat → St → Option ORes} (hgo : go = orun prog_114_method_5_code (Option.some Jvm.ClassFile.FieldType.boolean) E1 1) {n cs ss : Nat} {L : List Slot} {S : List Value} {H : AH} {q : Option ORes → Prop} (h : Rsq (go n (144, L, (.int 12289 :: S), H, cs, ss)) q) : Rsq (go (n + 1) (141, L, S, H, cs, ss)) q := by
  subst hgo
  exact res_of s1_141 h
theorem t1_144t {go : Nat → St → Option ORes} (hgo : go = orun prog_114_method_5_code (Option.some Jvm.ClassFile.FieldType.boolean) E1 1) {n cs ss : Nat} {L : List Slot} {S : List Value} {H : AH} {q : Option ORes → Prop} {x y : Int32} (hc : x < y) (h : Rsq (go n (153, L, S, H, cs, ss)) q) : Rsq (go (n + 1) (144, L, (.int y :: .int x :: S), H, cs, ss)) q := by
  subst hgo
  exact res_of s1_144 (res_t hc h)
theorem t1_144f {go : Nat → St → Option ORes} (hgo : go = orun prog_114_method_5_code (Option.some Jvm.ClassFile.FieldType.boolean) E1 1) {n cs ss : Nat} {L : List Slot} {S : List Value} {H : AH} {q : Option ORes → Prop} {x y : Int32} (hc : ¬ x < y) (h : Rsq (go n (147, L, S, H, cs, ss)) q) : Rsq (go (n + 1) (144, L, (.int y :: .int x :: S), H, cs, ss)) q := by
  subst hgo
  exact res_of s1_144 (res_f hc h)
theorem t1_147 {go : Nat → St → Option ORes} (hgo : go = orun prog_114_method_5_code (Option.some Jvm.ClassFile.FieldType.boolean) E1 1) {n cs ss : Nat} {l1 : Slot} {S : List Value} {H : AH} {q : Option ORes → Prop} {v : Int32} (h : Rsq (go n (148, [.val (.int v), l1], (.int v :: S), H, cs, ss)) q) : Rsq (go (n + 1) (147, [.val (.int v), l1], S, H, cs, ss)) q := by
  subst hgo
  exact res_of s1_147 h
theorem t1_148 {go : Nat → St → Option ORes} (hgo : go = orun prog_114_method_5_code (Option.some Jvm.ClassFile.FieldType.boolean) E1 1) {n cs ss : Nat} {L : List Slot} {S : List Value} {H : AH} {q : Option ORes → Prop} (h : Rsq (go n (150, L, (.int (55295) :: S), H, cs, ss)) q) : Rsq (go (n + 1) (148, L, S, H, cs, ss)) q := by
  subst hgo
  exact res_of s1_148 h
theorem t1_150t {go : Nat → St → Option ORes} (hgo : go = orun prog_114_method_5_code (Option.some Jvm.ClassFile.FieldType.boolean) E1 1) {n cs ss : Nat} {L : List Slot} {S : List Value} {H : AH} {q : Option ORes → Prop} {x y : Int32} (hc : y < x) (h : Rsq (go n (153, L, S, H, cs, ss)) q) : Rsq (go (n + 1) (150, L, (.int y :: .int x :: S), H, cs, ss)) q := by
  subst hgo
  exact res_of s1_150 (res_t hc h)
theorem t1_150f {go : Nat → St → Option ORes} (hgo : go = orun prog_114_method_5_code (Option.some Jvm.ClassFile.FieldType.boolean) E1 1) {n cs ss : Nat} {L : List Slot} {S : List Value} {H : AH} {q : Option ORes → Prop} {x y : Int32} (hc : ¬ y < x) (h : Rsq (go n (189, L, S, H, cs, ss)) q) : Rsq (go (n + 1) (150, L, (.int y :: .int x :: S), H, cs, ss)) q := by
  subst hgo
  exact res_of s1_150 (res_f hc h)
theorem t1_153 {go : Nat → St → Option ORes} (hgo : go = orun prog_114_method_5_code (Option.some Jvm.ClassFile.FieldType.boolean) E1 1) {n cs ss : Nat} {l1 : Slot} {S : List Value} {H : AH} {q : Option ORes → Prop} {v : Int32} (h : Rsq (go n (154, [.val (.int v), l1], (.int v :: S), H, cs, ss)) q) : Rsq (go (n + 1) (153, [.val (.int v), l1], S, H, cs, ss)) q := by
  subst hgo
  exact res_of s1_153 h
theorem t1_154 {go : Nat → St → Option ORes} (hgo : go = orun prog_114_method_5_code (Option.some Jvm.ClassFile.FieldType.boolean) E1 1) {n cs ss : Nat} {L : List Slot} {S : List Value} {H : AH} {q : Option ORes → Prop} (h : Rsq (go n (156, L, (.int (63744) :: S), H, cs, ss)) q) : Rsq (go (n + 1) (154, L, S, H, cs, ss)) q := by
  subst hgo
  exact res_of s1_154 h
theorem t1_156t {go : Nat → St → Option ORes} (hgo : go = orun prog_114_method_5_code (Option.some Jvm.ClassFile.FieldType.boolean) E1 1) {n cs ss : Nat} {L : List Slot} {S : List Value} {H : AH} {q : Option ORes → Prop} {x y : Int32} (hc : x < y) (h : Rsq (go n (165, L, S, H, cs, ss)) q) : Rsq (go (n + 1) (156, L, (.int y :: .int x :: S), H, cs, ss)) q := by
  subst hgo
  exact res_of s1_156 (res_t hc h)
theorem t1_156f {go : Nat → St → Option ORes} (hgo : go = orun prog_114_method_5_code (Option.some Jvm.ClassFile.FieldType.boolean) E1 1) {n cs ss : Nat} {L : List Slot} {S : List Value} {H : AH} {q : Option ORes → Prop} {x y : Int32} (hc : ¬ x < y) (h : Rsq (go n (159, L, S, H, cs, ss)) q) : Rsq (go (n + 1) (156, L, (.int y :: .int x :: S), H, cs, ss)) q := by
  subst hgo
  exact res_of s1_156 (res_f hc h)
theorem t1_159 {go : Nat → St → Option ORes} (hgo : go = orun prog_114_method_5_code (Option.some Jvm.ClassFile.FieldType.boolean) E1 1) {n cs ss : Nat} {l1 : Slot} {S : List Value} {H : AH} {q : Option ORes → Prop} {v : Int32} (h : Rsq (go n (160, [.val (.int v), l1], (.int v :: S), H, cs, ss)) q) : Rsq (go (n + 1) (159, [.val (.int v), l1], S, H, cs, ss)) q := by
  subst hgo
  exact res_of s1_159 h
theorem t1_160 {go : Nat → St → Option ORes} (hgo : go = orun prog_114_method_5_code (Option.some Jvm.ClassFile.FieldType.boolean) E1 1) {n cs ss : Nat} {L : List Slot} {S : List Value} {H : AH} {q : Option ORes → Prop} (h : Rsq (go n (162, L, (.int (64975) :: S), H, cs, ss)) q) : Rsq (go (n + 1) (160, L, S, H, cs, ss)) q := by
  subst hgo
  exact res_of s1_160 h
theorem t1_162t {go : Nat → St → Option ORes} (hgo : go = orun prog_114_method_5_code (Option.some Jvm.ClassFile.FieldType.boolean) E1 1) {n cs ss : Nat} {L : List Slot} {S : List Value} {H : AH} {q : Option ORes → Prop} {x y : Int32} (hc : y < x) (h : Rsq (go n (165, L, S, H, cs, ss)) q) : Rsq (go (n + 1) (162, L, (.int y :: .int x :: S), H, cs, ss)) q := by
  subst hgo
  exact res_of s1_162 (res_t hc h)
theorem t1_162f {go : Nat → St → Option ORes} (hgo : go = orun prog_114_method_5_code (Option.some Jvm.ClassFile.FieldType.boolean) E1 1) {n cs ss : Nat} {L : List Slot} {S : List Value} {H : AH} {q : Option ORes → Prop} {x y : Int32} (hc : ¬ y < x) (h : Rsq (go n (189, L, S, H, cs, ss)) q) : Rsq (go (n + 1) (162, L, (.int y :: .int x :: S), H, cs, ss)) q := by
  subst hgo
  exact res_of s1_162 (res_f hc h)
theorem t1_165 {go : Nat → St → Option ORes} (hgo : go = orun prog_114_method_5_code (Option.some Jvm.ClassFile.FieldType.boolean) E1 1) {n cs ss : Nat} {l1 : Slot} {S : List Value} {H : AH} {q : Option ORes → Prop} {v : Int32} (h : Rsq (go n (166, [.val (.int v), l1], (.int v :: S), H, cs, ss)) q) : Rsq (go (n + 1) (165, [.val (.int v), l1], S, H, cs, ss)) q := by
  subst hgo
  exact res_of s1_165 h
theorem t1_166 {go : Nat → St → Option ORes} (hgo : go = orun prog_114_method_5_code (Option.some Jvm.ClassFile.FieldType.boolean) E1 1) {n cs ss : Nat} {L : List Slot} {S : List Value} {H : AH} {q : Option ORes → Prop} (h : Rsq (go n (168, L, (.int (65008) :: S), H, cs, ss)) q) : Rsq (go (n + 1) (166, L, S, H, cs, ss)) q := by
  subst hgo
  exact res_of s1_166 h
theorem t1_168t {go : Nat → St → Option ORes} (hgo : go = orun prog_114_method_5_code (Option.some Jvm.ClassFile.FieldType.boolean) E1 1) {n cs ss : Nat} {L : List Slot} {S : List Value} {H : AH} {q : Option ORes → Prop} {x y : Int32} (hc : x < y) (h : Rsq (go n (177, L, S, H, cs, ss)) q) : Rsq (go (n + 1) (168, L, (.int y :: .int x :: S), H, cs, ss)) q := by
  subst hgo
  exact res_of s1_168 (res_t hc h)
theorem t1_168f {go : Nat → St → Option ORes} (hgo : go = orun prog_114_method_5_code (Option.some Jvm.ClassFile.FieldType.boolean) E1 1) {n cs ss : Nat} {L : List Slot} {S : List Value} {H : AH} {q : Option ORes → Prop} {x y : Int32} (hc : ¬ x < y) (h : Rsq (go n (171, L, S, H, cs, ss)) q) : Rsq (go (n + 1) (168, L, (.int y :: .int x :: S), H, cs, ss)) q := by
  subst hgo
  exact res_of s1_168 (res_f hc h)
theorem t1_171 {go : Nat → St → Option ORes} (hgo : go = orun prog_114_method_5_code (Option.some Jvm.ClassFile.FieldType.boolean) E1 1) {n cs ss : Nat} {l1 : Slot} {S : List Value} {H : AH} {q : Option ORes → Prop} {v : Int32} (h : Rsq (go n (172, [.val (.int v), l1], (.int v :: S), H, cs, ss)) q) : Rsq (go (n + 1) (171, [.val (.int v), l1], S, H, cs, ss)) q := by
  subst hgo
  exact res_of s1_171 h
theorem t1_172 {go : Nat → St → Option ORes} (hgo : go = orun prog_114_method_5_code (Option.some Jvm.ClassFile.FieldType.boolean) E1 1) {n cs ss : Nat} {L : List Slot} {S : List Value} {H : AH} {q : Option ORes → Prop} (h : Rsq (go n (174, L, (.int (65533) :: S), H, cs, ss)) q) : Rsq (go (n + 1) (172, L, S, H, cs, ss)) q := by
  subst hgo
  exact res_of s1_172 h
theorem t1_174t {go : Nat → St → Option ORes} (hgo : go = orun prog_114_method_5_code (Option.some Jvm.ClassFile.FieldType.boolean) E1 1) {n cs ss : Nat} {L : List Slot} {S : List Value} {H : AH} {q : Option ORes → Prop} {x y : Int32} (hc : y < x) (h : Rsq (go n (177, L, S, H, cs, ss)) q) : Rsq (go (n + 1) (174, L, (.int y :: .int x :: S), H, cs, ss)) q := by
  subst hgo
  exact res_of s1_174 (res_t hc h)
theorem t1_174f {go : Nat → St → Option ORes} (hgo : go = orun prog_114_method_5_code (Option.some Jvm.ClassFile.FieldType.boolean) E1 1) {n cs ss : Nat} {L : List Slot} {S : List Value} {H : AH} {q : Option ORes → Prop} {x y : Int32} (hc : ¬ y < x) (h : Rsq (go n (189, L, S, H, cs, ss)) q) : Rsq (go (n + 1) (174, L, (.int y :: .int x :: S), H, cs, ss)) q := by
  subst hgo
  exact res_of s1_174 (res_f hc h)
theorem t1_177 {go : Nat → St → Option ORes} (hgo : go = orun prog_114_method_5_code (Option.some Jvm.ClassFile.FieldType.boolean) E1 1) {n cs ss : Nat} {l1 : Slot} {S : List Value} {H : AH} {q : Option ORes → Prop} {v : Int32} (h : Rsq (go n (178, [.val (.int v), l1], (.int v :: S), H, cs, ss)) q) : Rsq (go (n + 1) (177, [.val (.int v), l1], S, H, cs, ss)) q := by
  subst hgo
  exact res_of s1_177 h
theorem t1_178 {go : Nat → St → Option ORes} (hgo : go = orun prog_114_method_5_code (Option.some Jvm.ClassFile.FieldType.boolean) E1 1) {n cs ss : Nat} {L : List Slot} {S : List Value} {H : AH} {q : Option ORes → Prop} (h : Rsq (go n (180, L, (.int (65536) :: S), H, cs, ss)) q) : Rsq (go (n + 1) (178, L, S, H, cs, ss)) q := by
  subst hgo
  exact res_of s1_178 h
theorem t1_180t {go : Nat → St → Option ORes} (hgo : go = orun prog_114_method_5_code (Option.some Jvm.ClassFile.FieldType.boolean) E1 1) {n cs ss : Nat} {L : List Slot} {S : List Value} {H : AH} {q : Option ORes → Prop} {x y : Int32} (hc : x < y) (h : Rsq (go n (193, L, S, H, cs, ss)) q) : Rsq (go (n + 1) (180, L, (.int y :: .int x :: S), H, cs, ss)) q := by
  subst hgo
  exact res_of s1_180 (res_t hc h)
theorem t1_180f {go : Nat → St → Option ORes} (hgo : go = orun prog_114_method_5_code (Option.some Jvm.ClassFile.FieldType.boolean) E1 1) {n cs ss : Nat} {L : List Slot} {S : List Value} {H : AH} {q : Option ORes → Prop} {x y : Int32} (hc : ¬ x < y) (h : Rsq (go n (183, L, S, H, cs, ss)) q) : Rsq (go (n + 1) (180, L, (.int y :: .int x :: S), H, cs, ss)) q := by
  subst hgo
  exact res_of s1_180 (res_f hc h)
theorem t1_183 {go : Nat → St → Option ORes} (hgo : go = orun prog_114_method_5_code (Option.some Jvm.ClassFile.FieldType.boolean) E1 1) {n cs ss : Nat} {l1 : Slot} {S : List Value} {H : AH} {q : Option ORes → Prop} {v : Int32} (h : Rsq (go n (184, [.val (.int v), l1], (.int v :: S), H, cs, ss)) q) : Rsq (go (n + 1) (183, [.val (.int v), l1], S, H, cs, ss)) q := by
  subst hgo
  exact res_of s1_183 h
theorem t1_184 {go : Nat → St → Option ORes} (hgo : go = orun prog_114_method_5_code (Option.some Jvm.ClassFile.FieldType.boolean) E1 1) {n cs ss : Nat} {L : List Slot} {S : List Value} {H : AH} {q : Option ORes → Prop} (h : Rsq (go n (186, L, (.int (983039) :: S), H, cs, ss)) q) : Rsq (go (n + 1) (184, L, S, H, cs, ss)) q := by
  subst hgo
  exact res_of s1_184 h
theorem t1_186t {go : Nat → St → Option ORes} (hgo : go = orun prog_114_method_5_code (Option.some Jvm.ClassFile.FieldType.boolean) E1 1) {n cs ss : Nat} {L : List Slot} {S : List Value} {H : AH} {q : Option ORes → Prop} {x y : Int32} (hc : y < x) (h : Rsq (go n (193, L, S, H, cs, ss)) q) : Rsq (go (n + 1) (186, L, (.int y :: .int x :: S), H, cs, ss)) q := by
  subst hgo
  exact res_of s1_186 (res_t hc h)
theorem t1_186f {go : Nat → St → Option ORes} (hgo : go = orun prog_114_method_5_code (Option.some Jvm.ClassFile.FieldType.boolean) E1 1) {n cs ss : Nat} {L : List Slot} {S : List Value} {H : AH} {q : Option ORes → Prop} {x y : Int32} (hc : ¬ y < x) (h : Rsq (go n (189, L, S, H, cs, ss)) q) : Rsq (go (n + 1) (186, L, (.int y :: .int x :: S), H, cs, ss)) q := by
  subst hgo
  exact res_of s1_186 (res_f hc h)
theorem t1_189 {go : Nat → St → Option ORes} (hgo : go = orun prog_114_method_5_code (Option.some Jvm.ClassFile.FieldType.boolean) E1 1) {n cs ss : Nat} {L : List Slot} {S : List Value} {H : AH} {q : Option ORes → Prop} (h : Rsq (go n (190, L, (.int 1 :: S), H, cs, ss)) q) : Rsq (go (n + 1) (189, L, S, H, cs, ss)) q := by
  subst hgo
  exact res_of s1_189 h
theorem t1_190 {go : Nat → St → Option ORes} (hgo : go = orun prog_114_method_5_code (Option.some Jvm.ClassFile.FieldType.boolean) E1 1) {n cs ss : Nat} {L : List Slot} {S : List Value} {H : AH} {q : Option ORes → Prop} (h : Rsq (go n (194, L, S, H, cs, ss)) q) : Rsq (go (n + 1) (190, L, S, H, cs, ss)) q := by
  subst hgo
  exact res_of s1_190 h
theorem t1_193 {go : Nat → St → Option ORes} (hgo : go = orun prog_114_method_5_code (Option.some Jvm.ClassFile.FieldType.boolean) E1 1) {n cs ss : Nat} {L : List Slot} {S : List Value} {H : AH} {q : Option ORes → Prop} (h : Rsq (go n (194, L, (.int 0 :: S), H, cs, ss)) q) : Rsq (go (n + 1) (193, L, S, H, cs, ss)) q := by
  subst hgo
  exact res_of s1_193 h
theorem t1_194 {go : Nat → St → Option ORes} (hgo : go = orun prog_114_method_5_code (Option.some Jvm.ClassFile.FieldType.boolean) E1 1) {n cs ss : Nat} {l0 l1 : Slot} {S : List Value} {H : AH} {q : Option ORes → Prop} {x : Int32} (hk : so l1 = true) (h : Rsq (go n (195, [l0, .val (.int x)], S, H, cs, ss)) q) : Rsq (go (n + 1) (194, [l0, l1], (.int x :: S), H, cs, ss)) q := by
  subst hgo
  refine res_of s1_194 ?_
  rw [pI_int, st1_so (L := [l0, l1]) (k := 1) (l := l1) rfl hk]
  exact h
theorem t1_195 {go : Nat → St → Option ORes} (hgo : go = orun prog_114_method_5_code (Option.some Jvm.ClassFile.FieldType.boolean) E1 1) {n cs ss : Nat} {l0 : Slot} {S : List Value} {H : AH} {q : Option ORes → Prop} {v : Int32} (h : Rsq (go n (196, [l0, .val (.int v)], (.int v :: S), H, cs, ss)) q) : Rsq (go (n + 1) (195, [l0, .val (.int v)], S, H, cs, ss)) q := by
  subst hgo
  exact res_of s1_195 h
theorem t1_196 {go : Nat → St → Option ORes} (hgo : go = orun prog_114_method_5_code (Option.some Jvm.ClassFile.FieldType.boolean) E1 1) {n cs ss : Nat} {L : List Slot} {S : List Value} {H : AH} {q : Option ORes → Prop} {z : Int32} (h : q (some (some (.int (z &&& 1)), H))) : Rsq (go (n + 1) (196, L, (.int z :: S), H, cs, ss)) q := by
  subst hgo
  exact res_of s1_196 h
theorem f3_in {x0 : Int32} {x1 : Int32} {x2 : Int32} {H : AH} : F3 [.int x0, .int x1, .int x2] H = orun method_2_code (Option.some Jvm.ClassFile.FieldType.boolean) E3 1 60 (0, [.val (.int x0), .val (.int x1), .val (.int x2)], [], H, 0, 0) := rfl
theorem s3_0 {n cs ss : Nat} {L : List Slot} {S : List Value} {H : AH} : orun method_2_code (Option.some Jvm.ClassFile.FieldType.boolean) E3 1 (n + 1) (0, L, S, H, cs, ss) = (gI L 0).bind fun v => orun method_2_code (Option.some Jvm.ClassFile.FieldType.boolean) E3 1 n (1, L, .int v :: S, H, cs, ss) := s_any k3_0
theorem s3_1 {n cs ss : Nat} {L : List Slot} {S : List Value} {H : AH} : orun method_2_code (Option.some Jvm.ClassFile.FieldType.boolean) E3 1 (n + 1) (1, L, S, H, cs, ss) = (gI L 1).bind fun v => orun method_2_code (Option.some Jvm.ClassFile.FieldType.boolean) E3 1 n (2, L, .int v :: S, H, cs, ss) := s_any k3_1
theorem s3_2 {n cs ss : Nat} {L : List Slot} {S : List Value} {H : AH} : orun method_2_code (Option.some Jvm.ClassFile.FieldType.boolean) E3 1 (n + 1) (2, L, S, H, cs, ss) = pI S fun y S => pI S fun x r => if x < y then orun method_2_code (Option.some Jvm.ClassFile.FieldType.boolean) E3 1 n (14, L, r, H, cs, ss) else orun method_2_code (Option.some Jvm.ClassFile.FieldType.boolean) E3 1 n (5, L, r, H, cs, ss) := s_icmp (Q := fun x y => x < y) (fun _ _ => h_lt) k3_2 (by decide) (by decide)
theorem s3_5 {n cs ss : Nat} {L : List Slot} {S : List Value} {H : AH} : orun method_2_code (Option.some Jvm.ClassFile.FieldType.boolean) E3 1 (n + 1) (5, L, S, H, cs, ss) = (gI L 0).bind fun v => orun method_2_code (Option.some Jvm.ClassFile.FieldType.boolean) E3 1 n (6, L, .int v :: S, H, cs, ss) := s_any k3_5
theorem s3_6 {n cs ss : Nat} {L : List Slot} {S : List Value} {H : AH} : orun method_2_code (Option.some Jvm.ClassFile.FieldType.boolean) E3 1 (n + 1) (6, L, S, H, cs, ss) = (gI L 2).bind fun v => orun method_2_code (Option.some Jvm.ClassFile.FieldType.boolean) E3 1 n (7, L, .int v :: S, H, cs, ss) := s_any k3_6
theorem s3_7 {n cs ss : Nat} {L : List Slot} {S : List Value} {H : AH} : orun method_2_code (Option.some Jvm.ClassFile.FieldType.boolean) E3 1 (n + 1) (7, L, S, H, cs, ss) = pI S fun y S => pI S fun x r => if y < x then orun method_2_code (Option.some Jvm.ClassFile.FieldType.boolean) E3 1 n (14, L, r, H, cs, ss) else orun method_2_code (Option.some Jvm.ClassFile.FieldType.boolean) E3 1 n (10, L, r, H, cs, ss) := s_icmp (Q := fun x y => y < x) (fun _ _ => h_gt) k3_7 (by decide) (by decide)
theorem s3_10 {n cs ss : Nat} {L : List Slot} {S : List Value} {H : AH} : orun method_2_code (Option.some Jvm.ClassFile.FieldType.boolean) E3 1 (n + 1) (10, L, S, H, cs, ss) = orun method_2_code (Option.some Jvm.ClassFile.FieldType.boolean) E3 1 n (11, L, (.int 1 :: S), H, cs, ss) := s_any k3_10
theorem s3_11 {n cs ss : Nat} {L : List Slot} {S : List Value} {H : AH} : orun method_2_code (Option.some Jvm.ClassFile.FieldType.boolean) E3 1 (n + 1) (11, L, S, H, cs, ss) = orun method_2_code (Option.some Jvm.ClassFile.FieldType.boolean) E3 1 n (15, L, S, H, cs, ss) := s_goto k3_11 (by decide) (by decide)
theorem s3_14 {n cs ss : Nat} {L : List Slot} {S : List Value} {H : AH} : orun method_2_code (Option.some Jvm.ClassFile.FieldType.boolean) E3 1 (n + 1) (14, L, S, H, cs, ss) = orun method_2_code (Option.some Jvm.ClassFile.FieldType.boolean) E3 1 n (15, L, (.int 0 :: S), H, cs, ss) := s_any k3_14
theorem s3_15 {n cs ss : Nat} {L : List Slot} {S : List Value} {H : AH} : orun method_2_code (Option.some Jvm.ClassFile.FieldType.boolean) E3 1 (n + 1) (15, L, S, H, cs, ss) = pI S fun z _ => some (some (.int (z &&& 1)), H) := s_any k3_15
theorem t3_0 {go : Nat → St → Option ORes} (hgo : go = orun method_2_code (Option.some Jvm.ClassFile.FieldType.boolean) E3 1) {n cs ss : Nat} {l1 l2 : Slot} {S : List Value} {H : AH} {q : Option ORes → Prop} {v : Int32} (h : Rsq (go n (1, [.val (.int v), l1, l2], (.int v :: S), H, cs, ss)) q) : Rsq (go (n + 1) (0, [.val (.int v), l1, l2], S, H, cs, ss)) q := by
  subst hgo
  exact res_of s3_0 h
theorem t3_1 {go : Nat → St → Option ORes} (hgo : go = orun method_2_code (Option.some Jvm.ClassFile.FieldType.boolean) E3 1) {n cs ss : Nat} {l0 l2 : Slot} {S : List Value} {H : AH} {q : Option ORes → Prop} {v : Int32} (h : Rsq (go n (2, [l0, .val (.int v), l2], (.int v :: S), H, cs, ss)) q) : Rsq (go (n + 1) (1, [l0, .val (.int v), l2], S, H, cs, ss)) q := by
  subst hgo
  exact res_of s3_1 h
theorem t3_2t {go : Nat → St → Option ORes} (hgo : go = orun method_2_code (Option.some Jvm.ClassFile.FieldType.boolean) E3 1) {n cs ss : Nat} {L : List Slot} {S : List Value} {H : AH} {q : Option ORes → Prop} {x y : Int32} (hc : x < y) (h : Rsq (go n (14, L, S, H, cs, ss)) q) : Rsq (go (n + 1) (2, L, (.int y :: .int x :: S), H, cs, ss)) q := by
  subst hgo
  exact res_of s3_2 (res_t hc h)
theorem t3_2f {go : Nat → St → Option ORes} (hgo : go = orun method_2_code (Option.some Jvm.ClassFile.FieldType.boolean) E3 1) {n cs ss : Nat} {L : List Slot} {S : List Value} {H : AH} {q : Option ORes → Prop} {x y : Int32} (hc : ¬ x < y) (h : Rsq (go n (5, L, S, H, cs, ss)) q) : Rsq (go (n + 1) (2, L, (.int y :: .int x :: S), H, cs, ss)) q := by
  subst hgo
  exact res_of s3_2 (res_f hc h)
theorem t3_5 {go : Nat → St → Option ORes} (hgo : go = orun method_2_code (Option.some Jvm.ClassFile.FieldType.boolean) E3 1) {n cs ss : Nat} {l1 l2 : Slot} {S : List Value} {H : AH} {q : Option ORes → Prop} {v : Int32} (h : Rsq (go n (6, [.val (.int v), l1, l2], (.int v :: S), H, cs, ss)) q) : Rsq (go (n + 1) (5, [.val (.int v), l1, l2], S, H, cs, ss)) q := by
  subst hgo
  exact res_of s3_5 h
theorem t3_6 {go : Nat → St → Option ORes} (hgo : go = orun method_2_code (Option.some Jvm.ClassFile.FieldType.boolean) E3 1) {n cs ss : Nat} {l0 l1 : Slot} {S : List Value} {H : AH} {q : Option ORes → Prop} {v : Int32} (h : Rsq (go n (7, [l0, l1, .val (.int v)], (.int v :: S), H, cs, ss)) q) : Rsq (go (n + 1) (6, [l0, l1, .val (.int v)], S, H, cs, ss)) q := by
  subst hgo
  exact res_of s3_6 h
theorem t3_7t {go : Nat → St → Option ORes} (hgo : go = orun method_2_code (Option.some Jvm.ClassFile.FieldType.boolean) E3 1) {n cs ss : Nat} {L : List Slot} {S : List Value} {H : AH} {q : Option ORes → Prop} {x y : Int32} (hc : y < x) (h : Rsq (go n (14, L, S, H, cs, ss)) q) : Rsq (go (n + 1) (7, L, (.int y :: .int x :: S), H, cs, ss)) q := by
  subst hgo
  exact res_of s3_7 (res_t hc h)
theorem t3_7f {go : Nat → St → Option ORes} (hgo : go = orun method_2_code (Option.some Jvm.ClassFile.FieldType.boolean) E3 1) {n cs ss : Nat} {L : List Slot} {S : List Value} {H : AH} {q : Option ORes → Prop} {x y : Int32} (hc : ¬ y < x) (h : Rsq (go n (10, L, S, H, cs, ss)) q) : Rsq (go (n + 1) (7, L, (.int y :: .int x :: S), H, cs, ss)) q := by
  subst hgo
  exact res_of s3_7 (res_f hc h)
theorem t3_10 {go : Nat → St → Option ORes} (hgo : go = orun method_2_code (Option.some Jvm.ClassFile.FieldType.boolean) E3 1) {n cs ss : Nat} {L : List Slot} {S : List Value} {H : AH} {q : Option ORes → Prop} (h : Rsq (go n (11, L, (.int 1 :: S), H, cs, ss)) q) : Rsq (go (n + 1) (10, L, S, H, cs, ss)) q := by
  subst hgo
  exact res_of s3_10 h
theorem t3_11 {go : Nat → St → Option ORes} (hgo : go = orun method_2_code (Option.some Jvm.ClassFile.FieldType.boolean) E3 1) {n cs ss : Nat} {L : List Slot} {S : List Value} {H : AH} {q : Option ORes → Prop} (h : Rsq (go n (15, L, S, H, cs, ss)) q) : Rsq (go (n + 1) (11, L, S, H, cs, ss)) q := by
  subst hgo
  exact res_of s3_11 h
theorem t3_14 {go : Nat → St → Option ORes} (hgo : go = orun method_2_code (Option.some Jvm.ClassFile.FieldType.boolean) E3 1) {n cs ss : Nat} {L : List Slot} {S : List Value} {H : AH} {q : Option ORes → Prop} (h : Rsq (go n (15, L, (.int 0 :: S), H, cs, ss)) q) : Rsq (go (n + 1) (14, L, S, H, cs, ss)) q := by
  subst hgo
  exact res_of s3_14 h
theorem t3_15 {go : Nat → St → Option ORes} (hgo : go = orun method_2_code (Option.some Jvm.ClassFile.FieldType.boolean) E3 1) {n cs ss : Nat} {L : List Slot} {S : List Value} {H : AH} {q : Option ORes → Prop} {z : Int32} (h : q (some (some (.int (z &&& 1)), H))) : Rsq (go (n + 1) (15, L, (.int z :: S), H, cs, ss)) q := by
  subst hgo
  exact res_of s3_15 h
theorem f4_in {x0 : Int32} {H : AH} : F4 [.int x0] H = orun method_3_code (Option.some Jvm.ClassFile.FieldType.boolean) E4 1 192 (0, [.val (.int x0)], [], H, 0, 0) := rfl
theorem s4_0 {n cs ss : Nat} {L : List Slot} {S : List Value} {H : AH} : orun method_3_code (Option.some Jvm.ClassFile.FieldType.boolean) E4 1 (n + 1) (0, L, S, H, cs, ss) = (gI L 0).bind fun v => orun method_3_code (Option.some Jvm.ClassFile.FieldType.boolean) E4 1 n (1, L, .int v :: S, H, cs, ss) := s_any k4_0
theorem s4_1 {n cs ss : Nat} {L : List Slot} {S : List Value} {H : AH} : orun method_3_code (Option.some Jvm.ClassFile.FieldType.boolean) E4 1 (n + 1) (1, L, S, H, cs, ss) = orun method_3_code (Option.some Jvm.ClassFile.FieldType.boolean) E4 1 n (2, L, (.int 0 :: S), H, cs, ss) := s_any k4_1
theorem s4_2 {n cs ss : Nat} {L : List Slot} {S : List Value} {H : AH} : orun method_3_code (Option.some Jvm.ClassFile.FieldType.boolean) E4 1 (n + 1) (2, L, S, H, cs, ss) = orun method_3_code (Option.some Jvm.ClassFile.FieldType.boolean) E4 1 n (4, L, (.int 57 :: S), H, cs, ss) := s_any k4_2
theorem s4_4 {n cs ss : Nat} {L : List Slot} {S : List Value} {H : AH} : orun method_3_code (Option.some Jvm.ClassFile.FieldType.boolean) E4 1 (n + 1) (4, L, S, H, cs, ss) = (aCall 3 6 0 0 0 0 F3 S H cs ss).bind fun r => orun method_3_code (Option.some Jvm.ClassFile.FieldType.boolean) E4 1 n (7, L, r.1, r.2.1, r.2.2.1, r.2.2.2) := s_any k4_4
theorem s4_7 {n cs ss : Nat} {L : List Slot} {S : List Value} {H : AH} : orun method_3_code (Option.some Jvm.ClassFile.FieldType.boolean) E4 1 (n + 1) (7, L, S, H, cs, ss) = pI S fun x r => if x = 0 then orun method_3_code (Option.some Jvm.ClassFile.FieldType.boolean) E4 1 n (10, L, r, H, cs, ss) else orun method_3_code (Option.some Jvm.ClassFile.FieldType.boolean) E4 1 n (169, L, r, H, cs, ss) := s_ifN (Q := fun x => x = 0) (fun _ => z_ne) k4_7 (by decide) (by decide)
theorem s4_10 {n cs ss : Nat} {L : List Slot} {S : List Value} {H : AH} : orun method_3_code (Option.some Jvm.ClassFile.FieldType.boolean) E4 1 (n + 1) (10, L, S, H, cs, ss) = (gI L 0).bind fun v => orun method_3_code (Option.some Jvm.ClassFile.FieldType.boolean) E4 1 n (11, L, .int v :: S, H, cs, ss) := s_any k4_10
theorem s4_11 {n cs ss : Nat} {L : List Slot} {S : List Value} {H : AH} : orun method_3_code (Option.some Jvm.ClassFile.FieldType.boolean) E4 1 (n + 1) (11, L, S, H, cs, ss) = orun method_3_code (Option.some Jvm.ClassFile.FieldType.boolean) E4 1 n (13, L, (.int 59 :: S), H, cs, ss) := s_any k4_11
theorem s4_13 {n cs ss : Nat} {L : List Slot} {S : List Value} {H : AH} : orun method_3_code (Option.some Jvm.ClassFile.FieldType.boolean) E4 1 (n + 1) (13, L, S, H, cs, ss) = orun method_3_code (Option.some Jvm.ClassFile.FieldType.boolean) E4 1 n (15, L, (.int 64 :: S), H, cs, ss) := s_any k4_13
theorem s4_15 {n cs ss : Nat} {L : List Slot} {S : List Value} {H : AH} : orun method_3_code (Option.some Jvm.ClassFile.FieldType.boolean) E4 1 (n + 1) (15, L, S, H, cs, ss) = (aCall 3 6 0 0 0 0 F3 S H cs ss).bind fun r => orun method_3_code (Option.some Jvm.ClassFile.FieldType.boolean) E4 1 n (18, L, r.1, r.2.1, r.2.2.1, r.2.2.2) := s_any k4_15
theorem s4_18 {n cs ss : Nat} {L : List Slot} {S : List Value} {H : AH} : orun method_3_code (Option.some Jvm.ClassFile.FieldType.boolean) E4 1 (n + 1) (18, L, S, H, cs, ss) = pI S fun x r => if x = 0 then orun method_3_code (Option.some Jvm.ClassFile.FieldType.boolean) E4 1 n (21, L, r, H, cs, ss) else orun method_3_code (Option.some Jvm.ClassFile.FieldType.boolean) E4 1 n (169, L, r, H, cs, ss) := s_ifN (Q := fun x => x = 0) (fun _ => z_ne) k4_18 (by decide) (by decide)
theorem s4_21 {n cs ss : Nat} {L : List Slot} {S : List Value} {H : AH} : orun method_3_code (Option.some Jvm.ClassFile.FieldType.boolean) E4 1 (n + 1) (21, L, S, H, cs, ss) = (gI L 0).bind fun v => orun method_3_code (Option.some Jvm.ClassFile.FieldType.boolean) E4 1 n (22, L, .int v :: S, H, cs, ss) := s_any k4_21
theorem s4_22 {n cs ss : Nat} {L : List Slot} {S : List Value} {H : AH} : orun method_3_code (Option.some Jvm.ClassFile.FieldType.boolean) E4 1 (n + 1) (22, L, S, H, cs, ss) = orun method_3_code (Option.some Jvm.ClassFile.FieldType.boolean) E4 1 n (24, L, (.int 91 :: S), H, cs, ss) := s_any k4_22
theorem s4_24 {n cs ss : Nat} {L : List Slot} {S : List Value} {H : AH} : orun method_3_code (Option.some Jvm.ClassFile.FieldType.boolean) E4 1 (n + 1) (24, L, S, H, cs, ss) = orun method_3_code (Option.some Jvm.ClassFile.FieldType.boolean) E4 1 n (26, L, (.int 94 :: S), H, cs, ss) := s_any k4_24
theorem s4_26 {n cs ss : Nat} {L : List Slot} {S : List Value} {H : AH} : orun method_3_code (Option.some Jvm.ClassFile.FieldType.boolean) E4 1 (n + 1) (26, L, S, H, cs, ss) = (aCall 3 6 0 0 0 0 F3 S H cs ss).bind fun r => orun method_3_code (Option.some Jvm.ClassFile.FieldType.boolean) E4 1 n (29, L, r.1, r.2.1, r.2.2.1, r.2.2.2) := s_any k4_26
theorem s4_29 {n cs ss : Nat} {L : List Slot} {S : List Value} {H : AH} : orun method_3_code (Option.some Jvm.ClassFile.FieldType.boolean) E4 1 (n + 1) (29, L, S, H, cs, ss) = pI S fun x r => if x = 0 then orun method_3_code (Option.some Jvm.ClassFile.FieldType.boolean) E4 1 n (32, L, r, H, cs, ss) else orun method_3_code (Option.some Jvm.ClassFile.FieldType.boolean) E4 1 n (169, L, r, H, cs, ss) := s_ifN (Q := fun x => x = 0) (fun _ => z_ne) k4_29 (by decide) (by decide)
theorem s4_32 {n cs ss : Nat} {L : List Slot} {S : List Value} {H : AH} : orun method_3_code (Option.some Jvm.ClassFile.FieldType.boolean) E4 1 (n + 1) (32, L, S, H, cs, ss) = (gI L 0).bind fun v => orun method_3_code (Option.some Jvm.ClassFile.FieldType.boolean) E4 1 n (33, L, .int v :: S, H, cs, ss) := s_any k4_32
theorem s4_33 {n cs ss : Nat} {L : List Slot} {S : List Value} {H : AH} : orun method_3_code (Option.some Jvm.ClassFile.FieldType.boolean) E4 1 (n + 1) (33, L, S, H, cs, ss) = orun method_3_code (Option.some Jvm.ClassFile.FieldType.boolean) E4 1 n (35, L, (.int 96 :: S), H, cs, ss) := s_any k4_33
theorem s4_35 {n cs ss : Nat} {L : List Slot} {S : List Value} {H : AH} : orun method_3_code (Option.some Jvm.ClassFile.FieldType.boolean) E4 1 (n + 1) (35, L, S, H, cs, ss) = pI S fun y S => pI S fun x r => if x = y then orun method_3_code (Option.some Jvm.ClassFile.FieldType.boolean) E4 1 n (169, L, r, H, cs, ss) else orun method_3_code (Option.some Jvm.ClassFile.FieldType.boolean) E4 1 n (38, L, r, H, cs, ss) := s_icmp (Q := fun x y => x = y) (fun _ _ => h_eq) k4_35 (by decide) (by decide)
theorem s4_38 {n cs ss : Nat} {L : List Slot} {S : List Value} {H : AH} : orun method_3_code (Option.some Jvm.ClassFile.FieldType.boolean) E4 1 (n + 1) (38, L, S, H, cs, ss) = (gI L 0).bind fun v => orun method_3_code (Option.some Jvm.ClassFile.FieldType.boolean) E4 1 n (39, L, .int v :: S, H, cs, ss) := s_any k4_38
theorem s4_39 {n cs ss : Nat} {L : List Slot} {S : List Value} {H : AH} : orun method_3_code (Option.some Jvm.ClassFile.FieldType.boolean) E4 1 (n + 1) (39, L, S, H, cs, ss) = orun method_3_code (Option.some Jvm.ClassFile.FieldType.boolean) E4 1 n (41, L, (.int 123 :: S), H, cs, ss) := s_any k4_39
theorem s4_41 {n cs ss : Nat} {L : List Slot} {S : List Value} {H : AH} : orun method_3_code (Option.some Jvm.ClassFile.FieldType.boolean) E4 1 (n + 1) (41, L, S, H, cs, ss) = orun method_3_code (Option.some Jvm.ClassFile.FieldType.boolean) E4 1 n (44, L, (.int 191 :: S), H, cs, ss) := s_any k4_41
theorem s4_44 {n cs ss : Nat} {L : List Slot} {S : List Value} {H : AH} : orun method_3_code (Option.some Jvm.ClassFile.FieldType.boolean) E4 1 (n + 1) (44, L, S, H, cs, ss) = (aCall 3 6 0 0 0 0 F3 S H cs ss).bind fun r => orun method_3_code (Option.some Jvm.ClassFile.FieldType.boolean) E4 1 n (47, L, r.1, r.2.1, r.2.2.1, r.2.2.2) := s_any k4_44
theorem s4_47 {n cs ss : Nat} {L : List Slot} {S : List Value} {H : AH} : orun method_3_code (Option.some Jvm.ClassFile.FieldType.boolean) E4 1 (n + 1) (47, L, S, H, cs, ss) = pI S fun x r => if x = 0 then orun method_3_code (Option.some Jvm.ClassFile.FieldType.boolean) E4 1 n (50, L, r, H, cs, ss) else orun method_3_code (Option.some Jvm.ClassFile.FieldType.boolean) E4 1 n (169, L, r, H, cs, ss) := s_ifN (Q := fun x => x = 0) (fun _ => z_ne) k4_47 (by decide) (by decide)
theorem s4_50 {n cs ss : Nat} {L : List Slot} {S : List Value} {H : AH} : orun method_3_code (Option.some Jvm.ClassFile.FieldType.boolean) E4 1 (n + 1) (50, L, S, H, cs, ss) = (gI L 0).bind fun v => orun method_3_code (Option.some Jvm.ClassFile.FieldType.boolean) E4 1 n (51, L, .int v :: S, H, cs, ss) := s_any k4_50
theorem s4_51 {n cs ss : Nat} {L : List Slot} {S : List Value} {H : AH} : orun method_3_code (Option.some Jvm.ClassFile.FieldType.boolean) E4 1 (n + 1) (51, L, S, H, cs, ss) = orun method_3_code (Option.some Jvm.ClassFile.FieldType.boolean) E4 1 n (54, L, (.int 215 :: S), H, cs, ss) := s_any k4_51
theorem s4_54 {n cs ss : Nat} {L : List Slot} {S : List Value} {H : AH} : orun method_3_code (Option.some Jvm.ClassFile.FieldType.boolean) E4 1 (n + 1) (54, L, S, H, cs, ss) = pI S fun y S => pI S fun x r => if x = y then orun method_3_code (Option.some Jvm.ClassFile.FieldType.boolean) E4 1 n (169, L, r, H, cs, ss) else orun method_3_code (Option.some Jvm.ClassFile.FieldType.boolean) E4 1 n (57, L, r, H, cs, ss) := s_icmp (Q := fun x y => x = y) (fun _ _ => h_eq) k4_54 (by decide) (by decide)
theorem s4_57 {n cs ss : Nat} {L : List Slot} {S : List Value} {H : AH} : orun method_3_code (Option.some Jvm.ClassFile.FieldType.boolean) E4 1 (n + 1) (57, L, S, H, cs, ss) = (gI L 0).bind fun v => orun method_3_code (Option.some Jvm.ClassFile.FieldType.boolean) E4 1 n (58, L, .int v :: S, H, cs, ss) := s_any k4_57
theorem s4_58 {n cs ss : Nat} {L : List Slot} {S : List Value} {H : AH} : orun method_3_code (Option.some Jvm.ClassFile.FieldType.boolean) E4 1 (n + 1) (58, L, S, H, cs, ss) = orun method_3_code (Option.some Jvm.ClassFile.FieldType.boolean) E4 1 n (61, L, (.int 247 :: S), H, cs, ss) := s_any k4_58
theorem s4_61 {n cs ss : Nat} {L : List Slot} {S : List Value} {H : AH} : orun method_3_code (Option.some Jvm.ClassFile.FieldType.boolean) E4 1 (n + 1) (61, L, S, H, cs, ss) = pI S fun y S => pI S fun x r => if x = y then orun method_3_code (Option.some Jvm.ClassFile.FieldType.boolean) E4 1 n (169, L, r, H, cs, ss) else orun method_3_code (Option.some Jvm.ClassFile.FieldType.boolean) E4 1 n (64, L, r, H, cs, ss) := s_icmp (Q := fun x y => x = y) (fun _ _ => h_eq) k4_61 (by decide) (by decide)
theorem s4_64 {n cs ss : Nat} {L : List Slot} {S : List Value} {H : AH} : orun method_3_code (Option.some Jvm.ClassFile.FieldType.boolean) E4 1 (n + 1) (64, L, S, H, cs, ss) = (gI L 0).bind fun v => orun method_3_code (Option.some Jvm.ClassFile.FieldType.boolean) E4 1 n (65, L, .int v :: S, H, cs, ss) := s_any k4_64
theorem s4_65 {n cs ss : Nat} {L : List Slot} {S : List Value} {H : AH} : orun method_3_code (Option.some Jvm.ClassFile.FieldType.boolean) E4 1 (n + 1) (65, L, S, H, cs, ss) = orun method_3_code (Option.some Jvm.ClassFile.FieldType.boolean) E4 1 n (68, L, (.int 768 :: S), H, cs, ss) := s_any k4_65
theorem s4_68 {n cs ss : Nat} {L : List Slot} {S : List Value} {H : AH} : orun method_3_code (Option.some Jvm.ClassFile.FieldType.boolean) E4 1 (n + 1) (68, L, S, H, cs, ss) = orun method_3_code (Option.some Jvm.ClassFile.FieldType.boolean) E4 1 n (71, L, (.int 879 :: S), H, cs, ss) := s_any k4_68
theorem s4_71 {n cs ss : Nat} {L : List Slot} {S : List Value} {H : AH} : orun method_3_code (Option.some Jvm.ClassFile.FieldType.boolean) E4 1 (n + 1) (71, L, S, H, cs, ss) = (aCall 3 6 0 0 0 0 F3 S H cs ss).bind fun r => orun method_3_code (Option.some Jvm.ClassFile.FieldType.boolean) E4 1 n (74, L, r.1, r.2.1, r.2.2.1, r.2.2.2) := s_any k4_71
theorem s4_74 {n cs ss : Nat} {L : List Slot} {S : List Value} {H : AH} : orun method_3_code (Option.some Jvm.ClassFile.FieldType.boolean) E4 1 (n + 1) (74, L, S, H, cs, ss) = pI S fun x r => if x = 0 then orun method_3_code (Option.some Jvm.ClassFile.FieldType.boolean) E4 1 n (77, L, r, H, cs, ss) else orun method_3_code (Option.some Jvm.ClassFile.FieldType.boolean) E4 1 n (169, L, r, H, cs, ss) := s_ifN (Q := fun x => x = 0) (fun _ => z_ne) k4_74 (by decide) (by decide)
theorem s4_77 {n cs ss : Nat} {L : List Slot} {S : List Value} {H : AH} : orun method_3_code (Option.some Jvm.ClassFile.FieldType.boolean) E4 1 (n + 1) (77, L, S, H, cs, ss) = (gI L 0).bind fun v => orun method_3_code (Option.some Jvm.ClassFile.FieldType.boolean) E4 1 n (78, L, .int v :: S, H, cs, ss) := s_any k4_77
theorem s4_78 {n cs ss : Nat} {L : List Slot} {S : List Value} {H : AH} : orun method_3_code (Option.some Jvm.ClassFile.FieldType.boolean) E4 1 (n + 1) (78, L, S, H, cs, ss) = orun method_3_code (Option.some Jvm.ClassFile.FieldType.boolean) E4 1 n (81, L, (.int 894 :: S), H, cs, ss) := s_any k4_78
theorem s4_81 {n cs ss : Nat} {L : List Slot} {S : List Value} {H : AH} : orun method_3_code (Option.some Jvm.ClassFile.FieldType.boolean) E4 1 (n + 1) (81, L, S, H, cs, ss) = pI S fun y S => pI S fun x r => if x = y then orun method_3_code (Option.some Jvm.ClassFile.FieldType.boolean) E4 1 n (169, L, r, H, cs, ss) else orun method_3_code (Option.some Jvm.ClassFile.FieldType.boolean) E4 1 n (84, L, r, H, cs, ss) := s_icmp (Q := fun x y => x = y) (fun _ _ => h_eq) k4_81 (by decide) (by decide)
theorem s4_84 {n cs ss : Nat} {L : List Slot} {S : List Value} {H : AH} : orun method_3_code (Option.some Jvm.ClassFile.FieldType.boolean) E4 1 (n + 1) (84, L, S, H, cs, ss) = (gI L 0).bind fun v => orun method_3_code (Option.some Jvm.ClassFile.FieldType.boolean) E4 1 n (85, L, .int v :: S, H, cs, ss) := s_any k4_84
theorem s4_85 {n cs ss : Nat} {L : List Slot} {S : List Value} {H : AH} : orun method_3_code (Option.some Jvm.ClassFile.FieldType.boolean) E4 1 (n + 1) (85, L, S, H, cs, ss) = orun method_3_code (Option.some Jvm.ClassFile.FieldType.boolean) E4 1 n (88, L, (.int 8192 :: S), H, cs, ss) := s_any k4_85
theorem s4_88 {n cs ss : Nat} {L : List Slot} {S : List Value} {H : AH} : orun method_3_code (Option.some Jvm.ClassFile.FieldType.boolean) E4 1 (n + 1) (88, L, S, H, cs, ss) = orun method_3_code (Option.some Jvm.ClassFile.FieldType.boolean) E4 1 n (91, L, (.int 8203 :: S), H, cs, ss) := s_any k4_88
theorem s4_91 {n cs ss : Nat} {L : List Slot} {S : List Value} {H : AH} : orun method_3_code (Option.some Jvm.ClassFile.FieldType.boolean) E4 1 (n + 1) (91, L, S, H, cs, ss) = (aCall 3 6 0 0 0 0 F3 S H cs ss).bind fun r => orun method_3_code (Option.some Jvm.ClassFile.FieldType.boolean) E4 1 n (94, L, r.1, r.2.1, r.2.2.1, r.2.2.2) := s_any k4_91
theorem s4_94 {n cs ss : Nat} {L : List Slot} {S : List Value} {H : AH} : orun method_3_code (Option.some Jvm.ClassFile.FieldType.boolean) E4 1 (n + 1) (94, L, S, H, cs, ss) = pI S fun x r => if x = 0 then orun method_3_code (Option.some Jvm.ClassFile.FieldType.boolean) E4 1 n (97, L, r, H, cs, ss) else orun method_3_code (Option.some Jvm.ClassFile.FieldType.boolean) E4 1 n (169, L, r, H, cs, ss) := s_ifN (Q := fun x => x = 0) (fun _ => z_ne) k4_94 (by decide) (by decide)
theorem s4_97 {n cs ss : Nat} {L : List Slot} {S : List Value} {H : AH} : orun method_3_code (Option.some Jvm.ClassFile.FieldType.boolean) E4 1 (n + 1) (97, L, S, H, cs, ss) = (gI L 0).bind fun v => orun method_3_code (Option.some Jvm.ClassFile.FieldType.boolean) E4 1 n (98, L, .int v :: S, H, cs, ss) := s_any k4_97
theorem s4_98 {n cs ss : Nat} {L : List Slot} {S : List Value} {H : AH} : orun method_3_code (Option.some Jvm.ClassFile.FieldType.boolean) E4 1 (n + 1) (98, L, S, H, cs, ss) = orun method_3_code (Option.some Jvm.ClassFile.FieldType.boolean) E4 1 n (101, L, (.int 8206 :: S), H, cs, ss) := s_any k4_98
theorem s4_101 {n cs ss : Nat} {L : List Slot} {S : List Value} {H : AH} : orun method_3_code (Option.some Jvm.ClassFile.FieldType.boolean) E4 1 (n + 1) (101, L, S, H, cs, ss) = orun method_3_code (Option.some Jvm.ClassFile.FieldType.boolean) E4 1 n (104, L, (.int 8303 :: S), H, cs, ss) := s_any k4_101
theorem s4_104 {n cs ss : Nat} {L : List Slot} {S : List Value} {H : AH} : orun method_3_code (Option.some Jvm.ClassFile.FieldType.boolean) E4 1 (n + 1) (104, L, S, H, cs, ss) = (aCall 3 6 0 0 0 0 F3 S H cs ss).bind fun r => orun method_3_code (Option.some Jvm.ClassFile.FieldType.boolean) E4 1 n (107, L, r.1, r.2.1, r.2.2.1, r.2.2.2) := s_any k4_104
theorem s4_107 {n cs ss : Nat} {L : List Slot} {S : List Value} {H : AH} : orun method_3_code (Option.some Jvm.ClassFile.FieldType.boolean) E4 1 (n + 1) (107, L, S, H, cs, ss) = pI S fun x r => if x = 0 then orun method_3_code (Option.some Jvm.ClassFile.FieldType.boolean) E4 1 n (110, L, r, H, cs, ss) else orun method_3_code (Option.some Jvm.ClassFile.FieldType.boolean) E4 1 n (169, L, r, H, cs, ss) := s_ifN (Q := fun x => x = 0) (fun _ => z_ne) k4_107 (by decide) (by decide)
theorem s4_110 {n cs ss : Nat} {L : List Slot} {S : List Value} {H : AH} : orun method_3_code (Option.some Jvm.ClassFile.FieldType.boolean) E4 1 (n + 1) (110, L, S, H, cs, ss) = (gI L 0).bind fun v => orun method_3_code (Option.some Jvm.ClassFile.FieldType.boolean) E4 1 n (111, L, .int v :: S, H, cs, ss) := s_any k4_110
theorem s4_111 {n cs ss : Nat} {L : List Slot} {S : List Value} {H : AH} : orun method_3_code (Option.some Jvm.ClassFile.FieldType.boolean) E4 1 (n + 1) (111, L, S, H, cs, ss) = orun method_3_code (Option.some Jvm.ClassFile.FieldType.boolean) E4 1 n (114, L, (.int 8592 :: S), H, cs, ss) := s_any k4_111
theorem s4_114 {n cs ss : Nat} {L : List Slot} {S : List Value} {H : AH} : orun method_3_code (Option.some Jvm.ClassFile.FieldType.boolean) E4 1 (n + 1) (114, L, S, H, cs, ss) = orun method_3_code (Option.some Jvm.ClassFile.FieldType.boolean) E4 1 n (117, L, (.int 11263 :: S), H, cs, ss) := s_any k4_114
theorem s4_117 {n cs ss : Nat} {L : List Slot} {S : List Value} {H : AH} : orun method_3_code (Option.some Jvm.ClassFile.FieldType.boolean) E4 1 (n + 1) (117, L, S, H, cs, ss) = (aCall 3 6 0 0 0 0 F3 S H cs ss).bind fun r => orun method_3_code (Option.some Jvm.ClassFile.FieldType.boolean) E4 1 n (120, L, r.1, r.2.1, r.2.2.1, r.2.2.2) := s_any k4_117
theorem s4_120 {n cs ss : Nat} {L : List Slot} {S : List Value} {H : AH} : orun method_3_code (Option.some Jvm.ClassFile.FieldType.boolean) E4 1 (n + 1) (120, L, S, H, cs, ss) = pI S fun x r => if x = 0 then orun method_3_code (Option.some Jvm.ClassFile.FieldType.boolean) E4 1 n (123, L, r, H, cs, ss) else orun method_3_code (Option.some Jvm.ClassFile.FieldType.boolean) E4 1 n (169, L, r, H, cs, ss) := s_ifN (Q := fun x => x = 0) (fun _ => z_ne) k4_120 (by decide) (by decide)
theorem s4_123 {n cs ss : Nat} {L : List Slot} {S : List Value} {H : AH} : orun method_3_code (Option.some Jvm.ClassFile.FieldType.boolean) E4 1 (n + 1) (123, L, S, H, cs, ss) = (gI L 0).bind fun v => orun method_3_code (Option.some Jvm.ClassFile.FieldType.boolean) E4 1 n (124, L, .int v :: S, H, cs, ss) := s_any k4_123
theorem s4_124 {n cs ss : Nat} {L : List Slot} {S : List Value} {H : AH} : orun method_3_code (Option.some Jvm.ClassFile.FieldType.boolean) E4 1 (n + 1) (124, L, S, H, cs, ss) = orun method_3_code (Option.some Jvm.ClassFile.FieldType.boolean) E4 1 n (127, L, (.int 12272 :: S), H, cs, ss) := s_any k4_124
theorem s4_127 {n cs ss : Nat} {L : List Slot} {S : List Value} {H : AH} : orun method_3_code (Option.some Jvm.ClassFile.FieldType.boolean) E4 1 (n + 1) (127, L, S, H, cs, ss) = orun method_3_code (Option.some Jvm.ClassFile.FieldType.boolean) E4 1 n (130, L, (.int 12288 :: S), H, cs, ss) := s_any k4_127
theorem s4_130 {n cs ss : Nat} {L : List Slot} {S : List Value} {H : AH} : orun method_3_code (Option.some Jvm.ClassFile.FieldType.boolean) E4 1 (n + 1) (130, L, S, H, cs, ss) = (aCall 3 6 0 0 0 0 F3 S H cs ss).bind fun r => orun method_3_code (Option.some Jvm.ClassFile.FieldType.boolean) E4 1 n (133, L, r.1, r.2.1, r.2.2.1, r.2.2.2) := s_any k4_130
theorem s4_133 {n cs ss : Nat} {L : List Slot} {S : List Value} {H : AH} : orun method_3_code (Option.some Jvm.ClassFile.FieldType.boolean) E4 1 (n + 1) (133, L, S, H, cs, ss) = pI S fun x r => if x = 0 then orun method_3_code (Option.some Jvm.ClassFile.FieldType.boolean) E4 1 n (136, L, r, H, cs, ss) else orun method_3_code (Option.some Jvm.ClassFile.FieldType.boolean) E4 1 n (169, L, r, H, cs, ss) := s_ifN (Q := fun x => x = 0) (fun _ => z_ne) k4_133 (by decide) (by decide)
theorem s4_136 {n cs ss : Nat} {L : List Slot} {S : List Value} {H : AH} : orun method_3_code (Option.some Jvm.ClassFile.FieldType.boolean) E4 1 (n + 1) (136, L, S, H, cs, ss) = (gI L 0).bind fun v => orun method_3_code (Option.some Jvm.ClassFile.FieldType.boolean) E4 1 n (137, L, .int v :: S, H, cs, ss) := s_any k4_136
theorem s4_137 {n cs ss : Nat} {L : List Slot} {S : List Value} {H : AH} : orun method_3_code (Option.some Jvm.ClassFile.FieldType.boolean) E4 1 (n + 1) (137, L, S, H, cs, ss) = (aI (55296) S H cs ss).bind fun r => orun method_3_code (Option.some Jvm.ClassFile.FieldType.boolean) E4 1 n (139, L, r.1, r.2.1, r.2.2.1, r.2.2.2) := s_any k4_137
theorem s4_139 {n cs ss : Nat} {L : List Slot} {S : List Value} {H : AH} : orun method_3_code (Option.some Jvm.ClassFile.FieldType.boolean) E4 1 (n + 1) (139, L, S, H, cs, ss) = (aI (63743) S H cs ss).bind fun r => orun method_3_code (Option.some Jvm.ClassFile.FieldType.boolean) E4 1 n (141, L, r.1, r.2.1, r.2.2.1, r.2.2.2) := s_any k4_139
theorem s4_141 {n cs ss : Nat} {L : List Slot} {S : List Value} {H : AH} : orun method_3_code (Option.some Jvm.ClassFile.FieldType.boolean) E4 1 (n + 1) (141, L, S, H, cs, ss) = (aCall 3 6 0 0 0 0 F3 S H cs ss).bind fun r => orun method_3_code (Option.some Jvm.ClassFile.FieldType.boolean) E4 1 n (144, L, r.1, r.2.1, r.2.2.1, r.2.2.2) := s_any k4_141
theorem s4_144 {n cs ss : Nat} {L : List Slot} {S : List Value} {H : AH} : orun method_3_code (Option.some Jvm.ClassFile.FieldType.boolean) E4 1 (n + 1) (144, L, S, H, cs, ss) = pI S fun x r => if x = 0 then orun method_3_code (Option.some Jvm.ClassFile.FieldType.boolean) E4 1 n (147, L, r, H, cs, ss) else orun method_3_code (Option.some Jvm.ClassFile.FieldType.boolean) E4 1 n (169, L, r, H, cs, ss) := s_ifN (Q := fun x => x = 0) (fun _ => z_ne) k4_144 (by decide) (by decide)
theorem s4_147 {n cs ss : Nat} {L : List Slot} {S : List Value} {H : AH} : orun method_3_code (Option.some Jvm.ClassFile.FieldType.boolean) E4 1 (n + 1) (147, L, S, H, cs, ss) = (gI L 0).bind fun v => orun method_3_code (Option.some Jvm.ClassFile.FieldType.boolean) E4 1 n (148, L, .int v :: S, H, cs, ss) := s_any k4_147
theorem s4_148 {n cs ss : Nat} {L : List Slot} {S : List Value} {H : AH} : orun method_3_code (Option.some Jvm.ClassFile.FieldType.boolean) E4 1 (n + 1) (148, L, S, H, cs, ss) = (aI (64976) S H cs ss).bind fun r => orun method_3_code (Option.some Jvm.ClassFile.FieldType.boolean) E4 1 n (150, L, r.1, r.2.1, r.2.2.1, r.2.2.2) := s_any k4_148
theorem s4_150 {n cs ss : Nat} {L : List Slot} {S : List Value} {H : AH} : orun method_3_code (Option.some Jvm.ClassFile.FieldType.boolean) E4 1 (n + 1) (150, L, S, H, cs, ss) = (aI (65007) S H cs ss).bind fun r => orun method_3_code (Option.some Jvm.ClassFile.FieldType.boolean) E4 1 n (152, L, r.1, r.2.1, r.2.2.1, r.2.2.2) := s_any k4_150
theorem s4_152 {n cs ss : Nat} {L : List Slot} {S : List Value} {H : AH} : orun method_3_code (Option.some Jvm.ClassFile.FieldType.boolean) E4 1 (n + 1) (152, L, S, H, cs, ss) = (aCall 3 6 0 0 0 0 F3 S H cs ss).bind fun r => orun method_3_code (Option.some Jvm.ClassFile.FieldType.boolean) E4 1 n (155, L, r.1, r.2.1, r.2.2.1, r.2.2.2) := s_any k4_152
theorem s4_155 {n cs ss : Nat} {L : List Slot} {S : List Value} {H : AH} : orun method_3_code (Option.some Jvm.ClassFile.FieldType.boolean) E4 1 (n + 1) (155, L, S, H, cs, ss) = pI S fun x r => if x = 0 then orun method_3_code (Option.some Jvm.ClassFile.FieldType.boolean) E4 1 n (158, L, r, H, cs, ss) else orun method_3_code (Option.some Jvm.ClassFile.FieldType.boolean) E4 1 n (169, L, r, H, cs, ss) := s_ifN (Q := fun x => x = 0) (fun _ => z_ne) k4_155 (by decide) (by decide)
theorem s4_158 {n cs ss : Nat} {L : List Slot} {S : List Value} {H : AH} : orun method_3_code (Option.some Jvm.ClassFile.FieldType.boolean) E4 1 (n + 1) (158, L, S, H, cs, ss) = (gI L 0).bind fun v => orun method_3_code (Option.some Jvm.ClassFile.FieldType.boolean) E4 1 n (159, L, .int v :: S, H, cs, ss) := s_any k4_158
theorem s4_159 {n cs ss : Nat} {L : List Slot} {S : List Value} {H : AH} : orun method_3_code (Option.some Jvm.ClassFile.FieldType.boolean) E4 1 (n + 1) (159, L, S, H, cs, ss) = (aI (65534) S H cs ss).bind fun r => orun method_3_code (Option.some Jvm.ClassFile.FieldType.boolean) E4 1 n (161, L, r.1, r.2.1, r.2.2.1, r.2.2.2) := s_any k4_159
theorem s4_161 {n cs ss : Nat} {L : List Slot} {S : List Value} {H : AH} : orun method_3_code (Option.some Jvm.ClassFile.FieldType.boolean) E4 1 (n + 1) (161, L, S, H, cs, ss) = (aI (65535) S H cs ss).bind fun r => orun method_3_code (Option.some Jvm.ClassFile.FieldType.boolean) E4 1 n (163, L, r.1, r.2.1, r.2.2.1, r.2.2.2) := s_any k4_161
theorem s4_163 {n cs ss : Nat} {L : List Slot} {S : List Value} {H : AH} : orun method_3_code (Option.some Jvm.ClassFile.FieldType.boolean) E4 1 (n + 1) (163, L, S, H, cs, ss) = (aCall 3 6 0 0 0 0 F3 S H cs ss).bind fun r => orun method_3_code (Option.some Jvm.ClassFile.FieldType.boolean) E4 1 n (166, L, r.1, r.2.1, r.2.2.1, r.2.2.2) := s_any k4_163
theorem s4_166 {n cs ss : Nat} {L : List Slot} {S : List Value} {H : AH} : orun method_3_code (Option.some Jvm.ClassFile.FieldType.boolean) E4 1 (n + 1) (166, L, S, H, cs, ss) = pI S fun x r => if x = 0 then orun method_3_code (Option.some Jvm.ClassFile.FieldType.boolean) E4 1 n (173, L, r, H, cs, ss) else orun method_3_code (Option.some Jvm.ClassFile.FieldType.boolean) E4 1 n (169, L, r, H, cs, ss) := s_if (Q := fun x => x = 0) (fun _ => z_eq) k4_166 (by decide) (by decide)
theorem s4_169 {n cs ss : Nat} {L : List Slot} {S : List Value} {H : AH} : orun method_3_code (Option.some Jvm.ClassFile.FieldType.boolean) E4 1 (n + 1) (169, L, S, H, cs, ss) = orun method_3_code (Option.some Jvm.ClassFile.FieldType.boolean) E4 1 n (170, L, (.int 1 :: S), H, cs, ss) := s_any k4_169
theorem s4_170 {n cs ss : Nat} {L : List Slot} {S : List Value} {H : AH} : orun method_3_code (Option.some Jvm.ClassFile.FieldType.boolean) E4 1 (n + 1) (170, L, S, H, cs, ss) = orun method_3_code (Option.some Jvm.ClassFile.FieldType.boolean) E4 1 n (174, L, S, H, cs, ss) := s_goto k4_170 (by decide) (by decide)
theorem s4_173 {n cs ss : Nat} {L : List Slot} {S : List Value} {H : AH} : orun method_3_code (Option.some Jvm.ClassFile.FieldType.boolean) E4 1 (n + 1) (173, L, S, H, cs, ss) = orun method_3_code (Option.some Jvm.ClassFile.FieldType.boolean) E4 1 n (174, L, (.int 0 :: S), H, cs, ss) := s_any k4_173
theorem s4_174 {n cs ss : Nat} {L : List Slot} {S : List Value} {H : AH} : orun method_3_code (Option.some Jvm.ClassFile.FieldType.boolean) E4 1 (n + 1) (174, L, S, H, cs, ss) = pI S fun z _ => some (some (.int (z &&& 1)), H) := s_any k4_174
theorem t4_0 {go : Nat → St → Option ORes} (hgo : go = orun method_3_code (Option.some Jvm.ClassFile.FieldType.boolean) E4 1) {n cs ss : Nat} {S : List Value} {H : AH} {q : Option ORes → Prop} {v : Int32} (h : Rsq (go n (1, [.val (.int v)], (.int v :: S), H, cs, ss)) q) : Rsq (go (n + 1) (0, [.val (.int v)], S, H, cs, ss)) q := by
  subst hgo
  exact res_of s4_0 h
theorem t4_1 {go : Nat → St → Option ORes} (hgo : go = orun method_3_code (Option.some Jvm.ClassFile.FieldType.boolean) E4 1) {n cs ss : Nat} {L : List Slot} {S : List Value} {H : AH} {q : Option ORes → Prop} (h : Rsq (go n (2, L, (.int 0 :: S), H, cs, ss)) q) : Rsq (go (n + 1) (1, L, S, H, cs, ss)) q := by
  subst hgo
  exact res_of s4_1 h
theorem t4_2 {go : Nat → St → Option ORes} (hgo : go = orun method_3_code (Option.some Jvm.ClassFile.FieldType.boolean) E4 1) {n cs ss : Nat} {L : List Slot} {S : List Value} {H : AH} {q : Option ORes → Prop} (h : Rsq (go n (4, L, (.int 57 :: S), H, cs, ss)) q) : Rsq (go (n + 1) (2, L, S, H, cs, ss)) q := by
  subst hgo
  exact res_of s4_2 h
theorem u4_4 {go : Nat → St → Option ORes} (hgo : go = orun method_3_code (Option.some Jvm.ClassFile.FieldType.boolean) E4 1) {n cs ss : Nat} {L : List Slot} {S : List Value} {H : AH} : go (n + 1) (4, L, S, H, cs, ss) = (aCall 3 6 0 0 0 0 F3 S H cs ss).bind fun r => go n (7, L, r.1, r.2.1, r.2.2.1, r.2.2.2) := by
  subst hgo
  exact s4_4
theorem t4_7t {go : Nat → St → Option ORes} (hgo : go = orun method_3_code (Option.some Jvm.ClassFile.FieldType.boolean) E4 1) {n cs ss : Nat} {L : List Slot} {S : List Value} {H : AH} {q : Option ORes → Prop} {x : Int32} (hc : x = 0) (h : Rsq (go n (10, L, S, H, cs, ss)) q) : Rsq (go (n + 1) (7, L, (.int x :: S), H, cs, ss)) q := by
  subst hgo
  exact res_of s4_7 (res_t hc h)
theorem t4_7f {go : Nat → St → Option ORes} (hgo : go = orun method_3_code (Option.some Jvm.ClassFile.FieldType.boolean) E4 1) {n cs ss : Nat} {L : List Slot} {S : List Value} {H : AH} {q : Option ORes → Prop} {x : Int32} (hc : ¬ x = 0) (h : Rsq (go n (169, L, S, H, cs, ss)) q) : Rsq (go (n + 1) (7, L, (.int x :: S), H, cs, ss)) q := by
  subst hgo
  exact res_of s4_7 (res_f hc h)
theorem t4_10 {go : Nat → St → Option ORes} (hgo : go = orun method_3_code (Option.some Jvm.ClassFile.FieldType.boolean) E4 1) {n cs ss : Nat} {S : List Value} {H : AH} {q : Option ORes → Prop} {v : Int32} (h : Rsq (go n (11, [.val (.int v)], (.int v :: S), H, cs, ss)) q) : Rsq (go (n + 1) (10, [.val (.int v)], S, H, cs, ss)) q := by
  subst hgo
  exact res_of s4_10 h
theorem t4_11 {go : Nat → St → Option ORes} (hgo : go = orun method_3_code (Option.some Jvm.ClassFile.FieldType.boolean) E4 1) {n cs ss : Nat} {L : List Slot} {S : List Value} {H : AH} {q : Option ORes → Prop} (h : Rsq (go n (13, L, (.int 59 :: S), H, cs, ss)) q) : Rsq (go (n + 1) (11, L, S, H, cs, ss)) q := by
  subst hgo
  exact res_of s4_11 h
theorem t4_13 {go : Nat → St → Option ORes} (hgo : go = orun method_3_code (Option.some Jvm.ClassFile.FieldType.boolean) E4 1) {n cs ss : Nat} {L : List Slot} {S : List Value} {H : AH} {q : Option ORes → Prop} (h : Rsq (go n (15, L, (.int 64 :: S), H, cs, ss)) q) : Rsq (go (n + 1) (13, L, S, H, cs, ss)) q := by
  subst hgo
  exact res_of s4_13 h
theorem u4_15 {go : Nat → St → Option ORes} (hgo : go = orun method_3_code (Option.some Jvm.ClassFile.FieldType.boolean) E4 1) {n cs ss : Nat} {L : List Slot} {S : List Value} {H : AH} : go (n + 1) (15, L, S, H, cs, ss) = (aCall 3 6 0 0 0 0 F3 S H cs ss).bind fun r => go n (18, L, r.1, r.2.1, r.2.2.1, r.2.2.2) := by
  subst hgo
  exact s4_15
theorem t4_18t {go : Nat → St → Option ORes} (hgo : go = orun method_3_code (Option.some Jvm.ClassFile.FieldType.boolean) E4 1) {n cs ss : Nat} {L : List Slot} {S : List Value} {H : AH} {q : Option ORes → Prop} {x : Int32} (hc : x = 0) (h : Rsq (go n (21, L, S, H, cs, ss)) q) : Rsq (go (n + 1) (18, L, (.int x :: S), H, cs, ss)) q := by
  subst hgo
  exact res_of s4_18 (res_t hc h)
theorem t4_18f {go : Nat → St → Option ORes} (hgo : go = orun method_3_code (Option.some Jvm.ClassFile.FieldType.boolean) E4 1) {n cs ss : Nat} {L : List Slot} {S : List Value} {H : AH} {q : Option ORes → Prop} {x : Int32} (hc : ¬ x = 0) (h : Rsq (go n (169, L, S, H, cs, ss)) q) : Rsq (go (n + 1) (18, L, (.int x :: S), H, cs, ss)) q := by
  subst hgo
  exact res_of s4_18 (res_f hc h)
theorem t4_21 {go : Nat → St → Option ORes} (hgo : go = orun method_3_code (Option.some Jvm.ClassFile.FieldType.boolean) E4 1) {n cs ss : Nat} {S : List Value} {H : AH} {q : Option ORes → Prop} {v : Int32} (h : Rsq (go n (22, [.val (.int v)], (.int v :: S), H, cs, ss)) q) : Rsq (go (n + 1) (21, [.val (.int v)], S, H, cs, ss)) q := by
  subst hgo
  exact res_of s4_21 h
theorem t4_22 {go : Nat → St → Option ORes} (hgo : go = orun method_3_code (Option.some Jvm.ClassFile.FieldType.boolean) E4 1) {n cs ss : Nat} {L : List Slot} {S : List Value} {H : AH} {q : Option ORes → Prop} (h : Rsq (go n (24, L, (.int 91 :: S), H, cs, ss)) q) : Rsq (go (n + 1) (22, L, S, H, cs, ss)) q := by
  subst hgo
  exact res_of s4_22 h
theorem t4_24 {go : Nat → St → Option ORes} (hgo : go = orun method_3_code (Option.some Jvm.ClassFile.FieldType.boolean) E4 1) {n cs ss : Nat} {L : List Slot} {S : List Value} {H : AH} {q : Option ORes → Prop} (h : Rsq (go n (26, L, (.int 94 :: S), H, cs, ss)) q) : Rsq (go (n + 1) (24, L, S, H, cs, ss)) q := by
  subst hgo
  exact res_of s4_24 h
theorem u4_26 {go : Nat → St → Option ORes} (hgo : go = orun method_3_code (Option.some Jvm.ClassFile.FieldType.boolean) E4 1) {n cs ss : Nat} {L : List Slot} {S : List Value} {H : AH} : go (n + 1) (26, L, S, H, cs, ss) = (aCall 3 6 0 0 0 0 F3 S H cs ss).bind fun r => go n (29, L, r.1, r.2.1, r.2.2.1, r.2.2.2) := by
  subst hgo
  exact s4_26
theorem t4_29t {go : Nat → St → Option ORes} (hgo : go = orun method_3_code (Option.some Jvm.ClassFile.FieldType.boolean) E4 1) {n cs ss : Nat} {L : List Slot} {S : List Value} {H : AH} {q : Option ORes → Prop} {x : Int32} (hc : x = 0) (h : Rsq (go n (32, L, S, H, cs, ss)) q) : Rsq (go (n + 1) (29, L, (.int x :: S), H, cs, ss)) q := by
  subst hgo
  exact res_of s4_29 (res_t hc h)
theorem t4_29f {go : Nat → St → Option ORes} (hgo : go = orun method_3_code (Option.some Jvm.ClassFile.FieldType.boolean) E4 1) {n cs ss : Nat} {L : List Slot} {S : List Value} {H : AH} {q : Option ORes → Prop} {x : Int32} (hc : ¬ x = 0) (h : Rsq (go n (169, L, S, H, cs, ss)) q) : Rsq (go (n + 1) (29, L, (.int x :: S), H, cs, ss)) q := by
  subst hgo
  exact res_of s4_29 (res_f hc h)
theorem t4_32 {go : Nat → St → Option ORes} (hgo : go = orun method_3_code (Option.some Jvm.ClassFile.FieldType.boolean) E4 1) {n cs ss : Nat} {S : List Value} {H : AH} {q : Option ORes → Prop} {v : Int32} (h : Rsq (go n (33, [.val (.int v)], (.int v :: S), H, cs, ss)) q) : Rsq (go (n + 1) (32, [.val (.int v)], S, H, cs, ss)) q := by
  subst hgo
  exact res_of s4_32 h
theorem t4_33 {go : Nat → St → Option ORes} (hgo : go = orun method_3_code (Option.some Jvm.ClassFile.FieldType.boolean) E4 1) {n cs ss : Nat} {L : List Slot} {S : List Value} {H : AH} {q : Option ORes → Prop} (h : Rsq (go n (35, L, (.int 96 :: S), H, cs, ss)) q) : Rsq (go (n + 1) (33, L, S, H, cs, ss)) q := by
  subst hgo
  exact res_of s4_33 h
theorem t4_35t {go : Nat → St → Option ORes} (hgo : go = orun method_3_code (Option.some Jvm.ClassFile.FieldType.boolean) E4 1) {n cs ss : Nat} {L : List Slot} {S : List Value} {H : AH} {q : Option ORes → Prop} {x y : Int32} (hc : x = y) (h : Rsq (go n (169, L, S, H, cs, ss)) q) : Rsq (go (n + 1) (35, L, (.int y :: .int x :: S), H, cs, ss)) q := by
  subst hgo
  exact res_of s4_35 (res_t hc h)
theorem t4_35f {go : Nat → St → Option ORes} (hgo : go = orun method_3_code (Option.some Jvm.ClassFile.FieldType.boolean) E4 1) {n cs ss : Nat} {L : List Slot} {S : List Value} {H : AH} {q : Option ORes → Prop} {x y : Int32} (hc : ¬ x = y) (h : Rsq (go n (38, L, S, H, cs, ss)) q) : Rsq (go (n + 1) (35, L, (.int y :: .int x :: S), H, cs, ss)) q := by
  subst hgo
  exact res_of s4_35 (res_f hc h)
theorem t4_38 {go : Nat → St → Option ORes} (hgo : go = orun method_3_code (Option.some Jvm.ClassFile.FieldType.boolean) E4 1) {n cs ss : Nat} {S : List Value} {H : AH} {q : Option ORes → Prop} {v : Int32} (h : Rsq (go n (39, [.val (.int v)], (.int v :: S), H, cs, ss)) q) : Rsq (go (n + 1) (38, [.val (.int v)], S, H, cs, ss)) q := by
  subst hgo
  exact res_of s4_38 h
theorem t4_39 {go : Nat → St → Option ORes} (hgo : go = orun method_3_code (Option.some Jvm.ClassFile.FieldType.boolean) E4 1) {n cs ss : Nat} {L : List Slot} {S : List Value} {H : AH} {q : Option ORes → Prop} (h : Rsq (go n (41, L, (.int 123 :: S), H, cs, ss)) q) : Rsq (go (n + 1) (39, L, S, H, cs, ss)) q := by
  subst hgo
  exact res_of s4_39 h
theorem t4_41 {go : Nat → St → Option ORes} (hgo : go = orun method_3_code (Option.some Jvm.ClassFile.FieldType.boolean) E4 1) {n cs ss : Nat} {L : List Slot} {S : List Value} {H : AH} {q : Option ORes → Prop} (h : Rsq (go n (44, L, (.int 191 :: S), H, cs, ss)) q) : Rsq (go (n + 1) (41, L, S, H, cs, ss)) q := by
  subst hgo
  exact res_of s4_41 h
theorem u4_44 {go : Nat → St → Option ORes} (hgo : go = orun method_3_code (Option.some Jvm.ClassFile.FieldType.boolean) E4 1) {n cs ss : Nat} {L : List Slot} {S : List Value} {H : AH} : go (n + 1) (44, L, S, H, cs, ss) = (aCall 3 6 0 0 0 0 F3 S H cs ss).bind fun r => go n (47, L, r.1, r.2.1, r.2.2.1, r.2.2.2) := by
  subst hgo
  exact s4_44
theorem t4_47t {go : Nat → St → Option ORes} (hgo : go = orun method_3_code (Option.some Jvm.ClassFile.FieldType.boolean) E4 1) {n cs ss : Nat} {L : List Slot} {S : List Value} {H : AH} {q : Option ORes → Prop} {x : Int32} (hc : x = 0) (h : Rsq (go n (50, L, S, H, cs, ss)) q) : Rsq (go (n + 1) (47, L, (.int x :: S), H, cs, ss)) q := by
  subst hgo
  exact res_of s4_47 (res_t hc h)
theorem t4_47f {go : Nat → St → Option ORes} (hgo : go = orun method_3_code (Option.some Jvm.ClassFile.FieldType.boolean) E4 1) {n cs ss : Nat} {L : List Slot} {S : List Value} {H : AH} {q : Option ORes → Prop} {x : Int32} (hc : ¬ x = 0) (h : Rsq (go n (169, L, S, H, cs, ss)) q) : Rsq (go (n + 1) (47, L, (.int x :: S), H, cs, ss)) q := by
  subst hgo
  exact res_of s4_47 (res_f hc h)
theorem t4_50 {go : Nat → St → Option ORes} (hgo : go = orun method_3_code (Option.some Jvm.ClassFile.FieldType.boolean) E4 1) {n cs ss : Nat} {S : List Value} {H : AH} {q : Option ORes → Prop} {v : Int32} (h : Rsq (go n (51, [.val (.int v)], (.int v :: S), H, cs, ss)) q) : Rsq (go (n + 1) (50, [.val (.int v)], S, H, cs, ss)) q := by
  subst hgo
  exact res_of s4_50 h
theorem t4_51 {go : Nat → St → Option ORes} (hgo : go = orun method_3_code (Option.some Jvm.ClassFile.FieldType.boolean) E4 1) {n cs ss : Nat} {L : List Slot} {S : List Value} {H : AH} {q : Option ORes → Prop} (h : Rsq (go n (54, L, (.int 215 :: S), H, cs, ss)) q) : Rsq (go (n + 1) (51, L, S, H, cs, ss)) q := by
  subst hgo
  exact res_of s4_51 h
theorem t4_54t {go : Nat → St → Option ORes} (hgo : go = orun method_3_code (Option.some Jvm.ClassFile.FieldType.boolean) E4 1) {n cs ss : Nat} {L : List Slot} {S : List Value} {H : AH} {q : Option ORes → Prop} {x y : Int32} (hc : x = y) (h : Rsq (go n (169, L, S, H, cs, ss)) q) : Rsq (go (n + 1) (54, L, (.int y :: .int x :: S), H, cs, ss)) q := by
  subst hgo
  exact res_of s4_54 (res_t hc h)
theorem t4_54f {go : Nat → St → Option ORes} (hgo : go = orun method_3_code (Option.some Jvm.ClassFile.FieldType.boolean) E4 1) {n cs ss : Nat} {L : List Slot} {S : List Value} {H : AH} {q : Option ORes → Prop} {x y : Int32} (hc : ¬ x = y) (h : Rsq (go n (57, L, S, H, cs, ss)) q) : Rsq (go (n + 1) (54, L, (.int y :: .int x :: S), H, cs, ss)) q := by
  subst hgo
  exact res_of s4_54 (res_f hc h)
theorem t4_57 {go : Nat → St → Option ORes} (hgo : go = orun method_3_code (Option.some Jvm.ClassFile.FieldType.boolean) E4 1) {n cs ss : Nat} {S : List Value} {H : AH} {q : Option ORes → Prop} {v : Int32} (h : Rsq (go n (58, [.val (.int v)], (.int v :: S), H, cs, ss)) q) : Rsq (go (n + 1) (57, [.val (.int v)], S, H, cs, ss)) q := by
  subst hgo
  exact res_of s4_57 h
theorem t4_58 {go : Nat → St → Option ORes} (hgo : go = orun method_3_code (Option.some Jvm.ClassFile.FieldType.boolean) E4 1) {n cs ss : Nat} {L : List Slot} {S : List Value} {H : AH} {q : Option ORes → Prop} (h : Rsq (go n (61, L, (.int 247 :: S), H, cs, ss)) q) : Rsq (go (n + 1) (58, L, S, H, cs, ss)) q := by
  subst hgo
  exact res_of s4_58 h
theorem t4_61t {go : Nat → St → Option ORes} (hgo : go = orun method_3_code (Option.some Jvm.ClassFile.FieldType.boolean) E4 1) {n cs ss : Nat} {L : List Slot} {S : List Value} {H : AH} {q : Option ORes → Prop} {x y : Int32} (hc : x = y) (h : Rsq (go n (169, L, S, H, cs, ss)) q) : Rsq (go (n + 1) (61, L, (.int y :: .int x :: S), H, cs, ss)) q := by
  subst hgo
  exact res_of s4_61 (res_t hc h)
theorem t4_61f {go : Nat → St → Option ORes} (hgo : go = orun method_3_code (Option.some Jvm.ClassFile.FieldType.boolean) E4 1) {n cs ss : Nat} {L : List Slot} {S : List Value} {H : AH} {q : Option ORes → Prop} {x y : Int32} (hc : ¬ x = y) (h : Rsq (go n (64, L, S, H, cs, ss)) q) : Rsq (go (n + 1) (61, L, (.int y :: .int x :: S), H, cs, ss)) q := by
  subst hgo
  exact res_of s4_61 (res_f hc h)
theorem t4_64 {go : Nat → St → Option ORes} (hgo : go = orun method_3_code (Option.some Jvm.ClassFile.FieldType.boolean) E4 1) {n cs ss : Nat} {S : List Value} {H : AH} {q : Option ORes → Prop} {v : Int32} (h : Rsq (go n (65, [.val (.int v)], (.int v :: S), H, cs, ss)) q) : Rsq (go (n + 1) (64, [.val (.int v)], S, H, cs, ss)) q := by
  subst hgo
  exact res_of s4_64 h
theorem t4_65 {go : Nat → St → Option ORes} (hgo : go = orun method_3_code (Option.some Jvm.ClassFile.FieldType.boolean) E4 1) {n cs ss : Nat} {L : List Slot} {S : List Value} {H : AH} {q : Option ORes → Prop} (h : Rsq (go n (68, L, (.int 768 :: S), H, cs, ss)) q) : Rsq (go (n + 1) (65, L, S, H, cs, ss)) q := by
  subst hgo
  exact res_of s4_65 h
theorem t4_68 {go : Nat → St → Option ORes} (hgo : go = orun method_3_code (Option.some Jvm.ClassFile.FieldType.boolean) E4 1) {n cs ss : Nat} {L : List Slot} {S : List Value} {H : AH} {q : Option ORes → Prop} (h : Rsq (go n (71, L, (.int 879 :: S), H, cs, ss)) q) : Rsq (go (n + 1) (68, L, S, H, cs, ss)) q := by
  subst hgo
  exact res_of s4_68 h
theorem u4_71 {go : Nat → St → Option ORes} (hgo : go = orun method_3_code (Option.some Jvm.ClassFile.FieldType.boolean) E4 1) {n cs ss : Nat} {L : List Slot} {S : List Value} {H : AH} : go (n + 1) (71, L, S, H, cs, ss) = (aCall 3 6 0 0 0 0 F3 S H cs ss).bind fun r => go n (74, L, r.1, r.2.1, r.2.2.1, r.2.2.2) := by
  subst hgo
  exact s4_71
theorem t4_74t {go : Nat → St → Option ORes} (hgo : go = orun method_3_code (Option.some Jvm.ClassFile.FieldType.boolean) E4 1) {n cs ss : Nat} {L : List Slot} {S : List Value} {H : AH} {q : Option ORes → Prop} {x : Int32} (hc : x = 0) (h : Rsq (go n (77, L, S, H, cs, ss)) q) : Rsq (go (n + 1) (74, L, (.int x :: S), H, cs, ss)) q := by
  subst hgo
  exact res_of s4_74 (res_t hc h)
theorem t4_74f {go : Nat → St → Option ORes} (hgo : go = orun method_3_code (Option.some Jvm.ClassFile.FieldType.boolean) E4 1) {n cs ss : Nat} {L : List Slot} {S : List Value} {H : AH} {q : Option ORes → Prop} {x : Int32} (hc : ¬ x = 0) (h : Rsq (go n (169, L, S, H, cs, ss)) q) : Rsq (go (n + 1) (74, L, (.int x :: S), H, cs, ss)) q := by
  subst hgo
  exact res_of s4_74 (res_f hc h)
theorem t4_77 {go : Nat → St → Option ORes} (hgo : go = orun method_3_code (Option.some Jvm.ClassFile.FieldType.boolean) E4 1) {n cs ss : Nat} {S : List Value} {H : AH} {q : Option ORes → Prop} {v : Int32} (h : Rsq (go n (78, [.val (.int v)], (.int v :: S), H, cs, ss)) q) : Rsq (go (n + 1) (77, [.val (.int v)], S, H, cs, ss)) q := by
  subst hgo
  exact res_of s4_77 h
theorem t4_78 {go : Nat → St → Option ORes} (hgo : go = orun method_3_code (Option.some Jvm.ClassFile.FieldType.boolean) E4 1) {n cs ss : Nat} {L : List Slot} {S : List Value} {H : AH} {q : Option ORes → Prop} (h : Rsq (go n (81, L, (.int 894 :: S), H, cs, ss)) q) : Rsq (go (n + 1) (78, L, S, H, cs, ss)) q := by
  subst hgo
  exact res_of s4_78 h
theorem t4_81t {go : Nat → St → Option ORes} (hgo : go = orun method_3_code (Option.some Jvm.ClassFile.FieldType.boolean) E4 1) {n cs ss : Nat} {L : List Slot} {S : List Value} {H : AH} {q : Option ORes → Prop} {x y : Int32} (hc : x = y) (h : Rsq (go n (169, L, S, H, cs, ss)) q) : Rsq (go (n + 1) (81, L, (.int y :: .int x :: S), H, cs, ss)) q := by
  subst hgo
  exact res_of s4_81 (res_t hc h)
theorem t4_81f {go : Nat → St → Option ORes} (hgo : go = orun method_3_code (Option.some Jvm.ClassFile.FieldType.boolean) E4 1) {n cs ss : Nat} {L : List Slot} {S : List Value} {H : AH} {q : Option ORes → Prop} {x y : Int32} (hc : ¬ x = y) (h : Rsq (go n (84, L, S, H, cs, ss)) q) : Rsq (go (n + 1) (81, L, (.int y :: .int x :: S), H, cs, ss)) q := by
  subst hgo
  exact res_of s4_81 (res_f hc h)
theorem t4_84 {go : Nat → St → Option ORes} (hgo : go = orun method_3_code (Option.some Jvm.ClassFile.FieldType.boolean) E4 1) {n cs ss : Nat} {S : List Value} {H : AH} {q : Option ORes → Prop} {v : Int32} (h : Rsq (go n (85, [.val (.int v)], (.int v :: S), H, cs, ss)) q) : Rsq (go (n + 1) (84, [.val (.int v)], S, H, cs, ss)) q := by
  subst hgo
  exact res_of s4_84 h
theorem t4_85 {go : Nat → St → Option ORes} (hgo : go = orun method_3_code (Option.some Jvm.ClassFile.FieldType.boolean) E4 1) {n cs ss : Nat} {L : List Slot} {S : List Value} {H : AH} {q : Option ORes → Prop} (h : Rsq (go n (88, L, (.int 8192 :: S), H, cs, ss)) q) : Rsq (go (n + 1) (85, L, S, H, cs, ss)) q := by
  subst hgo
  exact res_of s4_85 h
theorem t4_88 {go : Nat → St → Option ORes} (hgo : go = orun method_3_code (Option.some Jvm.ClassFile.FieldType.boolean) E4 1) {n cs ss : Nat} {L : List Slot} {S : List Value} {H : AH} {q : Option ORes → Prop} (h : Rsq (go n (91, L, (.int 8203 :: S), H, cs, ss)) q) : Rsq (go (n + 1) (88, L, S, H, cs, ss)) q := by
  subst hgo
  exact res_of s4_88 h
theorem u4_91 {go : Nat → St → Option ORes} (hgo : go = orun method_3_code (Option.some Jvm.ClassFile.FieldType.boolean) E4 1) {n cs ss : Nat} {L : List Slot} {S : List Value} {H : AH} : go (n + 1) (91, L, S, H, cs, ss) = (aCall 3 6 0 0 0 0 F3 S H cs ss).bind fun r => go n (94, L, r.1, r.2.1, r.2.2.1, r.2.2.2) := by
  subst hgo
  exact s4_91
theorem t4_94t {go : Nat → St → Option ORes} (hgo : go = orun method_3_code (Option.some Jvm.ClassFile.FieldType.boolean) E4 1) {n cs ss : Nat} {L : List Slot} {S : List Value} {H : AH} {q : Option ORes → Prop} {x : Int32} (hc : x = 0) (h : Rsq (go n (97, L, S, H, cs, ss)) q) : Rsq (go (n + 1) (94, L, (.int x :: S), H, cs, ss)) q := by
  subst hgo
  exact res_of s4_94 (res_t hc h)
theorem t4_94f {go : Nat → St → Option ORes} (hgo : go = orun method_3_code (Option.some Jvm.ClassFile.FieldType.boolean) E4 1) {n cs ss : Nat} {L : List Slot} {S : List Value} {H : AH} {q : Option ORes → Prop} {x : Int32} (hc : ¬ x = 0) (h : Rsq (go n (169, L, S, H, cs, ss)) q) : Rsq (go (n + 1) (94, L, (.int x :: S), H, cs, ss)) q := by
  subst hgo
  exact res_of s4_94 (res_f hc h)
theorem t4_97 {go : Nat → St → Option ORes} (hgo : go = orun method_3_code (Option.some Jvm.ClassFile.FieldType.boolean) E4 1) {n cs ss : Nat} {S : List Value} {H : AH} {q : Option ORes → Prop} {v : Int32} (h : Rsq (go n (98, [.val (.int v)], (.int v :: S), H, cs, ss)) q) : Rsq (go (n + 1) (97, [.val (.int v)], S, H, cs, ss)) q := by
  subst hgo
  exact res_of s4_97 h
theorem t4_98 {go : Nat → St → Option ORes} (hgo : go = orun method_3_code (Option.some Jvm.ClassFile.FieldType.boolean) E4 1) {n cs ss : Nat} {L : List Slot} {S : List Value} {H : AH} {q : Option ORes → Prop} (h : Rsq (go n (101, L, (.int 8206 :: S), H, cs, ss)) q) : Rsq (go (n + 1) (98, L, S, H, cs, ss)) q := by
  subst hgo
  exact res_of s4_98 h
theorem t4_101 {go : Nat → St → Option ORes} (hgo : go = orun method_3_code (Option.some Jvm.ClassFile.FieldType.boolean) E4 1) {n cs ss : Nat} {L : List Slot} {S : List Value} {H : AH} {q : Option ORes → Prop} (h : Rsq (go n (104, L, (.int 8303 :: S), H, cs, ss)) q) : Rsq (go (n + 1) (101, L, S, H, cs, ss)) q := by
  subst hgo
  exact res_of s4_101 h
theorem u4_104 {go : Nat → St → Option ORes} (hgo : go = orun method_3_code (Option.some Jvm.ClassFile.FieldType.boolean) E4 1) {n cs ss : Nat} {L : List Slot} {S : List Value} {H : AH} : go (n + 1) (104, L, S, H, cs, ss) = (aCall 3 6 0 0 0 0 F3 S H cs ss).bind fun r => go n (107, L, r.1, r.2.1, r.2.2.1, r.2.2.2) := by
  subst hgo
  exact s4_104
theorem t4_107t {go : Nat → St → Option ORes} (hgo : go = orun method_3_code (Option.some Jvm.ClassFile.FieldType.boolean) E4 1) {n cs ss : Nat} {L : List Slot} {S : List Value} {H : AH} {q : Option ORes → Prop} {x : Int32} (hc : x = 0) (h : Rsq (go n (110, L, S, H, cs, ss)) q) : Rsq (go (n + 1) (107, L, (.int x :: S), H, cs, ss)) q := by
  subst hgo
  exact res_of s4_107 (res_t hc h)
theorem t4_107f {go : Nat → St → Option ORes} (hgo : go = orun method_3_code (Option.some Jvm.ClassFile.FieldType.boolean) E4 1) {n cs ss : Nat} {L : List Slot} {S : List Value} {H : AH} {q : Option ORes → Prop} {x : Int32} (hc : ¬ x = 0) (h : Rsq (go n (169, L, S, H, cs, ss)) q) : Rsq (go (n + 1) (107, L, (.int x :: S), H, cs, ss)) q := by
  subst hgo
  exact res_of s4_107 (res_f hc h)
theorem t4_110 {go : Nat → St → Option ORes} (hgo : go = orun method_3_code (Option.some Jvm.ClassFile.FieldType.boolean) E4 1) {n cs ss : Nat} {S : List Value} {H : AH} {q : Option ORes → Prop} {v : Int32} (h : Rsq (go n (111, [.val (.int v)], (.int v :: S), H, cs, ss)) q) : Rsq (go (n + 1) (110, [.val (.int v)], S, H, cs, ss)) q := by
  subst hgo
  exact res_of s4_110 h
theorem t4_111 {go : Nat → St → Option ORes} (hgo : go = orun method_3_code (Option.some Jvm.ClassFile.FieldType.boolean) E4 1) {n cs ss : Nat} {L : List Slot} {S : List Value} {H : AH} {q : Option ORes → Prop} (h : Rsq (go n (114, L, (.int 8592 :: S), H, cs, ss)) q) : Rsq (go (n + 1) (111, L, S, H, cs, ss)) q := by
  subst hgo
  exact res_of s4_111 h
theorem t4_114 {go : Nat → St → Option ORes} (hgo : go = orun method_3_code (Option.some Jvm.ClassFile.FieldType.boolean) E4 1) {n cs ss : Nat} {L : List Slot} {S : List Value} {H : AH} {q : Option ORes → Prop} (h : Rsq (go n (117, L, (.int 11263 :: S), H, cs, ss)) q) : Rsq (go (n + 1) (114, L, S, H, cs, ss)) q := by
  subst hgo
  exact res_of s4_114 h
theorem u4_117 {go : Nat → St → Option ORes} (hgo : go = orun method_3_code (Option.some Jvm.ClassFile.FieldType.boolean) E4 1) {n cs ss : Nat} {L : List Slot} {S : List Value} {H : AH} : go (n + 1) (117, L, S, H, cs, ss) = (aCall 3 6 0 0 0 0 F3 S H cs ss).bind fun r => go n (120, L, r.1, r.2.1, r.2.2.1, r.2.2.2) := by
  subst hgo
  exact s4_117
theorem t4_120t {go : Nat → St → Option ORes} (hgo : go = orun method_3_code (Option.some Jvm.ClassFile.FieldType.boolean) E4 1) {n cs ss : Nat} {L : List Slot} {S : List Value} {H : AH} {q : Option ORes → Prop} {x : Int32} (hc : x = 0) (h : Rsq (go n (123, L, S, H, cs, ss)) q) : Rsq (go (n + 1) (120, L, (.int x :: S), H, cs, ss)) q := by
  subst hgo
  exact res_of s4_120 (res_t hc h)
theorem t4_120f {go : Nat → St → Option ORes} (hgo : go = orun method_3_code (Option.some Jvm.ClassFile.FieldType.boolean) E4 1) {n cs ss : Nat} {L : List Slot} {S : List Value} {H : AH} {q : Option ORes → Prop} {x : Int32} (hc : ¬ x = 0) (h : Rsq (go n (169, L, S, H, cs, ss)) q) : Rsq (go (n + 1) (120, L, (.int x :: S), H, cs, ss)) q := by
  subst hgo
  exact res_of s4_120 (res_f hc h)
theorem t4_123 {go : Nat → St → Option ORes} (hgo : go = orun method_3_code (Option.some Jvm.ClassFile.FieldType.boolean) E4 1) {n cs ss : Nat} {S : List Value} {H : AH} {q : Option ORes → Prop} {v : Int32} (h : Rsq (go n (124, [.val (.int v)], (.int v :: S), H, cs, ss)) q) : Rsq (go (n + 1) (123, [.val (.int v)], S, H, cs, ss)) q := by
  subst hgo
  exact res_of s4_123 h
theorem t4_124 {go : Nat → St → Option ORes} (hgo : go = orun method_3_code (Option.some Jvm.ClassFile.FieldType.boolean) E4 1) {n cs ss : Nat} {L : List Slot} {S : List Value} {H : AH} {q : Option ORes → Prop} (h : Rsq (go n (127, L, (.int 12272 :: S), H, cs, ss)) q) : Rsq (go (n + 1) (124, L, S, H, cs, ss)) q := by
  subst hgo
  exact res_of s4_124 h
theorem t4_127 {go : Nat → St → Option ORes} (hgo : go = orun method_3_code (Option.some Jvm.ClassFile.FieldType.boolean) E4 1) {n cs ss : Nat} {L : List Slot} {S : List Value} {H : AH} {q : Option ORes → Prop} (h : Rsq (go n (130, L, (.int 12288 :: S), H, cs, ss)) q) : Rsq (go (n + 1) (127, L, S, H, cs, ss)) q := by
  subst hgo
  exact res_of s4_127 h
theorem u4_130 {go : Nat → St → Option ORes} (hgo : go = orun method_3_code (Option.some Jvm.ClassFile.FieldType.boolean) E4 1) {n cs ss : Nat} {L : List Slot} {S : List Value} {H : AH} : go (n + 1) (130, L, S, H, cs, ss) = (aCall 3 6 0 0 0 0 F3 S H cs ss).bind fun r => go n (133, L, r.1, r.2.1, r.2.2.1, r.2.2.2) := by
  subst hgo
  exact s4_130
theorem t4_133t {go : Nat → St → Option ORes} (hgo : go = orun method_3_code (Option.some Jvm.ClassFile.FieldType.boolean) E4 1) {n cs ss : Nat} {L : List Slot} {S : List Value} {H : AH} {q : Option ORes → Prop} {x : Int32} (hc : x = 0) (h : Rsq (go n (136, L, S, H, cs, ss)) q) : Rsq (go (n + 1) (133, L, (.int x :: S), H, cs, ss)) q := by
  subst hgo
  exact res_of s4_133 (res_t hc h)
theorem t4_133f {go : Nat → St → Option ORes} (hgo : go = orun method_3_code (Option.some Jvm.ClassFile.FieldType.boolean) E4 1) {n cs ss : Nat} {L : List Slot} {S : List Value} {H : AH} {q : Option ORes → Prop} {x : Int32} (hc : ¬ x = 0) (h : Rsq (go n (169, L, S, H, cs, ss)) q) : Rsq (go (n + 1) (133, L, (.int x :: S), H, cs, ss)) q := by
  subst hgo
  exact res_of s4_133 (res_f hc h)
theorem t4_136 {go : Nat → St → Option ORes} (hgo : go = orun method_3_code (Option.some Jvm.ClassFile.FieldType.boolean) E4 1) {n cs ss : Nat} {S : List Value} {H : AH} {q : Option ORes → Prop} {v : Int32} (h : Rsq (go n (137, [.val (.int v)], (.int v :: S), H, cs, ss)) q) : Rsq (go (n + 1) (136, [.val (.int v)], S, H, cs, ss)) q := by
  subst hgo
  exact res_of s4_136 h
theorem t4_137 {go : Nat → St → Option ORes} (hgo : go = orun method_3_code (Option.some Jvm.ClassFile.FieldType.boolean) E4 1) {n cs ss : Nat} {L : List Slot} {S : List Value} {H : AH} {q : Option ORes → Prop} (h : Rsq (go n (139, L, (.int (55296) :: S), H, cs, ss)) q) : Rsq (go (n + 1) (137, L, S, H, cs, ss)) q := by
  subst hgo
  exact res_of s4_137 h
theorem t4_139 {go : Nat → St → Option ORes} (hgo : go = orun method_3_code (Option.some Jvm.ClassFile.FieldType.boolean) E4 1) {n cs ss : Nat} {L : List Slot} {S : List Value} {H : AH} {q : Option ORes → Prop} (h : Rsq (go n (141, L, (.int (63743) :: S), H, cs, ss)) q) : Rsq (go (n + 1) (139, L, S, H, cs, ss)) q := by
  subst hgo
  exact res_of s4_139 h
theorem u4_141 {go : Nat → St → Option ORes} (hgo : go = orun method_3_code (Option.some Jvm.ClassFile.FieldType.boolean) E4 1) {n cs ss : Nat} {L : List Slot} {S : List Value} {H : AH} : go (n + 1) (141, L, S, H, cs, ss) = (aCall 3 6 0 0 0 0 F3 S H cs ss).bind fun r => go n (144, L, r.1, r.2.1, r.2.2.1, r.2.2.2) := by
  subst hgo
  exact s4_141
theorem t4_144t {go : Nat → St → Option ORes} (hgo : go = orun method_3_code (Option.some Jvm.ClassFile.FieldType.boolean) E4 1) {n cs ss : Nat} {L : List Slot} {S : List Value} {H : AH} {q : Option ORes → Prop} {x : Int32} (hc : x = 0) (h : Rsq (go n (147, L, S, H, cs, ss)) q) : Rsq (go (n + 1) (144, L, (.int x :: S), H, cs, ss)) q := by
  subst hgo
  exact res_of s4_144 (res_t hc h)
theorem t4_144f {go : Nat → St → Option ORes} (hgo : go = orun method_3_code (Option.some Jvm.ClassFile.FieldType.boolean) E4 1) {n cs ss : Nat} {L : List Slot} {S : List Value} {H : AH} {q : Option ORes → Prop} {x : Int32} (hc : ¬ x = 0) (h : Rsq (go n (169, L, S, H, cs, ss)) q) : Rsq (go (n + 1) (144, L, (.int x :: S), H, cs, ss)) q := by
  subst hgo
  exact res_of s4_144 (res_f hc h)
theorem t4_147 {go : Nat → St → Option ORes} (hgo : go = orun method_3_code (Option.some Jvm.ClassFile.FieldType.boolean) E4 1) {n cs ss : Nat} {S : List Value} {H : AH} {q : Option ORes → Prop} {v : Int32} (h : Rsq (go n (148, [.val (.int v)], (.int v :: S), H, cs, ss)) q) : Rsq (go (n + 1) (147, [.val (.int v)], S, H, cs, ss)) q := by
  subst hgo
  exact res_of s4_147 h
theorem t4_148 {go : Nat → St → Option ORes} (hgo : go = orun method_3_code (Option.some Jvm.ClassFile.FieldType.boolean) E4 1) {n cs ss : Nat} {L : List Slot} {S : List Value} {H : AH} {q : Option ORes → Prop} (h : Rsq (go n (150, L, (.int (64976) :: S), H, cs, ss)) q) : Rsq (go (n + 1) (148, L, S, H, cs, ss)) q := by
  subst hgo
  exact res_of s4_148 h
theorem t4_150 {go : Nat → St → Option ORes} (hgo : go = orun method_3_code (Option.some Jvm.ClassFile.FieldType.boolean) E4 1) {n cs ss : Nat} {L : List Slot} {S : List Value} {H : AH} {q : Option ORes → Prop} (h : Rsq (go n (152, L, (.int (65007) :: S), H, cs, ss)) q) : Rsq (go (n + 1) (150, L, S, H, cs, ss)) q := by
  subst hgo
  exact res_of s4_150 h
theorem u4_152 {go : Nat → St → Option ORes} (hgo : go = orun method_3_code (Option.some Jvm.ClassFile.FieldType.boolean) E4 1) {n cs ss : Nat} {L : List Slot} {S : List Value} {H : AH} : go (n + 1) (152, L, S, H, cs, ss) = (aCall 3 6 0 0 0 0 F3 S H cs ss).bind fun r => go n (155, L, r.1, r.2.1, r.2.2.1, r.2.2.2) := by
  subst hgo
  exact s4_152
theorem t4_155t {go : Nat → St → Option ORes} (hgo : go = orun method_3_code (Option.some Jvm.ClassFile.FieldType.boolean) E4 1) {n cs ss : Nat} {L : List Slot} {S : List Value} {H : AH} {q : Option ORes → Prop} {x : Int32} (hc : x = 0) (h : Rsq (go n (158, L, S, H, cs, ss)) q) : Rsq (go (n + 1) (155, L, (.int x :: S), H, cs, ss)) q := by
  subst hgo
  exact res_of s4_155 (res_t hc h)
theorem t4_155f {go : Nat → St → Option ORes} (hgo : go = orun method_3_code (Option.some Jvm.ClassFile.FieldType.boolean) E4 1) {n cs ss : Nat} {L : List Slot} {S : List Value} {H : AH} {q : Option ORes → Prop} {x : Int32} (hc : ¬ x = 0) (h : Rsq (go n (169, L, S, H, cs, ss)) q) : Rsq (go (n + 1) (155, L, (.int x :: S), H, cs, ss)) q := by
  subst hgo
  exact res_of s4_155 (res_f hc h)
theorem t4_158 {go : Nat → St → Option ORes} (hgo : go = orun method_3_code (Option.some Jvm.ClassFile.FieldType.boolean) E4 1) {n cs ss : Nat} {S : List Value} {H : AH} {q : Option ORes → Prop} {v : Int32} (h : Rsq (go n (159, [.val (.int v)], (.int v :: S), H, cs, ss)) q) : Rsq (go (n + 1) (158, [.val (.int v)], S, H, cs, ss)) q := by
  subst hgo
  exact res_of s4_158 h
theorem t4_159 {go : Nat → St → Option ORes} (hgo : go = orun method_3_code (Option.some Jvm.ClassFile.FieldType.boolean) E4 1) {n cs ss : Nat} {L : List Slot} {S : List Value} {H : AH} {q : Option ORes → Prop} (h : Rsq (go n (161, L, (.int (65534) :: S), H, cs, ss)) q) : Rsq (go (n + 1) (159, L, S, H, cs, ss)) q := by
  subst hgo
  exact res_of s4_159 h
theorem t4_161 {go : Nat → St → Option ORes} (hgo : go = orun method_3_code (Option.some Jvm.ClassFile.FieldType.boolean) E4 1) {n cs ss : Nat} {L : List Slot} {S : List Value} {H : AH} {q : Option ORes → Prop} (h : Rsq (go n (163, L, (.int (65535) :: S), H, cs, ss)) q) : Rsq (go (n + 1) (161, L, S, H, cs, ss)) q := by
  subst hgo
  exact res_of s4_161 h
theorem u4_163 {go : Nat → St → Option ORes} (hgo : go = orun method_3_code (Option.some Jvm.ClassFile.FieldType.boolean) E4 1) {n cs ss : Nat} {L : List Slot} {S : List Value} {H : AH} : go (n + 1) (163, L, S, H, cs, ss) = (aCall 3 6 0 0 0 0 F3 S H cs ss).bind fun r => go n (166, L, r.1, r.2.1, r.2.2.1, r.2.2.2) := by
  subst hgo
  exact s4_163
theorem t4_166t {go : Nat → St → Option ORes} (hgo : go = orun method_3_code (Option.some Jvm.ClassFile.FieldType.boolean) E4 1) {n cs ss : Nat} {L : List Slot} {S : List Value} {H : AH} {q : Option ORes → Prop} {x : Int32} (hc : x = 0) (h : Rsq (go n (173, L, S, H, cs, ss)) q) : Rsq (go (n + 1) (166, L, (.int x :: S), H, cs, ss)) q := by
  subst hgo
  exact res_of s4_166 (res_t hc h)
theorem t4_166f {go : Nat → St → Option ORes} (hgo : go = orun method_3_code (Option.some Jvm.ClassFile.FieldType.boolean) E4 1) {n cs ss : Nat} {L : List Slot} {S : List Value} {H : AH} {q : Option ORes → Prop} {x : Int32} (hc : ¬ x = 0) (h : Rsq (go n (169, L, S, H, cs, ss)) q) : Rsq (go (n + 1) (166, L, (.int x :: S), H, cs, ss)) q := by
  subst hgo
  exact res_of s4_166 (res_f hc h)
theorem t4_169 {go : Nat → St → Option ORes} (hgo : go = orun method_3_code (Option.some Jvm.ClassFile.FieldType.boolean) E4 1) {n cs ss : Nat} {L : List Slot} {S : List Value} {H : AH} {q : Option ORes → Prop} (h : Rsq (go n (170, L, (.int 1 :: S), H, cs, ss)) q) : Rsq (go (n + 1) (169, L, S, H, cs, ss)) q := by
  subst hgo
  exact res_of s4_169 h
theorem t4_170 {go : Nat → St → Option ORes} (hgo : go = orun method_3_code (Option.some Jvm.ClassFile.FieldType.boolean) E4 1) {n cs ss : Nat} {L : List Slot} {S : List Value} {H : AH} {q : Option ORes → Prop} (h : Rsq (go n (174, L, S, H, cs, ss)) q) : Rsq (go (n + 1) (170, L, S, H, cs, ss)) q := by
  subst hgo
  exact res_of s4_170 h
theorem t4_173 {go : Nat → St → Option ORes} (hgo : go = orun method_3_code (Option.some Jvm.ClassFile.FieldType.boolean) E4 1) {n cs ss : Nat} {L : List Slot} {S : List Value} {H : AH} {q : Option ORes → Prop} (h : Rsq (go n (174, L, (.int 0 :: S), H, cs, ss)) q) : Rsq (go (n + 1) (173, L, S, H, cs, ss)) q := by
  subst hgo
  exact res_of s4_173 h
theorem t4_174 {go : Nat → St → Option ORes} (hgo : go = orun method_3_code (Option.some Jvm.ClassFile.FieldType.boolean) E4 1) {n cs ss : Nat} {L : List Slot} {S : List Value} {H : AH} {q : Option ORes → Prop} {z : Int32} (h : q (some (some (.int (z &&& 1)), H))) : Rsq (go (n + 1) (174, L, (.int z :: S), H, cs, ss)) q := by
  subst hgo
  exact res_of s4_174 h
theorem f2_in {x0 : Int32} {H : AH} : F2 [.int x0] H = orun method_4_code (Option.some Jvm.ClassFile.FieldType.boolean) E2 1 64 (0, [.val (.int x0)], [], H, 0, 0) := rfl
theorem s2_0 {n cs ss : Nat} {L : List Slot} {S : List Value} {H : AH} : orun method_4_code (Option.some Jvm.ClassFile.FieldType.boolean) E2 1 (n + 1) (0, L, S, H, cs, ss) = (gI L 0).bind fun v => orun method_4_code (Option.some Jvm.ClassFile.FieldType.boolean) E2 1 n (1, L, .int v :: S, H, cs, ss) := s_any k2_0
theorem s2_1 {n cs ss : Nat} {L : List Slot} {S : List Value} {H : AH} : orun method_4_code (Option.some Jvm.ClassFile.FieldType.boolean) E2 1 (n + 1) (1, L, S, H, cs, ss) = orun method_4_code (Option.some Jvm.ClassFile.FieldType.boolean) E2 1 n (2, L, (.int 0 :: S), H, cs, ss) := s_any k2_1
theorem s2_2 {n cs ss : Nat} {L : List Slot} {S : List Value} {H : AH} : orun method_4_code (Option.some Jvm.ClassFile.FieldType.boolean) E2 1 (n + 1) (2, L, S, H, cs, ss) = (aI (983039) S H cs ss).bind fun r => orun method_4_code (Option.some Jvm.ClassFile.FieldType.boolean) E2 1 n (4, L, r.1, r.2.1, r.2.2.1, r.2.2.2) := s_any k2_2
theorem s2_4 {n cs ss : Nat} {L : List Slot} {S : List Value} {H : AH} : orun method_4_code (Option.some Jvm.ClassFile.FieldType.boolean) E2 1 (n + 1) (4, L, S, H, cs, ss) = (aCall 3 6 0 0 0 0 F3 S H cs ss).bind fun r => orun method_4_code (Option.some Jvm.ClassFile.FieldType.boolean) E2 1 n (7, L, r.1, r.2.1, r.2.2.1, r.2.2.2) := s_any k2_4
theorem s2_7 {n cs ss : Nat} {L : List Slot} {S : List Value} {H : AH} : orun method_4_code (Option.some Jvm.ClassFile.FieldType.boolean) E2 1 (n + 1) (7, L, S, H, cs, ss) = pI S fun x r => if x = 0 then orun method_4_code (Option.some Jvm.ClassFile.FieldType.boolean) E2 1 n (21, L, r, H, cs, ss) else orun method_4_code (Option.some Jvm.ClassFile.FieldType.boolean) E2 1 n (10, L, r, H, cs, ss) := s_if (Q := fun x => x = 0) (fun _ => z_eq) k2_7 (by decide) (by decide)
theorem s2_10 {n cs ss : Nat} {L : List Slot} {S : List Value} {H : AH} : orun method_4_code (Option.some Jvm.ClassFile.FieldType.boolean) E2 1 (n + 1) (10, L, S, H, cs, ss) = (gI L 0).bind fun v => orun method_4_code (Option.some Jvm.ClassFile.FieldType.boolean) E2 1 n (11, L, .int v :: S, H, cs, ss) := s_any k2_10
theorem s2_11 {n cs ss : Nat} {L : List Slot} {S : List Value} {H : AH} : orun method_4_code (Option.some Jvm.ClassFile.FieldType.boolean) E2 1 (n + 1) (11, L, S, H, cs, ss) = (aCall 1 6 0 0 0 0 F4 S H cs ss).bind fun r => orun method_4_code (Option.some Jvm.ClassFile.FieldType.boolean) E2 1 n (14, L, r.1, r.2.1, r.2.2.1, r.2.2.2) := s_any k2_11
theorem s2_14 {n cs ss : Nat} {L : List Slot} {S : List Value} {H : AH} : orun method_4_code (Option.some Jvm.ClassFile.FieldType.boolean) E2 1 (n + 1) (14, L, S, H, cs, ss) = pI S fun x r => if x = 0 then orun method_4_code (Option.some Jvm.ClassFile.FieldType.boolean) E2 1 n (17, L, r, H, cs, ss) else orun method_4_code (Option.some Jvm.ClassFile.FieldType.boolean) E2 1 n (21, L, r, H, cs, ss) := s_ifN (Q := fun x => x = 0) (fun _ => z_ne) k2_14 (by decide) (by decide)
theorem s2_17 {n cs ss : Nat} {L : List Slot} {S : List Value} {H : AH} : orun method_4_code (Option.some Jvm.ClassFile.FieldType.boolean) E2 1 (n + 1) (17, L, S, H, cs, ss) = orun method_4_code (Option.some Jvm.ClassFile.FieldType.boolean) E2 1 n (18, L, (.int 1 :: S), H, cs, ss) := s_any k2_17
theorem s2_18 {n cs ss : Nat} {L : List Slot} {S : List Value} {H : AH} : orun method_4_code (Option.some Jvm.ClassFile.FieldType.boolean) E2 1 (n + 1) (18, L, S, H, cs, ss) = orun method_4_code (Option.some Jvm.ClassFile.FieldType.boolean) E2 1 n (22, L, S, H, cs, ss) := s_goto k2_18 (by decide) (by decide)
theorem s2_21 {n cs ss : Nat} {L : List Slot} {S : List Value} {H : AH} : orun method_4_code (Option.some Jvm.ClassFile.FieldType.boolean) E2 1 (n + 1) (21, L, S, H, cs, ss) = orun method_4_code (Option.some Jvm.ClassFile.FieldType.boolean) E2 1 n (22, L, (.int 0 :: S), H, cs, ss) := s_any k2_21
theorem s2_22 {n cs ss : Nat} {L : List Slot} {S : List Value} {H : AH} : orun method_4_code (Option.some Jvm.ClassFile.FieldType.boolean) E2 1 (n + 1) (22, L, S, H, cs, ss) = pI S fun z _ => some (some (.int (z &&& 1)), H) := s_any k2_22
theorem t2_0 {go : Nat → St → Option ORes} (hgo : go = orun method_4_code (Option.some Jvm.ClassFile.FieldType.boolean) E2 1) {n cs ss : Nat} {S : List Value} {H : AH} {q : Option ORes → Prop} {v : Int32} (h : Rsq (go n (1, [.val (.int v)], (.int v :: S), H, cs, ss)) q) : Rsq (go (n + 1) (0, [.val (.int v)], S, H, cs, ss)) q := by
  subst hgo
  exact res_of s2_0 h
theorem t2_1 {go : Nat → St → Option ORes} (hgo : go = orun method_4_code (Option.some Jvm.ClassFile.FieldType.boolean) E2 1) {n cs ss : Nat} {L : List Slot} {S : List Value} {H : AH} {q : Option ORes → Prop} (h : Rsq (go n (2, L, (.int 0 :: S), H, cs, ss)) q) : Rsq (go (n + 1) (1, L, S, H, cs, ss)) q := by
  subst hgo
  exact res_of s2_1 h
theorem t2_2 {go : Nat → St → Option ORes} (hgo : go = orun method_4_code (Option.some Jvm.ClassFile.FieldType.boolean) E2 1) {n cs ss : Nat} {L : List Slot} {S : List Value} {H : AH} {q : Option ORes → Prop} (h : Rsq (go n (4, L, (.int (983039) :: S), H, cs, ss)) q) : Rsq (go (n + 1) (2, L, S, H, cs, ss)) q := by
  subst hgo
  exact res_of s2_2 h
theorem u2_4 {go : Nat → St → Option ORes} (hgo : go = orun method_4_code (Option.some Jvm.ClassFile.FieldType.boolean) E2 1) {n cs ss : Nat} {L : List Slot} {S : List Value} {H : AH} : go (n + 1) (4, L, S, H, cs, ss) = (aCall 3 6 0 0 0 0 F3 S H cs ss).bind fun r => go n (7, L, r.1, r.2.1, r.2.2.1, r.2.2.2) := by
  subst hgo
  exact s2_4
theorem t2_7t {go : Nat → St → Option ORes} (hgo : go = orun method_4_code (Option.some Jvm.ClassFile.FieldType.boolean) E2 1) {n cs ss : Nat} {L : List Slot} {S : List Value} {H : AH} {q : Option ORes → Prop} {x : Int32} (hc : x = 0) (h : Rsq (go n (21, L, S, H, cs, ss)) q) : Rsq (go (n + 1) (7, L, (.int x :: S), H, cs, ss)) q := by
  subst hgo
  exact res_of s2_7 (res_t hc h)
theorem t2_7f {go : Nat → St → Option ORes} (hgo : go = orun method_4_code (Option.some Jvm.ClassFile.FieldType.boolean) E2 1) {n cs ss : Nat} {L : List Slot} {S : List Value} {H : AH} {q : Option ORes → Prop} {x : Int32} (hc : ¬ x = 0) (h : Rsq (go n (10, L, S, H, cs, ss)) q) : Rsq (go (n + 1) (7, L, (.int x :: S), H, cs, ss)) q := by
  subst hgo
  exact res_of s2_7 (res_f hc h)
theorem t2_10 {go : Nat → St → Option ORes} (hgo : go = orun method_4_code (Option.some Jvm.ClassFile.FieldType.boolean) E2 1) {n cs ss : Nat} {S : List Value} {H : AH} {q : Option ORes → Prop} {v : Int32} (h : Rsq (go n (11, [.val (.int v)], (.int v :: S), H, cs, ss)) q) : Rsq (go (n + 1) (10, [.val (.int v)], S, H, cs, ss)) q := by
  subst hgo
  exact res_of s2_10 h
theorem u2_11 {go : Nat → St → Option ORes} (hgo : go = orun method_4_code (Option.some Jvm.ClassFile.FieldType.boolean) E2 1) {n cs ss : Nat} {L : List Slot} {S : List Value} {H : AH} : go (n + 1) (11, L, S, H, cs, ss) = (aCall 1 6 0 0 0 0 F4 S H cs ss).bind fun r => go n (14, L, r.1, r.2.1, r.2.2.1, r.2.2.2) := by
  subst hgo
  exact s2_11
theorem t2_14t {go : Nat → St → Option ORes} (hgo : go = orun method_4_code (Option.some Jvm.ClassFile.FieldType.boolean) E2 1) {n cs ss : Nat} {L : List Slot} {S : List Value} {H : AH} {q : Option ORes → Prop} {x : Int32} (hc : x = 0) (h : Rsq (go n (17, L, S, H, cs, ss)) q) : Rsq (go (n + 1) (14, L, (.int x :: S), H, cs, ss)) q := by
  subst hgo
  exact res_of s2_14 (res_t hc h)
theorem t2_14f {go : Nat → St → Option ORes} (hgo : go = orun method_4_code (Option.some Jvm.ClassFile.FieldType.boolean) E2 1) {n cs ss : Nat} {L : List Slot} {S : List Value} {H : AH} {q : Option ORes → Prop} {x : Int32} (hc : ¬ x = 0) (h : Rsq (go n (21, L, S, H, cs, ss)) q) : Rsq (go (n + 1) (14, L, (.int x :: S), H, cs, ss)) q := by
  subst hgo
  exact res_of s2_14 (res_f hc h)
theorem t2_17 {go : Nat → St → Option ORes} (hgo : go = orun method_4_code (Option.some Jvm.ClassFile.FieldType.boolean) E2 1) {n cs ss : Nat} {L : List Slot} {S : List Value} {H : AH} {q : Option ORes → Prop} (h : Rsq (go n (18, L, (.int 1 :: S), H, cs, ss)) q) : Rsq (go (n + 1) (17, L, S, H, cs, ss)) q := by
  subst hgo
  exact res_of s2_17 h
theorem t2_18 {go : Nat → St → Option ORes} (hgo : go = orun method_4_code (Option.some Jvm.ClassFile.FieldType.boolean) E2 1) {n cs ss : Nat} {L : List Slot} {S : List Value} {H : AH} {q : Option ORes → Prop} (h : Rsq (go n (22, L, S, H, cs, ss)) q) : Rsq (go (n + 1) (18, L, S, H, cs, ss)) q := by
  subst hgo
  exact res_of s2_18 h
theorem t2_21 {go : Nat → St → Option ORes} (hgo : go = orun method_4_code (Option.some Jvm.ClassFile.FieldType.boolean) E2 1) {n cs ss : Nat} {L : List Slot} {S : List Value} {H : AH} {q : Option ORes → Prop} (h : Rsq (go n (22, L, (.int 0 :: S), H, cs, ss)) q) : Rsq (go (n + 1) (21, L, S, H, cs, ss)) q := by
  subst hgo
  exact res_of s2_21 h
theorem t2_22 {go : Nat → St → Option ORes} (hgo : go = orun method_4_code (Option.some Jvm.ClassFile.FieldType.boolean) E2 1) {n cs ss : Nat} {L : List Slot} {S : List Value} {H : AH} {q : Option ORes → Prop} {z : Int32} (h : q (some (some (.int (z &&& 1)), H))) : Rsq (go (n + 1) (22, L, (.int z :: S), H, cs, ss)) q := by
  subst hgo
  exact res_of s2_22 h
theorem f0_in {x0 : Int32} {x1 : Int32} {x2 : Int32} {x3 : Int32} {H : AH} : F0 [.int x0, .int x1, .int x2, .int x3] H = orun code ret E0 1 400 (0, [.val (.int x0), .val (.int x1), .val (.int x2), .val (.int x3), .unset, .unset, .unset, .unset], [], H, 0, 0) := rfl
theorem s0_0 {n cs ss : Nat} {L : List Slot} {S : List Value} {H : AH} : orun code ret E0 1 (n + 1) (0, L, S, H, cs, ss) = orun code ret E0 1 n (2, L, (.int 35 :: S), H, cs, ss) := s_any k0_0
theorem s0_2 {n cs ss : Nat} {L : List Slot} {S : List Value} {H : AH} : orun code ret E0 1 (n + 1) (2, L, S, H, cs, ss) = (aArr .int 16 192 S H cs ss).bind fun r => orun code ret E0 1 n (4, L, r.1, r.2.1, r.2.2.1, r.2.2.2) := s_any k0_2
theorem s0_4 {n cs ss : Nat} {L : List Slot} {S : List Value} {H : AH} : orun code ret E0 1 (n + 1) (4, L, S, H, cs, ss) = ex ret E0 1 (orun code ret E0 1 n) (.dup) 4 L S H cs ss := s_any k0_4
theorem s0_5 {n cs ss : Nat} {L : List Slot} {S : List Value} {H : AH} : orun code ret E0 1 (n + 1) (5, L, S, H, cs, ss) = orun code ret E0 1 n (6, L, (.int 0 :: S), H, cs, ss) := s_any k0_5
theorem s0_6 {n cs ss : Nat} {L : List Slot} {S : List Value} {H : AH} : orun code ret E0 1 (n + 1) (6, L, S, H, cs, ss) = orun code ret E0 1 n (7, L, (.int 0 :: S), H, cs, ss) := s_any k0_6
theorem s0_7 {n cs ss : Nat} {L : List Slot} {S : List Value} {H : AH} : orun code ret E0 1 (n + 1) (7, L, S, H, cs, ss) = ex ret E0 1 (orun code ret E0 1 n) (.iastore) 7 L S H cs ss := s_any k0_7
theorem s0_8 {n cs ss : Nat} {L : List Slot} {S : List Value} {H : AH} : orun code ret E0 1 (n + 1) (8, L, S, H, cs, ss) = ex ret E0 1 (orun code ret E0 1 n) (.dup) 8 L S H cs ss := s_any k0_8
theorem s0_9 {n cs ss : Nat} {L : List Slot} {S : List Value} {H : AH} : orun code ret E0 1 (n + 1) (9, L, S, H, cs, ss) = orun code ret E0 1 n (10, L, (.int 1 :: S), H, cs, ss) := s_any k0_9
theorem s0_10 {n cs ss : Nat} {L : List Slot} {S : List Value} {H : AH} : orun code ret E0 1 (n + 1) (10, L, S, H, cs, ss) = orun code ret E0 1 n (12, L, (.int 58 :: S), H, cs, ss) := s_any k0_10
theorem s0_12 {n cs ss : Nat} {L : List Slot} {S : List Value} {H : AH} : orun code ret E0 1 (n + 1) (12, L, S, H, cs, ss) = ex ret E0 1 (orun code ret E0 1 n) (.iastore) 12 L S H cs ss := s_any k0_12
theorem s0_13 {n cs ss : Nat} {L : List Slot} {S : List Value} {H : AH} : orun code ret E0 1 (n + 1) (13, L, S, H, cs, ss) = ex ret E0 1 (orun code ret E0 1 n) (.dup) 13 L S H cs ss := s_any k0_13
theorem s0_14 {n cs ss : Nat} {L : List Slot} {S : List Value} {H : AH} : orun code ret E0 1 (n + 1) (14, L, S, H, cs, ss) = orun code ret E0 1 n (15, L, (.int 2 :: S), H, cs, ss) := s_any k0_14
theorem s0_15 {n cs ss : Nat} {L : List Slot} {S : List Value} {H : AH} : orun code ret E0 1 (n + 1) (15, L, S, H, cs, ss) = orun code ret E0 1 n (17, L, (.int 65 :: S), H, cs, ss) := s_any k0_15
theorem s0_17 {n cs ss : Nat} {L : List Slot} {S : List Value} {H : AH} : orun code ret E0 1 (n + 1) (17, L, S, H, cs, ss) = ex ret E0 1 (orun code ret E0 1 n) (.iastore) 17 L S H cs ss := s_any k0_17
theorem s0_18 {n cs ss : Nat} {L : List Slot} {S : List Value} {H : AH} : orun code ret E0 1 (n + 1) (18, L, S, H, cs, ss) = ex ret E0 1 (orun code ret E0 1 n) (.dup) 18 L S H cs ss := s_any k0_18
theorem s0_19 {n cs ss : Nat} {L : List Slot} {S : List Value} {H : AH} : orun code ret E0 1 (n + 1) (19, L, S, H, cs, ss) = orun code ret E0 1 n (20, L, (.int 3 :: S), H, cs, ss) := s_any k0_19
theorem s0_20 {n cs ss : Nat} {L : List Slot} {S : List Value} {H : AH} : orun code ret E0 1 (n + 1) (20, L, S, H, cs, ss) = orun code ret E0 1 n (22, L, (.int 90 :: S), H, cs, ss) := s_any k0_20
theorem s0_22 {n cs ss : Nat} {L : List Slot} {S : List Value} {H : AH} : orun code ret E0 1 (n + 1) (22, L, S, H, cs, ss) = ex ret E0 1 (orun code ret E0 1 n) (.iastore) 22 L S H cs ss := s_any k0_22
theorem s0_23 {n cs ss : Nat} {L : List Slot} {S : List Value} {H : AH} : orun code ret E0 1 (n + 1) (23, L, S, H, cs, ss) = ex ret E0 1 (orun code ret E0 1 n) (.dup) 23 L S H cs ss := s_any k0_23
theorem s0_24 {n cs ss : Nat} {L : List Slot} {S : List Value} {H : AH} : orun code ret E0 1 (n + 1) (24, L, S, H, cs, ss) = orun code ret E0 1 n (25, L, (.int 4 :: S), H, cs, ss) := s_any k0_24
theorem s0_25 {n cs ss : Nat} {L : List Slot} {S : List Value} {H : AH} : orun code ret E0 1 (n + 1) (25, L, S, H, cs, ss) = orun code ret E0 1 n (27, L, (.int 95 :: S), H, cs, ss) := s_any k0_25
theorem s0_27 {n cs ss : Nat} {L : List Slot} {S : List Value} {H : AH} : orun code ret E0 1 (n + 1) (27, L, S, H, cs, ss) = ex ret E0 1 (orun code ret E0 1 n) (.iastore) 27 L S H cs ss := s_any k0_27
theorem s0_28 {n cs ss : Nat} {L : List Slot} {S : List Value} {H : AH} : orun code ret E0 1 (n + 1) (28, L, S, H, cs, ss) = ex ret E0 1 (orun code ret E0 1 n) (.dup) 28 L S H cs ss := s_any k0_28
theorem s0_29 {n cs ss : Nat} {L : List Slot} {S : List Value} {H : AH} : orun code ret E0 1 (n + 1) (29, L, S, H, cs, ss) = orun code ret E0 1 n (30, L, (.int 5 :: S), H, cs, ss) := s_any k0_29
theorem s0_30 {n cs ss : Nat} {L : List Slot} {S : List Value} {H : AH} : orun code ret E0 1 (n + 1) (30, L, S, H, cs, ss) = orun code ret E0 1 n (32, L, (.int 97 :: S), H, cs, ss) := s_any k0_30
theorem s0_32 {n cs ss : Nat} {L : List Slot} {S : List Value} {H : AH} : orun code ret E0 1 (n + 1) (32, L, S, H, cs, ss) = ex ret E0 1 (orun code ret E0 1 n) (.iastore) 32 L S H cs ss := s_any k0_32
theorem s0_33 {n cs ss : Nat} {L : List Slot} {S : List Value} {H : AH} : orun code ret E0 1 (n + 1) (33, L, S, H, cs, ss) = ex ret E0 1 (orun code ret E0 1 n) (.dup) 33 L S H cs ss := s_any k0_33
theorem s0_34 {n cs ss : Nat} {L : List Slot} {S : List Value} {H : AH} : orun code ret E0 1 (n + 1) (34, L, S, H, cs, ss) = orun code ret E0 1 n (36, L, (.int 6 :: S), H, cs, ss) := s_any k0_34
theorem s0_36 {n cs ss : Nat} {L : List Slot} {S : List Value} {H : AH} : orun code ret E0 1 (n + 1) (36, L, S, H, cs, ss) = orun code ret E0 1 n (38, L, (.int 122 :: S), H, cs, ss) := s_any k0_36
theorem s0_38 {n cs ss : Nat} {L : List Slot} {S : List Value} {H : AH} : orun code ret E0 1 (n + 1) (38, L, S, H, cs, ss) = ex ret E0 1 (orun code ret E0 1 n) (.iastore) 38 L S H cs ss := s_any k0_38
theorem s0_39 {n cs ss : Nat} {L : List Slot} {S : List Value} {H : AH} : orun code ret E0 1 (n + 1) (39, L, S, H, cs, ss) = ex ret E0 1 (orun code ret E0 1 n) (.dup) 39 L S H cs ss := s_any k0_39
theorem s0_40 {n cs ss : Nat} {L : List Slot} {S : List Value} {H : AH} : orun code ret E0 1 (n + 1) (40, L, S, H, cs, ss) = orun code ret E0 1 n (42, L, (.int 7 :: S), H, cs, ss) := s_any k0_40
theorem s0_42 {n cs ss : Nat} {L : List Slot} {S : List Value} {H : AH} : orun code ret E0 1 (n + 1) (42, L, S, H, cs, ss) = orun code ret E0 1 n (44, L, (.int 127 :: S), H, cs, ss) := s_any k0_42
theorem s0_44 {n cs ss : Nat} {L : List Slot} {S : List Value} {H : AH} : orun code ret E0 1 (n + 1) (44, L, S, H, cs, ss) = ex ret E0 1 (orun code ret E0 1 n) (.iastore) 44 L S H cs ss := s_any k0_44
theorem s0_45 {n cs ss : Nat} {L : List Slot} {S : List Value} {H : AH} : orun code ret E0 1 (n + 1) (45, L, S, H, cs, ss) = ex ret E0 1 (orun code ret E0 1 n) (.dup) 45 L S H cs ss := s_any k0_45
theorem s0_46 {n cs ss : Nat} {L : List Slot} {S : List Value} {H : AH} : orun code ret E0 1 (n + 1) (46, L, S, H, cs, ss) = orun code ret E0 1 n (48, L, (.int 8 :: S), H, cs, ss) := s_any k0_46
theorem s0_48 {n cs ss : Nat} {L : List Slot} {S : List Value} {H : AH} : orun code ret E0 1 (n + 1) (48, L, S, H, cs, ss) = orun code ret E0 1 n (51, L, (.int 128 :: S), H, cs, ss) := s_any k0_48
theorem s0_51 {n cs ss : Nat} {L : List Slot} {S : List Value} {H : AH} : orun code ret E0 1 (n + 1) (51, L, S, H, cs, ss) = ex ret E0 1 (orun code ret E0 1 n) (.iastore) 51 L S H cs ss := s_any k0_51
theorem s0_52 {n cs ss : Nat} {L : List Slot} {S : List Value} {H : AH} : orun code ret E0 1 (n + 1) (52, L, S, H, cs, ss) = ex ret E0 1 (orun code ret E0 1 n) (.dup) 52 L S H cs ss := s_any k0_52
theorem s0_53 {n cs ss : Nat} {L : List Slot} {S : List Value} {H : AH} : orun code ret E0 1 (n + 1) (53, L, S, H, cs, ss) = orun code ret E0 1 n (55, L, (.int 9 :: S), H, cs, ss) := s_any k0_53
theorem s0_55 {n cs ss : Nat} {L : List Slot} {S : List Value} {H : AH} : orun code ret E0 1 (n + 1) (55, L, S, H, cs, ss) = orun code ret E0 1 n (58, L, (.int 192 :: S), H, cs, ss) := s_any k0_55
theorem s0_58 {n cs ss : Nat} {L : List Slot} {S : List Value} {H : AH} : orun code ret E0 1 (n + 1) (58, L, S, H, cs, ss) = ex ret E0 1 (orun code ret E0 1 n) (.iastore) 58 L S H cs ss := s_any k0_58
theorem s0_59 {n cs ss : Nat} {L : List Slot} {S : List Value} {H : AH} : orun code ret E0 1 (n + 1) (59, L, S, H, cs, ss) = ex ret E0 1 (orun code ret E0 1 n) (.dup) 59 L S H cs ss := s_any k0_59
theorem s0_60 {n cs ss : Nat} {L : List Slot} {S : List Value} {H : AH} : orun code ret E0 1 (n + 1) (60, L, S, H, cs, ss) = orun code ret E0 1 n (62, L, (.int 10 :: S), H, cs, ss) := s_any k0_60
theorem s0_62 {n cs ss : Nat} {L : List Slot} {S : List Value} {H : AH} : orun code ret E0 1 (n + 1) (62, L, S, H, cs, ss) = orun code ret E0 1 n (65, L, (.int 214 :: S), H, cs, ss) := s_any k0_62
theorem s0_65 {n cs ss : Nat} {L : List Slot} {S : List Value} {H : AH} : orun code ret E0 1 (n + 1) (65, L, S, H, cs, ss) = ex ret E0 1 (orun code ret E0 1 n) (.iastore) 65 L S H cs ss := s_any k0_65
theorem s0_66 {n cs ss : Nat} {L : List Slot} {S : List Value} {H : AH} : orun code ret E0 1 (n + 1) (66, L, S, H, cs, ss) = ex ret E0 1 (orun code ret E0 1 n) (.dup) 66 L S H cs ss := s_any k0_66
theorem s0_67 {n cs ss : Nat} {L : List Slot} {S : List Value} {H : AH} : orun code ret E0 1 (n + 1) (67, L, S, H, cs, ss) = orun code ret E0 1 n (69, L, (.int 11 :: S), H, cs, ss) := s_any k0_67
theorem s0_69 {n cs ss : Nat} {L : List Slot} {S : List Value} {H : AH} : orun code ret E0 1 (n + 1) (69, L, S, H, cs, ss) = orun code ret E0 1 n (72, L, (.int 216 :: S), H, cs, ss) := s_any k0_69
theorem s0_72 {n cs ss : Nat} {L : List Slot} {S : List Value} {H : AH} : orun code ret E0 1 (n + 1) (72, L, S, H, cs, ss) = ex ret E0 1 (orun code ret E0 1 n) (.iastore) 72 L S H cs ss := s_any k0_72
theorem s0_73 {n cs ss : Nat} {L : List Slot} {S : List Value} {H : AH} : orun code ret E0 1 (n + 1) (73, L, S, H, cs, ss) = ex ret E0 1 (orun code ret E0 1 n) (.dup) 73 L S H cs ss := s_any k0_73
theorem s0_74 {n cs ss : Nat} {L : List Slot} {S : List Value} {H : AH} : orun code ret E0 1 (n + 1) (74, L, S, H, cs, ss) = orun code ret E0 1 n (76, L, (.int 12 :: S), H, cs, ss) := s_any k0_74
theorem s0_76 {n cs ss : Nat} {L : List Slot} {S : List Value} {H : AH} : orun code ret E0 1 (n + 1) (76, L, S, H, cs, ss) = orun code ret E0 1 n (79, L, (.int 246 :: S), H, cs, ss) := s_any k0_76
theorem s0_79 {n cs ss : Nat} {L : List Slot} {S : List Value} {H : AH} : orun code ret E0 1 (n + 1) (79, L, S, H, cs, ss) = ex ret E0 1 (orun code ret E0 1 n) (.iastore) 79 L S H cs ss := s_any k0_79
theorem s0_80 {n cs ss : Nat} {L : List Slot} {S : List Value} {H : AH} : orun code ret E0 1 (n + 1) (80, L, S, H, cs, ss) = ex ret E0 1 (orun code ret E0 1 n) (.dup) 80 L S H cs ss := s_any k0_80
theorem s0_81 {n cs ss : Nat} {L : List Slot} {S : List Value} {H : AH} : orun code ret E0 1 (n + 1) (81, L, S, H, cs, ss) = orun code ret E0 1 n (83, L, (.int 13 :: S), H, cs, ss) := s_any k0_81
theorem s0_83 {n cs ss : Nat} {L : List Slot} {S : List Value} {H : AH} : orun code ret E0 1 (n + 1) (83, L, S, H, cs, ss) = orun code ret E0 1 n (86, L, (.int 248 :: S), H, cs, ss) := s_any k0_83
theorem s0_86 {n cs ss : Nat} {L : List Slot} {S : List Value} {H : AH} : orun code ret E0 1 (n + 1) (86, L, S, H, cs, ss) = ex ret E0 1 (orun code ret E0 1 n) (.iastore) 86 L S H cs ss := s_any k0_86
theorem s0_87 {n cs ss : Nat} {L : List Slot} {S : List Value} {H : AH} : orun code ret E0 1 (n + 1) (87, L, S, H, cs, ss) = ex ret E0 1 (orun code ret E0 1 n) (.dup) 87 L S H cs ss := s_any k0_87
theorem s0_88 {n cs ss : Nat} {L : List Slot} {S : List Value} {H : AH} : orun code ret E0 1 (n + 1) (88, L, S, H, cs, ss) = orun code ret E0 1 n (90, L, (.int 14 :: S), H, cs, ss) := s_any k0_88
theorem s0_90 {n cs ss : Nat} {L : List Slot} {S : List Value} {H : AH} : orun code ret E0 1 (n + 1) (90, L, S, H, cs, ss) = orun code ret E0 1 n (93, L, (.int 767 :: S), H, cs, ss) := s_any k0_90
theorem s0_93 {n cs ss : Nat} {L : List Slot} {S : List Value} {H : AH} : orun code ret E0 1 (n + 1) (93, L, S, H, cs, ss) = ex ret E0 1 (orun code ret E0 1 n) (.iastore) 93 L S H cs ss := s_any k0_93
theorem s0_94 {n cs ss : Nat} {L : List Slot} {S : List Value} {H : AH} : orun code ret E0 1 (n + 1) (94, L, S, H, cs, ss) = ex ret E0 1 (orun code ret E0 1 n) (.dup) 94 L S H cs ss := s_any k0_94
theorem s0_95 {n cs ss : Nat} {L : List Slot} {S : List Value} {H : AH} : orun code ret E0 1 (n + 1) (95, L, S, H, cs, ss) = orun code ret E0 1 n (97, L, (.int 15 :: S), H, cs, ss) := s_any k0_95
theorem s0_97 {n cs ss : Nat} {L : List Slot} {S : List Value} {H : AH} : orun code ret E0 1 (n + 1) (97, L, S, H, cs, ss) = orun code ret E0 1 n (100, L, (.int 880 :: S), H, cs, ss) := s_any k0_97
theorem s0_100 {n cs ss : Nat} {L : List Slot} {S : List Value} {H : AH} : orun code ret E0 1 (n + 1) (100, L, S, H, cs, ss) = ex ret E0 1 (orun code ret E0 1 n) (.iastore) 100 L S H cs ss := s_any k0_100
theorem s0_101 {n cs ss : Nat} {L : List Slot} {S : List Value} {H : AH} : orun code ret E0 1 (n + 1) (101, L, S, H, cs, ss) = ex ret E0 1 (orun code ret E0 1 n) (.dup) 101 L S H cs ss := s_any k0_101
theorem s0_102 {n cs ss : Nat} {L : List Slot} {S : List Value} {H : AH} : orun code ret E0 1 (n + 1) (102, L, S, H, cs, ss) = orun code ret E0 1 n (104, L, (.int 16 :: S), H, cs, ss) := s_any k0_102
theorem s0_104 {n cs ss : Nat} {L : List Slot} {S : List Value} {H : AH} : orun code ret E0 1 (n + 1) (104, L, S, H, cs, ss) = orun code ret E0 1 n (107, L, (.int 893 :: S), H, cs, ss) := s_any k0_104
theorem s0_107 {n cs ss : Nat} {L : List Slot} {S : List Value} {H : AH} : orun code ret E0 1 (n + 1) (107, L, S, H, cs, ss) = ex ret E0 1 (orun code ret E0 1 n) (.iastore) 107 L S H cs ss := s_any k0_107
theorem s0_108 {n cs ss : Nat} {L : List Slot} {S : List Value} {H : AH} : orun code ret E0 1 (n + 1) (108, L, S, H, cs, ss) = ex ret E0 1 (orun code ret E0 1 n) (.dup) 108 L S H cs ss := s_any k0_108
theorem s0_109 {n cs ss : Nat} {L : List Slot} {S : List Value} {H : AH} : orun code ret E0 1 (n + 1) (109, L, S, H, cs, ss) = orun code ret E0 1 n (111, L, (.int 17 :: S), H, cs, ss) := s_any k0_109
theorem s0_111 {n cs ss : Nat} {L : List Slot} {S : List Value} {H : AH} : orun code ret E0 1 (n + 1) (111, L, S, H, cs, ss) = orun code ret E0 1 n (114, L, (.int 895 :: S), H, cs, ss) := s_any k0_111
theorem s0_114 {n cs ss : Nat} {L : List Slot} {S : List Value} {H : AH} : orun code ret E0 1 (n + 1) (114, L, S, H, cs, ss) = ex ret E0 1 (orun code ret E0 1 n) (.iastore) 114 L S H cs ss := s_any k0_114
theorem s0_115 {n cs ss : Nat} {L : List Slot} {S : List Value} {H : AH} : orun code ret E0 1 (n + 1) (115, L, S, H, cs, ss) = ex ret E0 1 (orun code ret E0 1 n) (.dup) 115 L S H cs ss := s_any k0_115
theorem s0_116 {n cs ss : Nat} {L : List Slot} {S : List Value} {H : AH} : orun code ret E0 1 (n + 1) (116, L, S, H, cs, ss) = orun code ret E0 1 n (118, L, (.int 18 :: S), H, cs, ss) := s_any k0_116
theorem s0_118 {n cs ss : Nat} {L : List Slot} {S : List Value} {H : AH} : orun code ret E0 1 (n + 1) (118, L, S, H, cs, ss) = orun code ret E0 1 n (121, L, (.int 8191 :: S), H, cs, ss) := s_any k0_118
theorem s0_121 {n cs ss : Nat} {L : List Slot} {S : List Value} {H : AH} : orun code ret E0 1 (n + 1) (121, L, S, H, cs, ss) = ex ret E0 1 (orun code ret E0 1 n) (.iastore) 121 L S H cs ss := s_any k0_121
theorem s0_122 {n cs ss : Nat} {L : List Slot} {S : List Value} {H : AH} : orun code ret E0 1 (n + 1) (122, L, S, H, cs, ss) = ex ret E0 1 (orun code ret E0 1 n) (.dup) 122 L S H cs ss := s_any k0_122
theorem s0_123 {n cs ss : Nat} {L : List Slot} {S : List Value} {H : AH} : orun code ret E0 1 (n + 1) (123, L, S, H, cs, ss) = orun code ret E0 1 n (125, L, (.int 19 :: S), H, cs, ss) := s_any k0_123
theorem s0_125 {n cs ss : Nat} {L : List Slot} {S : List Value} {H : AH} : orun code ret E0 1 (n + 1) (125, L, S, H, cs, ss) = orun code ret E0 1 n (128, L, (.int 8204 :: S), H, cs, ss) := s_any k0_125
theorem s0_128 {n cs ss : Nat} {L : List Slot} {S : List Value} {H : AH} : orun code ret E0 1 (n + 1) (128, L, S, H, cs, ss) = ex ret E0 1 (orun code ret E0 1 n) (.iastore) 128 L S H cs ss := s_any k0_128
theorem s0_129 {n cs ss : Nat} {L : List Slot} {S : List Value} {H : AH} : orun code ret E0 1 (n + 1) (129, L, S, H, cs, ss) = ex ret E0 1 (orun code ret E0 1 n) (.dup) 129 L S H cs ss := s_any k0_129
theorem s0_130 {n cs ss : Nat} {L : List Slot} {S : List Value} {H : AH} : orun code ret E0 1 (n + 1) (130, L, S, H, cs, ss) = orun code ret E0 1 n (132, L, (.int 20 :: S), H, cs, ss) := s_any k0_130
theorem s0_132 {n cs ss : Nat} {L : List Slot} {S : List Value} {H : AH} : orun code ret E0 1 (n + 1) (132, L, S, H, cs, ss) = orun code ret E0 1 n (135, L, (.int 8205 :: S), H, cs, ss) := s_any k0_132
theorem s0_135 {n cs ss : Nat} {L : List Slot} {S : List Value} {H : AH} : orun code ret E0 1 (n + 1) (135, L, S, H, cs, ss) = ex ret E0 1 (orun code ret E0 1 n) (.iastore) 135 L S H cs ss := s_any k0_135
theorem s0_136 {n cs ss : Nat} {L : List Slot} {S : List Value} {H : AH} : orun code ret E0 1 (n + 1) (136, L, S, H, cs, ss) = ex ret E0 1 (orun code ret E0 1 n) (.dup) 136 L S H cs ss := s_any k0_136
theorem s0_137 {n cs ss : Nat} {L : List Slot} {S : List Value} {H : AH} : orun code ret E0 1 (n + 1) (137, L, S, H, cs, ss) = orun code ret E0 1 n (139, L, (.int 21 :: S), H, cs, ss) := s_any k0_137
theorem s0_139 {n cs ss : Nat} {L : List Slot} {S : List Value} {H : AH} : orun code ret E0 1 (n + 1) (139, L, S, H, cs, ss) = orun code ret E0 1 n (142, L, (.int 8304 :: S), H, cs, ss) := s_any k0_139
theorem s0_142 {n cs ss : Nat} {L : List Slot} {S : List Value} {H : AH} : orun code ret E0 1 (n + 1) (142, L, S, H, cs, ss) = ex ret E0 1 (orun code ret E0 1 n) (.iastore) 142 L S H cs ss := s_any k0_142
theorem s0_143 {n cs ss : Nat} {L : List Slot} {S : List Value} {H : AH} : orun code ret E0 1 (n + 1) (143, L, S, H, cs, ss) = ex ret E0 1 (orun code ret E0 1 n) (.dup) 143 L S H cs ss := s_any k0_143
theorem s0_144 {n cs ss : Nat} {L : List Slot} {S : List Value} {H : AH} : orun code ret E0 1 (n + 1) (144, L, S, H, cs, ss) = orun code ret E0 1 n (146, L, (.int 22 :: S), H, cs, ss) := s_any k0_144
theorem s0_146 {n cs ss : Nat} {L : List Slot} {S : List Value} {H : AH} : orun code ret E0 1 (n + 1) (146, L, S, H, cs, ss) = orun code ret E0 1 n (149, L, (.int 8591 :: S), H, cs, ss) := s_any k0_146
theorem s0_149 {n cs ss : Nat} {L : List Slot} {S : List Value} {H : AH} : orun code ret E0 1 (n + 1) (149, L, S, H, cs, ss) = ex ret E0 1 (orun code ret E0 1 n) (.iastore) 149 L S H cs ss := s_any k0_149
theorem s0_150 {n cs ss : Nat} {L : List Slot} {S : List Value} {H : AH} : orun code ret E0 1 (n + 1) (150, L, S, H, cs, ss) = ex ret E0 1 (orun code ret E0 1 n) (.dup) 150 L S H cs ss := s_any k0_150
theorem s0_151 {n cs ss : Nat} {L : List Slot} {S : List Value} {H : AH} : orun code ret E0 1 (n + 1) (151, L, S, H, cs, ss) = orun code ret E0 1 n (153, L, (.int 23 :: S), H, cs, ss) := s_any k0_151
theorem s0_153 {n cs ss : Nat} {L : List Slot} {S : List Value} {H : AH} : orun code ret E0 1 (n + 1) (153, L, S, H, cs, ss) = orun code ret E0 1 n (156, L, (.int 11264 :: S), H, cs, ss) := s_any k0_153
theorem s0_156 {n cs ss : Nat} {L : List Slot} {S : List Value} {H : AH} : orun code ret E0 1 (n + 1) (156, L, S, H, cs, ss) = ex ret E0 1 (orun code ret E0 1 n) (.iastore) 156 L S H cs ss := s_any k0_156
theorem s0_157 {n cs ss : Nat} {L : List Slot} {S : List Value} {H : AH} : orun code ret E0 1 (n + 1) (157, L, S, H, cs, ss) = ex ret E0 1 (orun code ret E0 1 n) (.dup) 157 L S H cs ss := s_any k0_157
theorem s0_158 {n cs ss : Nat} {L : List Slot} {S : List Value} {H : AH} : orun code ret E0 1 (n + 1) (158, L, S, H, cs, ss) = orun code ret E0 1 n (160, L, (.int 24 :: S), H, cs, ss) := s_any k0_158
theorem s0_160 {n cs ss : Nat} {L : List Slot} {S : List Value} {H : AH} : orun code ret E0 1 (n + 1) (160, L, S, H, cs, ss) = orun code ret E0 1 n (163, L, (.int 12271 :: S), H, cs, ss) := s_any k0_160
theorem s0_163 {n cs ss : Nat} {L : List Slot} {S : List Value} {H : AH} : orun code ret E0 1 (n + 1) (163, L, S, H, cs, ss) = ex ret E0 1 (orun code ret E0 1 n) (.iastore) 163 L S H cs ss := s_any k0_163
theorem s0_164 {n cs ss : Nat} {L : List Slot} {S : List Value} {H : AH} : orun code ret E0 1 (n + 1) (164, L, S, H, cs, ss) = ex ret E0 1 (orun code ret E0 1 n) (.dup) 164 L S H cs ss := s_any k0_164
theorem s0_165 {n cs ss : Nat} {L : List Slot} {S : List Value} {H : AH} : orun code ret E0 1 (n + 1) (165, L, S, H, cs, ss) = orun code ret E0 1 n (167, L, (.int 25 :: S), H, cs, ss) := s_any k0_165
theorem s0_167 {n cs ss : Nat} {L : List Slot} {S : List Value} {H : AH} : orun code ret E0 1 (n + 1) (167, L, S, H, cs, ss) = orun code ret E0 1 n (170, L, (.int 12289 :: S), H, cs, ss) := s_any k0_167
theorem s0_170 {n cs ss : Nat} {L : List Slot} {S : List Value} {H : AH} : orun code ret E0 1 (n + 1) (170, L, S, H, cs, ss) = ex ret E0 1 (orun code ret E0 1 n) (.iastore) 170 L S H cs ss := s_any k0_170
theorem s0_171 {n cs ss : Nat} {L : List Slot} {S : List Value} {H : AH} : orun code ret E0 1 (n + 1) (171, L, S, H, cs, ss) = ex ret E0 1 (orun code ret E0 1 n) (.dup) 171 L S H cs ss := s_any k0_171
theorem s0_172 {n cs ss : Nat} {L : List Slot} {S : List Value} {H : AH} : orun code ret E0 1 (n + 1) (172, L, S, H, cs, ss) = orun code ret E0 1 n (174, L, (.int 26 :: S), H, cs, ss) := s_any k0_172
theorem s0_174 {n cs ss : Nat} {L : List Slot} {S : List Value} {H : AH} : orun code ret E0 1 (n + 1) (174, L, S, H, cs, ss) = (aI (55295) S H cs ss).bind fun r => orun code ret E0 1 n (176, L, r.1, r.2.1, r.2.2.1, r.2.2.2) := s_any k0_174
theorem s0_176 {n cs ss : Nat} {L : List Slot} {S : List Value} {H : AH} : orun code ret E0 1 (n + 1) (176, L, S, H, cs, ss) = ex ret E0 1 (orun code ret E0 1 n) (.iastore) 176 L S H cs ss := s_any k0_176
theorem s0_177 {n cs ss : Nat} {L : List Slot} {S : List Value} {H : AH} : orun code ret E0 1 (n + 1) (177, L, S, H, cs, ss) = ex ret E0 1 (orun code ret E0 1 n) (.dup) 177 L S H cs ss := s_any k0_177
theorem s0_178 {n cs ss : Nat} {L : List Slot} {S : List Value} {H : AH} : orun code ret E0 1 (n + 1) (178, L, S, H, cs, ss) = orun code ret E0 1 n (180, L, (.int 27 :: S), H, cs, ss) := s_any k0_178
theorem s0_180 {n cs ss : Nat} {L : List Slot} {S : List Value} {H : AH} : orun code ret E0 1 (n + 1) (180, L, S, H, cs, ss) = (aI (63744) S H cs ss).bind fun r => orun code ret E0 1 n (182, L, r.1, r.2.1, r.2.2.1, r.2.2.2) := s_any k0_180
theorem s0_182 {n cs ss : Nat} {L : List Slot} {S : List Value} {H : AH} : orun code ret E0 1 (n + 1) (182, L, S, H, cs, ss) = ex ret E0 1 (orun code ret E0 1 n) (.iastore) 182 L S H cs ss := s_any k0_182
theorem s0_183 {n cs ss : Nat} {L : List Slot} {S : List Value} {H : AH} : orun code ret E0 1 (n + 1) (183, L, S, H, cs, ss) = ex ret E0 1 (orun code ret E0 1 n) (.dup) 183 L S H cs ss := s_any k0_183
theorem s0_184 {n cs ss : Nat} {L : List Slot} {S : List Value} {H : AH} : orun code ret E0 1 (n + 1) (184, L, S, H, cs, ss) = orun code ret E0 1 n (186, L, (.int 28 :: S), H, cs, ss) := s_any k0_184
theorem s0_186 {n cs ss : Nat} {L : List Slot} {S : List Value} {H : AH} : orun code ret E0 1 (n + 1) (186, L, S, H, cs, ss) = (aI (64975) S H cs ss).bind fun r => orun code ret E0 1 n (188, L, r.1, r.2.1, r.2.2.1, r.2.2.2) := s_any k0_186
theorem s0_188 {n cs ss : Nat} {L : List Slot} {S : List Value} {H : AH} : orun code ret E0 1 (n + 1) (188, L, S, H, cs, ss) = ex ret E0 1 (orun code ret E0 1 n) (.iastore) 188 L S H cs ss := s_any k0_188
theorem s0_189 {n cs ss : Nat} {L : List Slot} {S : List Value} {H : AH} : orun code ret E0 1 (n + 1) (189, L, S, H, cs, ss) = ex ret E0 1 (orun code ret E0 1 n) (.dup) 189 L S H cs ss := s_any k0_189
theorem s0_190 {n cs ss : Nat} {L : List Slot} {S : List Value} {H : AH} : orun code ret E0 1 (n + 1) (190, L, S, H, cs, ss) = orun code ret E0 1 n (192, L, (.int 29 :: S), H, cs, ss) := s_any k0_190
theorem s0_192 {n cs ss : Nat} {L : List Slot} {S : List Value} {H : AH} : orun code ret E0 1 (n + 1) (192, L, S, H, cs, ss) = (aI (65008) S H cs ss).bind fun r => orun code ret E0 1 n (194, L, r.1, r.2.1, r.2.2.1, r.2.2.2) := s_any k0_192
theorem s0_194 {n cs ss : Nat} {L : List Slot} {S : List Value} {H : AH} : orun code ret E0 1 (n + 1) (194, L, S, H, cs, ss) = ex ret E0 1 (orun code ret E0 1 n) (.iastore) 194 L S H cs ss := s_any k0_194
theorem s0_195 {n cs ss : Nat} {L : List Slot} {S : List Value} {H : AH} : orun code ret E0 1 (n + 1) (195, L, S, H, cs, ss) = ex ret E0 1 (orun code ret E0 1 n) (.dup) 195 L S H cs ss := s_any k0_195
theorem s0_196 {n cs ss : Nat} {L : List Slot} {S : List Value} {H : AH} : orun code ret E0 1 (n + 1) (196, L, S, H, cs, ss) = orun code ret E0 1 n (198, L, (.int 30 :: S), H, cs, ss) := s_any k0_196
theorem s0_198 {n cs ss : Nat} {L : List Slot} {S : List Value} {H : AH} : orun code ret E0 1 (n + 1) (198, L, S, H, cs, ss) = (aI (65533) S H cs ss).bind fun r => orun code ret E0 1 n (200, L, r.1, r.2.1, r.2.2.1, r.2.2.2) := s_any k0_198
theorem s0_200 {n cs ss : Nat} {L : List Slot} {S : List Value} {H : AH} : orun code ret E0 1 (n + 1) (200, L, S, H, cs, ss) = ex ret E0 1 (orun code ret E0 1 n) (.iastore) 200 L S H cs ss := s_any k0_200
theorem s0_201 {n cs ss : Nat} {L : List Slot} {S : List Value} {H : AH} : orun code ret E0 1 (n + 1) (201, L, S, H, cs, ss) = ex ret E0 1 (orun code ret E0 1 n) (.dup) 201 L S H cs ss := s_any k0_201
theorem s0_202 {n cs ss : Nat} {L : List Slot} {S : List Value} {H : AH} : orun code ret E0 1 (n + 1) (202, L, S, H, cs, ss) = orun code ret E0 1 n (204, L, (.int 31 :: S), H, cs, ss) := s_any k0_202
theorem s0_204 {n cs ss : Nat} {L : List Slot} {S : List Value} {H : AH} : orun code ret E0 1 (n + 1) (204, L, S, H, cs, ss) = (aI (65536) S H cs ss).bind fun r => orun code ret E0 1 n (206, L, r.1, r.2.1, r.2.2.1, r.2.2.2) := s_any k0_204
theorem s0_206 {n cs ss : Nat} {L : List Slot} {S : List Value} {H : AH} : orun code ret E0 1 (n + 1) (206, L, S, H, cs, ss) = ex ret E0 1 (orun code ret E0 1 n) (.iastore) 206 L S H cs ss := s_any k0_206
theorem s0_207 {n cs ss : Nat} {L : List Slot} {S : List Value} {H : AH} : orun code ret E0 1 (n + 1) (207, L, S, H, cs, ss) = ex ret E0 1 (orun code ret E0 1 n) (.dup) 207 L S H cs ss := s_any k0_207
theorem s0_208 {n cs ss : Nat} {L : List Slot} {S : List Value} {H : AH} : orun code ret E0 1 (n + 1) (208, L, S, H, cs, ss) = orun code ret E0 1 n (210, L, (.int 32 :: S), H, cs, ss) := s_any k0_208
theorem s0_210 {n cs ss : Nat} {L : List Slot} {S : List Value} {H : AH} : orun code ret E0 1 (n + 1) (210, L, S, H, cs, ss) = (aI (983039) S H cs ss).bind fun r => orun code ret E0 1 n (212, L, r.1, r.2.1, r.2.2.1, r.2.2.2) := s_any k0_210
theorem s0_212 {n cs ss : Nat} {L : List Slot} {S : List Value} {H : AH} : orun code ret E0 1 (n + 1) (212, L, S, H, cs, ss) = ex ret E0 1 (orun code ret E0 1 n) (.iastore) 212 L S H cs ss := s_any k0_212
theorem s0_213 {n cs ss : Nat} {L : List Slot} {S : List Value} {H : AH} : orun code ret E0 1 (n + 1) (213, L, S, H, cs, ss) = ex ret E0 1 (orun code ret E0 1 n) (.dup) 213 L S H cs ss := s_any k0_213
theorem s0_214 {n cs ss : Nat} {L : List Slot} {S : List Value} {H : AH} : orun code ret E0 1 (n + 1) (214, L, S, H, cs, ss) = orun code ret E0 1 n (216, L, (.int 33 :: S), H, cs, ss) := s_any k0_214
theorem s0_216 {n cs ss : Nat} {L : List Slot} {S : List Value} {H : AH} : orun code ret E0 1 (n + 1) (216, L, S, H, cs, ss) = (aI (-2147483646) S H cs ss).bind fun r => orun code ret E0 1 n (218, L, r.1, r.2.1, r.2.2.1, r.2.2.2) := s_any k0_216
theorem s0_218 {n cs ss : Nat} {L : List Slot} {S : List Value} {H : AH} : orun code ret E0 1 (n + 1) (218, L, S, H, cs, ss) = ex ret E0 1 (orun code ret E0 1 n) (.iastore) 218 L S H cs ss := s_any k0_218
theorem s0_219 {n cs ss : Nat} {L : List Slot} {S : List Value} {H : AH} : orun code ret E0 1 (n + 1) (219, L, S, H, cs, ss) = ex ret E0 1 (orun code ret E0 1 n) (.dup) 219 L S H cs ss := s_any k0_219
theorem s0_220 {n cs ss : Nat} {L : List Slot} {S : List Value} {H : AH} : orun code ret E0 1 (n + 1) (220, L, S, H, cs, ss) = orun code ret E0 1 n (222, L, (.int 34 :: S), H, cs, ss) := s_any k0_220
theorem s0_222 {n cs ss : Nat} {L : List Slot} {S : List Value} {H : AH} : orun code ret E0 1 (n + 1) (222, L, S, H, cs, ss) = (aI (2147483645) S H cs ss).bind fun r => orun code ret E0 1 n (224, L, r.1, r.2.1, r.2.2.1, r.2.2.2) := s_any k0_222
theorem s0_224 {n cs ss : Nat} {L : List Slot} {S : List Value} {H : AH} : orun code ret E0 1 (n + 1) (224, L, S, H, cs, ss) = ex ret E0 1 (orun code ret E0 1 n) (.iastore) 224 L S H cs ss := s_any k0_224
theorem s0_225 {n cs ss : Nat} {L : List Slot} {S : List Value} {H : AH} : orun code ret E0 1 (n + 1) (225, L, S, H, cs, ss) = pA S fun x r => (st1 L 4 x).bind fun L' => orun code ret E0 1 n (227, L', r, H, cs, ss) := s_any k0_225
theorem s0_227 {n cs ss : Nat} {L : List Slot} {S : List Value} {H : AH} : orun code ret E0 1 (n + 1) (227, L, S, H, cs, ss) = (gI L 3).bind fun v => orun code ret E0 1 n (228, L, .int v :: S, H, cs, ss) := s_any k0_227
theorem s0_228 {n cs ss : Nat} {L : List Slot} {S : List Value} {H : AH} : orun code ret E0 1 (n + 1) (228, L, S, H, cs, ss) = orun code ret E0 1 n (229, L, (.int 1 :: S), H, cs, ss) := s_any k0_228
theorem s0_229 {n cs ss : Nat} {L : List Slot} {S : List Value} {H : AH} : orun code ret E0 1 (n + 1) (229, L, S, H, cs, ss) = pI S fun y S => pI S fun x r => orun code ret E0 1 n (230, L, .int (x &&& y) :: r, H, cs, ss) := s_any k0_229
theorem s0_230 {n cs ss : Nat} {L : List Slot} {S : List Value} {H : AH} : orun code ret E0 1 (n + 1) (230, L, S, H, cs, ss) = pI S fun x r => if x = 0 then orun code ret E0 1 n (239, L, r, H, cs, ss) else orun code ret E0 1 n (233, L, r, H, cs, ss) := s_if (Q := fun x => x = 0) (fun _ => z_eq) k0_230 (by decide) (by decide)
theorem s0_233 {n cs ss : Nat} {L : List Slot} {S : List Value} {H : AH} : orun code ret E0 1 (n + 1) (233, L, S, H, cs, ss) = (gI L 0).bind fun v => orun code ret E0 1 n (234, L, .int v :: S, H, cs, ss) := s_any k0_233
theorem s0_234 {n cs ss : Nat} {L : List Slot} {S : List Value} {H : AH} : orun code ret E0 1 (n + 1) (234, L, S, H, cs, ss) = pI S fun x r => (st1 L 5 (.int x)).bind fun L' => orun code ret E0 1 n (236, L', r, H, cs, ss) := s_any k0_234
theorem s0_236 {n cs ss : Nat} {L : List Slot} {S : List Value} {H : AH} : orun code ret E0 1 (n + 1) (236, L, S, H, cs, ss) = orun code ret E0 1 n (269, L, S, H, cs, ss) := s_goto k0_236 (by decide) (by decide)
theorem s0_239 {n cs ss : Nat} {L : List Slot} {S : List Value} {H : AH} : orun code ret E0 1 (n + 1) (239, L, S, H, cs, ss) = (gI L 1).bind fun v => orun code ret E0 1 n (240, L, .int v :: S, H, cs, ss) := s_any k0_239
theorem s0_240 {n cs ss : Nat} {L : List Slot} {S : List Value} {H : AH} : orun code ret E0 1 (n + 1) (240, L, S, H, cs, ss) = (aI (2147483647) S H cs ss).bind fun r => orun code ret E0 1 n (242, L, r.1, r.2.1, r.2.2.1, r.2.2.2) := s_any k0_240
theorem s0_242 {n cs ss : Nat} {L : List Slot} {S : List Value} {H : AH} : orun code ret E0 1 (n + 1) (242, L, S, H, cs, ss) = pI S fun y S => pI S fun x r => orun code ret E0 1 n (243, L, .int (x &&& y) :: r, H, cs, ss) := s_any k0_242
theorem s0_243 {n cs ss : Nat} {L : List Slot} {S : List Value} {H : AH} : orun code ret E0 1 (n + 1) (243, L, S, H, cs, ss) = (gA L 4).bind fun v => orun code ret E0 1 n (245, L, v :: S, H, cs, ss) := s_any k0_243
theorem s0_245 {n cs ss : Nat} {L : List Slot} {S : List Value} {H : AH} : orun code ret E0 1 (n + 1) (245, L, S, H, cs, ss) = pR S fun a r => (arr H a).bind fun q => orun code ret E0 1 n (246, L, .int (ln q.2) :: r, H, cs, ss) := s_any k0_245
theorem s0_246 {n cs ss : Nat} {L : List Slot} {S : List Value} {H : AH} : orun code ret E0 1 (n + 1) (246, L, S, H, cs, ss) = ex ret E0 1 (orun code ret E0 1 n) (.irem) 246 L S H cs ss := s_any k0_246
theorem s0_247 {n cs ss : Nat} {L : List Slot} {S : List Value} {H : AH} : orun code ret E0 1 (n + 1) (247, L, S, H, cs, ss) = pI S fun x r => (st1 L 6 (.int x)).bind fun L' => orun code ret E0 1 n (249, L', r, H, cs, ss) := s_any k0_247
theorem s0_249 {n cs ss : Nat} {L : List Slot} {S : List Value} {H : AH} : orun code ret E0 1 (n + 1) (249, L, S, H, cs, ss) = (gI L 2).bind fun v => orun code ret E0 1 n (250, L, .int v :: S, H, cs, ss) := s_any k0_249
theorem s0_250 {n cs ss : Nat} {L : List Slot} {S : List Value} {H : AH} : orun code ret E0 1 (n + 1) (250, L, S, H, cs, ss) = (aI (2147483647) S H cs ss).bind fun r => orun code ret E0 1 n (252, L, r.1, r.2.1, r.2.2.1, r.2.2.2) := s_any k0_250
theorem s0_252 {n cs ss : Nat} {L : List Slot} {S : List Value} {H : AH} : orun code ret E0 1 (n + 1) (252, L, S, H, cs, ss) = pI S fun y S => pI S fun x r => orun code ret E0 1 n (253, L, .int (x &&& y) :: r, H, cs, ss) := s_any k0_252
theorem s0_253 {n cs ss : Nat} {L : List Slot} {S : List Value} {H : AH} : orun code ret E0 1 (n + 1) (253, L, S, H, cs, ss) = orun code ret E0 1 n (254, L, (.int 5 :: S), H, cs, ss) := s_any k0_253
theorem s0_254 {n cs ss : Nat} {L : List Slot} {S : List Value} {H : AH} : orun code ret E0 1 (n + 1) (254, L, S, H, cs, ss) = ex ret E0 1 (orun code ret E0 1 n) (.irem) 254 L S H cs ss := s_any k0_254
theorem s0_255 {n cs ss : Nat} {L : List Slot} {S : List Value} {H : AH} : orun code ret E0 1 (n + 1) (255, L, S, H, cs, ss) = orun code ret E0 1 n (256, L, (.int 2 :: S), H, cs, ss) := s_any k0_255
theorem s0_256 {n cs ss : Nat} {L : List Slot} {S : List Value} {H : AH} : orun code ret E0 1 (n + 1) (256, L, S, H, cs, ss) = pI S fun y S => pI S fun x r => orun code ret E0 1 n (257, L, .int (x - y) :: r, H, cs, ss) := s_any k0_256
theorem s0_257 {n cs ss : Nat} {L : List Slot} {S : List Value} {H : AH} : orun code ret E0 1 (n + 1) (257, L, S, H, cs, ss) = pI S fun x r => (st1 L 7 (.int x)).bind fun L' => orun code ret E0 1 n (259, L', r, H, cs, ss) := s_any k0_257
theorem s0_259 {n cs ss : Nat} {L : List Slot} {S : List Value} {H : AH} : orun code ret E0 1 (n + 1) (259, L, S, H, cs, ss) = (gA L 4).bind fun v => orun code ret E0 1 n (261, L, v :: S, H, cs, ss) := s_any k0_259
theorem s0_261 {n cs ss : Nat} {L : List Slot} {S : List Value} {H : AH} : orun code ret E0 1 (n + 1) (261, L, S, H, cs, ss) = (gI L 6).bind fun v => orun code ret E0 1 n (263, L, .int v :: S, H, cs, ss) := s_any k0_261
theorem s0_263 {n cs ss : Nat} {L : List Slot} {S : List Value} {H : AH} : orun code ret E0 1 (n + 1) (263, L, S, H, cs, ss) = ex ret E0 1 (orun code ret E0 1 n) (.iaload) 263 L S H cs ss := s_any k0_263
theorem s0_264 {n cs ss : Nat} {L : List Slot} {S : List Value} {H : AH} : orun code ret E0 1 (n + 1) (264, L, S, H, cs, ss) = (gI L 7).bind fun v => orun code ret E0 1 n (266, L, .int v :: S, H, cs, ss) := s_any k0_264
theorem s0_266 {n cs ss : Nat} {L : List Slot} {S : List Value} {H : AH} : orun code ret E0 1 (n + 1) (266, L, S, H, cs, ss) = pI S fun y S => pI S fun x r => orun code ret E0 1 n (267, L, .int (x + y) :: r, H, cs, ss) := s_any k0_266
theorem s0_267 {n cs ss : Nat} {L : List Slot} {S : List Value} {H : AH} : orun code ret E0 1 (n + 1) (267, L, S, H, cs, ss) = pI S fun x r => (st1 L 5 (.int x)).bind fun L' => orun code ret E0 1 n (269, L', r, H, cs, ss) := s_any k0_267
theorem s0_269 {n cs ss : Nat} {L : List Slot} {S : List Value} {H : AH} : orun code ret E0 1 (n + 1) (269, L, S, H, cs, ss) = (gI L 5).bind fun v => orun code ret E0 1 n (271, L, .int v :: S, H, cs, ss) := s_any k0_269
theorem s0_271 {n cs ss : Nat} {L : List Slot} {S : List Value} {H : AH} : orun code ret E0 1 (n + 1) (271, L, S, H, cs, ss) = (aCall 1 6 16 192 0 0 F1 S H cs ss).bind fun r => orun code ret E0 1 n (274, L, r.1, r.2.1, r.2.2.1, r.2.2.2) := s_any k0_271
theorem s0_274 {n cs ss : Nat} {L : List Slot} {S : List Value} {H : AH} : orun code ret E0 1 (n + 1) (274, L, S, H, cs, ss) = (gI L 5).bind fun v => orun code ret E0 1 n (276, L, .int v :: S, H, cs, ss) := s_any k0_274
theorem s0_276 {n cs ss : Nat} {L : List Slot} {S : List Value} {H : AH} : orun code ret E0 1 (n + 1) (276, L, S, H, cs, ss) = (aCall 1 6 16 192 0 0 F2 S H cs ss).bind fun r => orun code ret E0 1 n (279, L, r.1, r.2.1, r.2.2.1, r.2.2.2) := s_any k0_276
theorem s0_279 {n cs ss : Nat} {L : List Slot} {S : List Value} {H : AH} : orun code ret E0 1 (n + 1) (279, L, S, H, cs, ss) = pI S fun y S => pI S fun x r => if x = y then orun code ret E0 1 n (282, L, r, H, cs, ss) else orun code ret E0 1 n (286, L, r, H, cs, ss) := s_icmpN (Q := fun x y => x = y) (fun _ _ => h_ne) k0_279 (by decide) (by decide)
theorem s0_282 {n cs ss : Nat} {L : List Slot} {S : List Value} {H : AH} : orun code ret E0 1 (n + 1) (282, L, S, H, cs, ss) = orun code ret E0 1 n (283, L, (.int 1 :: S), H, cs, ss) := s_any k0_282
theorem s0_283 {n cs ss : Nat} {L : List Slot} {S : List Value} {H : AH} : orun code ret E0 1 (n + 1) (283, L, S, H, cs, ss) = orun code ret E0 1 n (287, L, S, H, cs, ss) := s_goto k0_283 (by decide) (by decide)
theorem s0_286 {n cs ss : Nat} {L : List Slot} {S : List Value} {H : AH} : orun code ret E0 1 (n + 1) (286, L, S, H, cs, ss) = orun code ret E0 1 n (287, L, (.int 0 :: S), H, cs, ss) := s_any k0_286
theorem s0_287 {n cs ss : Nat} {L : List Slot} {S : List Value} {H : AH} : orun code ret E0 1 (n + 1) (287, L, S, H, cs, ss) = pI S fun z _ => some (some (.int (z &&& 1)), H) := s_any k0_287
theorem t0_0 {go : Nat → St → Option ORes} (hgo : go = orun code ret E0 1) {n cs ss : Nat} {L : List Slot} {S : List Value} {H : AH} {q : Option ORes → Prop} (h : Rsq (go n (2, L, (.int 35 :: S), H, cs, ss)) q) : Rsq (go (n + 1) (0, L, S, H, cs, ss)) q := by
  subst hgo
  exact res_of s0_0 h
theorem u0_2 {go : Nat → St → Option ORes} (hgo : go = orun code ret E0 1) {n cs ss : Nat} {L : List Slot} {S : List Value} {H : AH} : go (n + 1) (2, L, S, H, cs, ss) = (aArr .int 16 192 S H cs ss).bind fun r => go n (4, L, r.1, r.2.1, r.2.2.1, r.2.2.2) := by
  subst hgo
  exact s0_2
theorem t0_4 {go : Nat → St → Option ORes} (hgo : go = orun code ret E0 1) {n cs ss : Nat} {L : List Slot} {S : List Value} {H : AH} {q : Option ORes → Prop} {v : Value} (hv : isS v = true) (h : Rsq (go n (5, L, (v :: v :: S), H, cs, ss)) q) : Rsq (go (n + 1) (4, L, (v :: S), H, cs, ss)) q := by
  subst hgo
  refine res_of s0_4 ?_
  rw [ex_dup, p1_isS hv]
  exact h
theorem t0_5 {go : Nat → St → Option ORes} (hgo : go = orun code ret E0 1) {n cs ss : Nat} {L : List Slot} {S : List Value} {H : AH} {q : Option ORes → Prop} (h : Rsq (go n (6, L, (.int 0 :: S), H, cs, ss)) q) : Rsq (go (n + 1) (5, L, S, H, cs, ss)) q := by
  subst hgo
  exact res_of s0_5 h
theorem t0_6 {go : Nat → St → Option ORes} (hgo : go = orun code ret E0 1) {n cs ss : Nat} {L : List Slot} {S : List Value} {H : AH} {q : Option ORes → Prop} (h : Rsq (go n (7, L, (.int 0 :: S), H, cs, ss)) q) : Rsq (go (n + 1) (6, L, S, H, cs, ss)) q := by
  subst hgo
  exact res_of s0_6 h
theorem u0_7 {go : Nat → St → Option ORes} (hgo : go = orun code ret E0 1) {n cs ss : Nat} {L : List Slot} {S : List Value} {H : AH} : go (n + 1) (7, L, S, H, cs, ss) = ex ret E0 1 (go n) (.iastore) 7 L S H cs ss := by
  subst hgo
  exact s0_7
theorem t0_8 {go : Nat → St → Option ORes} (hgo : go = orun code ret E0 1) {n cs ss : Nat} {L : List Slot} {S : List Value} {H : AH} {q : Option ORes → Prop} {v : Value} (hv : isS v = true) (h : Rsq (go n (9, L, (v :: v :: S), H, cs, ss)) q) : Rsq (go (n + 1) (8, L, (v :: S), H, cs, ss)) q := by
  subst hgo
  refine res_of s0_8 ?_
  rw [ex_dup, p1_isS hv]
  exact h
theorem t0_9 {go : Nat → St → Option ORes} (hgo : go = orun code ret E0 1) {n cs ss : Nat} {L : List Slot} {S : List Value} {H : AH} {q : Option ORes → Prop} (h : Rsq (go n (10, L, (.int 1 :: S), H, cs, ss)) q) : Rsq (go (n + 1) (9, L, S, H, cs, ss)) q := by
  subst hgo
  exact res_of s0_9 h
theorem t0_10 {go : Nat → St → Option ORes} (hgo : go = orun code ret E0 1) {n cs ss : Nat} {L : List Slot} {S : List Value} {H : AH} {q : Option ORes → Prop} (h : Rsq (go n (12, L, (.int 58 :: S), H, cs, ss)) q) : Rsq (go (n + 1) (10, L, S, H, cs, ss)) q := by
  subst hgo
  exact res_of s0_10 h
theorem u0_12 {go : Nat → St → Option ORes} (hgo : go = orun code ret E0 1) {n cs ss : Nat} {L : List Slot} {S : List Value} {H : AH} : go (n + 1) (12, L, S, H, cs, ss) = ex ret E0 1 (go n) (.iastore) 12 L S H cs ss := by
  subst hgo
  exact s0_12
theorem t0_13 {go : Nat → St → Option ORes} (hgo : go = orun code ret E0 1) {n cs ss : Nat} {L : List Slot} {S : List Value} {H : AH} {q : Option ORes → Prop} {v : Value} (hv : isS v = true) (h : Rsq (go n (14, L, (v :: v :: S), H, cs, ss)) q) : Rsq (go (n + 1) (13, L, (v :: S), H, cs, ss)) q := by
  subst hgo
  refine res_of s0_13 ?_
  rw [ex_dup, p1_isS hv]
  exact h
theorem t0_14 {go : Nat → St → Option ORes} (hgo : go = orun code ret E0 1) {n cs ss : Nat} {L : List Slot} {S : List Value} {H : AH} {q : Option ORes → Prop} (h : Rsq (go n (15, L, (.int 2 :: S), H, cs, ss)) q) : Rsq (go (n + 1) (14, L, S, H, cs, ss)) q := by
  subst hgo
  exact res_of s0_14 h
theorem t0_15 {go : Nat → St → Option ORes} (hgo : go = orun code ret E0 1) {n cs ss : Nat} {L : List Slot} {S : List Value} {H : AH} {q : Option ORes → Prop} (h : Rsq (go n (17, L, (.int 65 :: S), H, cs, ss)) q) : Rsq (go (n + 1) (15, L, S, H, cs, ss)) q := by
  subst hgo
  exact res_of s0_15 h
theorem u0_17 {go : Nat → St → Option ORes} (hgo : go = orun code ret E0 1) {n cs ss : Nat} {L : List Slot} {S : List Value} {H : AH} : go (n + 1) (17, L, S, H, cs, ss) = ex ret E0 1 (go n) (.iastore) 17 L S H cs ss := by
  subst hgo
  exact s0_17
theorem t0_18 {go : Nat → St → Option ORes} (hgo : go = orun code ret E0 1) {n cs ss : Nat} {L : List Slot} {S : List Value} {H : AH} {q : Option ORes → Prop} {v : Value} (hv : isS v = true) (h : Rsq (go n (19, L, (v :: v :: S), H, cs, ss)) q) : Rsq (go (n + 1) (18, L, (v :: S), H, cs, ss)) q := by
  subst hgo
  refine res_of s0_18 ?_
  rw [ex_dup, p1_isS hv]
  exact h
theorem t0_19 {go : Nat → St → Option ORes} (hgo : go = orun code ret E0 1) {n cs ss : Nat} {L : List Slot} {S : List Value} {H : AH} {q : Option ORes → Prop} (h : Rsq (go n (20, L, (.int 3 :: S), H, cs, ss)) q) : Rsq (go (n + 1) (19, L, S, H, cs, ss)) q := by
  subst hgo
  exact res_of s0_19 h
theorem t0_20 {go : Nat → St → Option ORes} (hgo : go = orun code ret E0 1) {n cs ss : Nat} {L : List Slot} {S : List Value} {H : AH} {q : Option ORes → Prop} (h : Rsq (go n (22, L, (.int 90 :: S), H, cs, ss)) q) : Rsq (go (n + 1) (20, L, S, H, cs, ss)) q := by
  subst hgo
  exact res_of s0_20 h
theorem u0_22 {go : Nat → St → Option ORes} (hgo : go = orun code ret E0 1) {n cs ss : Nat} {L : List Slot} {S : List Value} {H : AH} : go (n + 1) (22, L, S, H, cs, ss) = ex ret E0 1 (go n) (.iastore) 22 L S H cs ss := by
  subst hgo
  exact s0_22
theorem t0_23 {go : Nat → St → Option ORes} (hgo : go = orun code ret E0 1) {n cs ss : Nat} {L : List Slot} {S : List Value} {H : AH} {q : Option ORes → Prop} {v : Value} (hv : isS v = true) (h : Rsq (go n (24, L, (v :: v :: S), H, cs, ss)) q) : Rsq (go (n + 1) (23, L, (v :: S), H, cs, ss)) q := by
  subst hgo
  refine res_of s0_23 ?_
  rw [ex_dup, p1_isS hv]
  exact h
theorem t0_24 {go : Nat → St → Option ORes} (hgo : go = orun code ret E0 1) {n cs ss : Nat} {L : List Slot} {S : List Value} {H : AH} {q : Option ORes → Prop} (h : Rsq (go n (25, L, (.int 4 :: S), H, cs, ss)) q) : Rsq (go (n + 1) (24, L, S, H, cs, ss)) q := by
  subst hgo
  exact res_of s0_24 h
theorem t0_25 {go : Nat → St → Option ORes} (hgo : go = orun code ret E0 1) {n cs ss : Nat} {L : List Slot} {S : List Value} {H : AH} {q : Option ORes → Prop} (h : Rsq (go n (27, L, (.int 95 :: S), H, cs, ss)) q) : Rsq (go (n + 1) (25, L, S, H, cs, ss)) q := by
  subst hgo
  exact res_of s0_25 h
theorem u0_27 {go : Nat → St → Option ORes} (hgo : go = orun code ret E0 1) {n cs ss : Nat} {L : List Slot} {S : List Value} {H : AH} : go (n + 1) (27, L, S, H, cs, ss) = ex ret E0 1 (go n) (.iastore) 27 L S H cs ss := by
  subst hgo
  exact s0_27
theorem t0_28 {go : Nat → St → Option ORes} (hgo : go = orun code ret E0 1) {n cs ss : Nat} {L : List Slot} {S : List Value} {H : AH} {q : Option ORes → Prop} {v : Value} (hv : isS v = true) (h : Rsq (go n (29, L, (v :: v :: S), H, cs, ss)) q) : Rsq (go (n + 1) (28, L, (v :: S), H, cs, ss)) q := by
  subst hgo
  refine res_of s0_28 ?_
  rw [ex_dup, p1_isS hv]
  exact h
theorem t0_29 {go : Nat → St → Option ORes} (hgo : go = orun code ret E0 1) {n cs ss : Nat} {L : List Slot} {S : List Value} {H : AH} {q : Option ORes → Prop} (h : Rsq (go n (30, L, (.int 5 :: S), H, cs, ss)) q) : Rsq (go (n + 1) (29, L, S, H, cs, ss)) q := by
  subst hgo
  exact res_of s0_29 h
theorem t0_30 {go : Nat → St → Option ORes} (hgo : go = orun code ret E0 1) {n cs ss : Nat} {L : List Slot} {S : List Value} {H : AH} {q : Option ORes → Prop} (h : Rsq (go n (32, L, (.int 97 :: S), H, cs, ss)) q) : Rsq (go (n + 1) (30, L, S, H, cs, ss)) q := by
  subst hgo
  exact res_of s0_30 h
theorem u0_32 {go : Nat → St → Option ORes} (hgo : go = orun code ret E0 1) {n cs ss : Nat} {L : List Slot} {S : List Value} {H : AH} : go (n + 1) (32, L, S, H, cs, ss) = ex ret E0 1 (go n) (.iastore) 32 L S H cs ss := by
  subst hgo
  exact s0_32
theorem t0_33 {go : Nat → St → Option ORes} (hgo : go = orun code ret E0 1) {n cs ss : Nat} {L : List Slot} {S : List Value} {H : AH} {q : Option ORes → Prop} {v : Value} (hv : isS v = true) (h : Rsq (go n (34, L, (v :: v :: S), H, cs, ss)) q) : Rsq (go (n + 1) (33, L, (v :: S), H, cs, ss)) q := by
  subst hgo
  refine res_of s0_33 ?_
  rw [ex_dup, p1_isS hv]
  exact h
theorem t0_34 {go : Nat → St → Option ORes} (hgo : go = orun code ret E0 1) {n cs ss : Nat} {L : List Slot} {S : List Value} {H : AH} {q : Option ORes → Prop} (h : Rsq (go n (36, L, (.int 6 :: S), H, cs, ss)) q) : Rsq (go (n + 1) (34, L, S, H, cs, ss)) q := by
  subst hgo
  exact res_of s0_34 h
theorem t0_36 {go : Nat → St → Option ORes} (hgo : go = orun code ret E0 1) {n cs ss : Nat} {L : List Slot} {S : List Value} {H : AH} {q : Option ORes → Prop} (h : Rsq (go n (38, L, (.int 122 :: S), H, cs, ss)) q) : Rsq (go (n + 1) (36, L, S, H, cs, ss)) q := by
  subst hgo
  exact res_of s0_36 h
theorem u0_38 {go : Nat → St → Option ORes} (hgo : go = orun code ret E0 1) {n cs ss : Nat} {L : List Slot} {S : List Value} {H : AH} : go (n + 1) (38, L, S, H, cs, ss) = ex ret E0 1 (go n) (.iastore) 38 L S H cs ss := by
  subst hgo
  exact s0_38
theorem t0_39 {go : Nat → St → Option ORes} (hgo : go = orun code ret E0 1) {n cs ss : Nat} {L : List Slot} {S : List Value} {H : AH} {q : Option ORes → Prop} {v : Value} (hv : isS v = true) (h : Rsq (go n (40, L, (v :: v :: S), H, cs, ss)) q) : Rsq (go (n + 1) (39, L, (v :: S), H, cs, ss)) q := by
  subst hgo
  refine res_of s0_39 ?_
  rw [ex_dup, p1_isS hv]
  exact h
theorem t0_40 {go : Nat → St → Option ORes} (hgo : go = orun code ret E0 1) {n cs ss : Nat} {L : List Slot} {S : List Value} {H : AH} {q : Option ORes → Prop} (h : Rsq (go n (42, L, (.int 7 :: S), H, cs, ss)) q) : Rsq (go (n + 1) (40, L, S, H, cs, ss)) q := by
  subst hgo
  exact res_of s0_40 h
theorem t0_42 {go : Nat → St → Option ORes} (hgo : go = orun code ret E0 1) {n cs ss : Nat} {L : List Slot} {S : List Value} {H : AH} {q : Option ORes → Prop} (h : Rsq (go n (44, L, (.int 127 :: S), H, cs, ss)) q) : Rsq (go (n + 1) (42, L, S, H, cs, ss)) q := by
  subst hgo
  exact res_of s0_42 h
theorem u0_44 {go : Nat → St → Option ORes} (hgo : go = orun code ret E0 1) {n cs ss : Nat} {L : List Slot} {S : List Value} {H : AH} : go (n + 1) (44, L, S, H, cs, ss) = ex ret E0 1 (go n) (.iastore) 44 L S H cs ss := by
  subst hgo
  exact s0_44
theorem t0_45 {go : Nat → St → Option ORes} (hgo : go = orun code ret E0 1) {n cs ss : Nat} {L : List Slot} {S : List Value} {H : AH} {q : Option ORes → Prop} {v : Value} (hv : isS v = true) (h : Rsq (go n (46, L, (v :: v :: S), H, cs, ss)) q) : Rsq (go (n + 1) (45, L, (v :: S), H, cs, ss)) q := by
  subst hgo
  refine res_of s0_45 ?_
  rw [ex_dup, p1_isS hv]
  exact h
theorem t0_46 {go : Nat → St → Option ORes} (hgo : go = orun code ret E0 1) {n cs ss : Nat} {L : List Slot} {S : List Value} {H : AH} {q : Option ORes → Prop} (h : Rsq (go n (48, L, (.int 8 :: S), H, cs, ss)) q) : Rsq (go (n + 1) (46, L, S, H, cs, ss)) q := by
  subst hgo
  exact res_of s0_46 h
theorem t0_48 {go : Nat → St → Option ORes} (hgo : go = orun code ret E0 1) {n cs ss : Nat} {L : List Slot} {S : List Value} {H : AH} {q : Option ORes → Prop} (h : Rsq (go n (51, L, (.int 128 :: S), H, cs, ss)) q) : Rsq (go (n + 1) (48, L, S, H, cs, ss)) q := by
  subst hgo
  exact res_of s0_48 h
theorem u0_51 {go : Nat → St → Option ORes} (hgo : go = orun code ret E0 1) {n cs ss : Nat} {L : List Slot} {S : List Value} {H : AH} : go (n + 1) (51, L, S, H, cs, ss) = ex ret E0 1 (go n) (.iastore) 51 L S H cs ss := by
  subst hgo
  exact s0_51
theorem t0_52 {go : Nat → St → Option ORes} (hgo : go = orun code ret E0 1) {n cs ss : Nat} {L : List Slot} {S : List Value} {H : AH} {q : Option ORes → Prop} {v : Value} (hv : isS v = true) (h : Rsq (go n (53, L, (v :: v :: S), H, cs, ss)) q) : Rsq (go (n + 1) (52, L, (v :: S), H, cs, ss)) q := by
  subst hgo
  refine res_of s0_52 ?_
  rw [ex_dup, p1_isS hv]
  exact h
theorem t0_53 {go : Nat → St → Option ORes} (hgo : go = orun code ret E0 1) {n cs ss : Nat} {L : List Slot} {S : List Value} {H : AH} {q : Option ORes → Prop} (h : Rsq (go n (55, L, (.int 9 :: S), H, cs, ss)) q) : Rsq (go (n + 1) (53, L, S, H, cs, ss)) q := by
  subst hgo
  exact res_of s0_53 h
theorem t0_55 {go : Nat → St → Option ORes} (hgo : go = orun code ret E0 1) {n cs ss : Nat} {L : List Slot} {S : List Value} {H : AH} {q : Option ORes → Prop} (h : Rsq (go n (58, L, (.int 192 :: S), H, cs, ss)) q) : Rsq (go (n + 1) (55, L, S, H, cs, ss)) q := by
  subst hgo
  exact res_of s0_55 h
theorem u0_58 {go : Nat → St → Option ORes} (hgo : go = orun code ret E0 1) {n cs ss : Nat} {L : List Slot} {S : List Value} {H : AH} : go (n + 1) (58, L, S, H, cs, ss) = ex ret E0 1 (go n) (.iastore) 58 L S H cs ss := by
  subst hgo
  exact s0_58
theorem t0_59 {go : Nat → St → Option ORes} (hgo : go = orun code ret E0 1) {n cs ss : Nat} {L : List Slot} {S : List Value} {H : AH} {q : Option ORes → Prop} {v : Value} (hv : isS v = true) (h : Rsq (go n (60, L, (v :: v :: S), H, cs, ss)) q) : Rsq (go (n + 1) (59, L, (v :: S), H, cs, ss)) q := by
  subst hgo
  refine res_of s0_59 ?_
  rw [ex_dup, p1_isS hv]
  exact h
theorem t0_60 {go : Nat → St → Option ORes} (hgo : go = orun code ret E0 1) {n cs ss : Nat} {L : List Slot} {S : List Value} {H : AH} {q : Option ORes → Prop} (h : Rsq (go n (62, L, (.int 10 :: S), H, cs, ss)) q) : Rsq (go (n + 1) (60, L, S, H, cs, ss)) q := by
  subst hgo
  exact res_of s0_60 h
theorem t0_62 {go : Nat → St → Option ORes} (hgo : go = orun code ret E0 1) {n cs ss : Nat} {L : List Slot} {S : List Value} {H : AH} {q : Option ORes → Prop} (h : Rsq (go n (65, L, (.int 214 :: S), H, cs, ss)) q) : Rsq (go (n + 1) (62, L, S, H, cs, ss)) q := by
  subst hgo
  exact res_of s0_62 h
theorem u0_65 {go : Nat → St → Option ORes} (hgo : go = orun code ret E0 1) {n cs ss : Nat} {L : List Slot} {S : List Value} {H : AH} : go (n + 1) (65, L, S, H, cs, ss) = ex ret E0 1 (go n) (.iastore) 65 L S H cs ss := by
  subst hgo
  exact s0_65
theorem t0_66 {go : Nat → St → Option ORes} (hgo : go = orun code ret E0 1) {n cs ss : Nat} {L : List Slot} {S : List Value} {H : AH} {q : Option ORes → Prop} {v : Value} (hv : isS v = true) (h : Rsq (go n (67, L, (v :: v :: S), H, cs, ss)) q) : Rsq (go (n + 1) (66, L, (v :: S), H, cs, ss)) q := by
  subst hgo
  refine res_of s0_66 ?_
  rw [ex_dup, p1_isS hv]
  exact h
theorem t0_67 {go : Nat → St → Option ORes} (hgo : go = orun code ret E0 1) {n cs ss : Nat} {L : List Slot} {S : List Value} {H : AH} {q : Option ORes → Prop} (h : Rsq (go n (69, L, (.int 11 :: S), H, cs, ss)) q) : Rsq (go (n + 1) (67, L, S, H, cs, ss)) q := by
  subst hgo
  exact res_of s0_67 h
theorem t0_69 {go : Nat → St → Option ORes} (hgo : go = orun code ret E0 1) {n cs ss : Nat} {L : List Slot} {S : List Value} {H : AH} {q : Option ORes → Prop} (h : Rsq (go n (72, L, (.int 216 :: S), H, cs, ss)) q) : Rsq (go (n + 1) (69, L, S, H, cs, ss)) q := by
  subst hgo
  exact res_of s0_69 h
theorem u0_72 {go : Nat → St → Option ORes} (hgo : go = orun code ret E0 1) {n cs ss : Nat} {L : List Slot} {S : List Value} {H : AH} : go (n + 1) (72, L, S, H, cs, ss) = ex ret E0 1 (go n) (.iastore) 72 L S H cs ss := by
  subst hgo
  exact s0_72
theorem t0_73 {go : Nat → St → Option ORes} (hgo : go = orun code ret E0 1) {n cs ss : Nat} {L : List Slot} {S : List Value} {H : AH} {q : Option ORes → Prop} {v : Value} (hv : isS v = true) (h : Rsq (go n (74, L, (v :: v :: S), H, cs, ss)) q) : Rsq (go (n + 1) (73, L, (v :: S), H, cs, ss)) q := by
  subst hgo
  refine res_of s0_73 ?_
  rw [ex_dup, p1_isS hv]
  exact h
theorem t0_74 {go : Nat → St → Option ORes} (hgo : go = orun code ret E0 1) {n cs ss : Nat} {L : List Slot} {S : List Value} {H : AH} {q : Option ORes → Prop} (h : Rsq (go n (76, L, (.int 12 :: S), H, cs, ss)) q) : Rsq (go (n + 1) (74, L, S, H, cs, ss)) q := by
  subst hgo
  exact res_of s0_74 h
theorem t0_76 {go : Nat → St → Option ORes} (hgo : go = orun code ret E0 1) {n cs ss : Nat} {L : List Slot} {S : List Value} {H : AH} {q : Option ORes → Prop} (h : Rsq (go n (79, L, (.int 246 :: S), H, cs, ss)) q) : Rsq (go (n + 1) (76, L, S, H, cs, ss)) q := by
  subst hgo
  exact res_of s0_76 h
theorem u0_79 {go : Nat → St → Option ORes} (hgo : go = orun code ret E0 1) {n cs ss : Nat} {L : List Slot} {S : List Value} {H : AH} : go (n + 1) (79, L, S, H, cs, ss) = ex ret E0 1 (go n) (.iastore) 79 L S H cs ss := by
  subst hgo
  exact s0_79
theorem t0_80 {go : Nat → St → Option ORes} (hgo : go = orun code ret E0 1) {n cs ss : Nat} {L : List Slot} {S : List Value} {H : AH} {q : Option ORes → Prop} {v : Value} (hv : isS v = true) (h : Rsq (go n (81, L, (v :: v :: S), H, cs, ss)) q) : Rsq (go (n + 1) (80, L, (v :: S), H, cs, ss)) q := by
  subst hgo
  refine res_of s0_80 ?_
  rw [ex_dup, p1_isS hv]
  exact h
theorem t0_81 {go : Nat → St → Option ORes} (hgo : go = orun code ret E0 1) {n cs ss : Nat} {L : List Slot} {S : List Value} {H : AH} {q : Option ORes → Prop} (h : Rsq (go n (83, L, (.int 13 :: S), H, cs, ss)) q) : Rsq (go (n + 1) (81, L, S, H, cs, ss)) q := by
  subst hgo
  exact res_of s0_81 h
theorem t0_83 {go : Nat → St → Option ORes} (hgo : go = orun code ret E0 1) {n cs ss : Nat} {L : List Slot} {S : List Value} {H : AH} {q : Option ORes → Prop} (h : Rsq (go n (86, L, (.int 248 :: S), H, cs, ss)) q) : Rsq (go (n + 1) (83, L, S, H, cs, ss)) q := by
  subst hgo
  exact res_of s0_83 h
theorem u0_86 {go : Nat → St → Option ORes} (hgo : go = orun code ret E0 1) {n cs ss : Nat} {L : List Slot} {S : List Value} {H : AH} : go (n + 1) (86, L, S, H, cs, ss) = ex ret E0 1 (go n) (.iastore) 86 L S H cs ss := by
  subst hgo
  exact s0_86
theorem t0_87 {go : Nat → St → Option ORes} (hgo : go = orun code ret E0 1) {n cs ss : Nat} {L : List Slot} {S : List Value} {H : AH} {q : Option ORes → Prop} {v : Value} (hv : isS v = true) (h : Rsq (go n (88, L, (v :: v :: S), H, cs, ss)) q) : Rsq (go (n + 1) (87, L, (v :: S), H, cs, ss)) q := by
  subst hgo
  refine res_of s0_87 ?_
  rw [ex_dup, p1_isS hv]
  exact h
theorem t0_88 {go : Nat → St → Option ORes} (hgo : go = orun code ret E0 1) {n cs ss : Nat} {L : List Slot} {S : List Value} {H : AH} {q : Option ORes → Prop} (h : Rsq (go n (90, L, (.int 14 :: S), H, cs, ss)) q) : Rsq (go (n + 1) (88, L, S, H, cs, ss)) q := by
  subst hgo
  exact res_of s0_88 h
theorem t0_90 {go : Nat → St → Option ORes} (hgo : go = orun code ret E0 1) {n cs ss : Nat} {L : List Slot} {S : List Value} {H : AH} {q : Option ORes → Prop} (h : Rsq (go n (93, L, (.int 767 :: S), H, cs, ss)) q) : Rsq (go (n + 1) (90, L, S, H, cs, ss)) q := by
  subst hgo
  exact res_of s0_90 h
theorem u0_93 {go : Nat → St → Option ORes} (hgo : go = orun code ret E0 1) {n cs ss : Nat} {L : List Slot} {S : List Value} {H : AH} : go (n + 1) (93, L, S, H, cs, ss) = ex ret E0 1 (go n) (.iastore) 93 L S H cs ss := by
  subst hgo
  exact s0_93
theorem t0_94 {go : Nat → St → Option ORes} (hgo : go = orun code ret E0 1) {n cs ss : Nat} {L : List Slot} {S : List Value} {H : AH} {q : Option ORes → Prop} {v : Value} (hv : isS v = true) (h : Rsq (go n (95, L, (v :: v :: S), H, cs, ss)) q) : Rsq (go (n + 1) (94, L, (v :: S), H, cs, ss)) q := by
  subst hgo
  refine res_of s0_94 ?_
  rw [ex_dup, p1_isS hv]
  exact h
theorem t0_95 {go : Nat → St → Option ORes} (hgo : go = orun code ret E0 1) {n cs ss : Nat} {L : List Slot} {S : List Value} {H : AH} {q : Option ORes → Prop} (h : Rsq (go n (97, L, (.int 15 :: S), H, cs, ss)) q) : Rsq (go (n + 1) (95, L, S, H, cs, ss)) q := by
  subst hgo
  exact res_of s0_95 h
theorem t0_97 {go : Nat → St → Option ORes} (hgo : go = orun code ret E0 1) {n cs ss : Nat} {L : List Slot} {S : List Value} {H : AH} {q : Option ORes → Prop} (h : Rsq (go n (100, L, (.int 880 :: S), H, cs, ss)) q) : Rsq (go (n + 1) (97, L, S, H, cs, ss)) q := by
  subst hgo
  exact res_of s0_97 h
theorem u0_100 {go : Nat → St → Option ORes} (hgo : go = orun code ret E0 1) {n cs ss : Nat} {L : List Slot} {S : List Value} {H : AH} : go (n + 1) (100, L, S, H, cs, ss) = ex ret E0 1 (go n) (.iastore) 100 L S H cs ss := by
  subst hgo
  exact s0_100
theorem t0_101 {go : Nat → St → Option ORes} (hgo : go = orun code ret E0 1) {n cs ss : Nat} {L : List Slot} {S : List Value} {H : AH} {q : Option ORes → Prop} {v : Value} (hv : isS v = true) (h : Rsq (go n (102, L, (v :: v :: S), H, cs, ss)) q) : Rsq (go (n + 1) (101, L, (v :: S), H, cs, ss)) q := by
  subst hgo
  refine res_of s0_101 ?_
  rw [ex_dup, p1_isS hv]
  exact h
theorem t0_102 {go : Nat → St → Option ORes} (hgo : go = orun code ret E0 1) {n cs ss : Nat} {L : List Slot} {S : List Value} {H : AH} {q : Option ORes → Prop} (h : Rsq (go n (104, L, (.int 16 :: S), H, cs, ss)) q) : Rsq (go (n + 1) (102, L, S, H, cs, ss)) q := by
  subst hgo
  exact res_of s0_102 h
theorem t0_104 {go : Nat → St → Option ORes} (hgo : go = orun code ret E0 1) {n cs ss : Nat} {L : List Slot} {S : List Value} {H : AH} {q : Option ORes → Prop} (h : Rsq (go n (107, L, (.int 893 :: S), H, cs, ss)) q) : Rsq (go (n + 1) (104, L, S, H, cs, ss)) q := by
  subst hgo
  exact res_of s0_104 h
theorem u0_107 {go : Nat → St → Option ORes} (hgo : go = orun code ret E0 1) {n cs ss : Nat} {L : List Slot} {S : List Value} {H : AH} : go (n + 1) (107, L, S, H, cs, ss) = ex ret E0 1 (go n) (.iastore) 107 L S H cs ss := by
  subst hgo
  exact s0_107
theorem t0_108 {go : Nat → St → Option ORes} (hgo : go = orun code ret E0 1) {n cs ss : Nat} {L : List Slot} {S : List Value} {H : AH} {q : Option ORes → Prop} {v : Value} (hv : isS v = true) (h : Rsq (go n (109, L, (v :: v :: S), H, cs, ss)) q) : Rsq (go (n + 1) (108, L, (v :: S), H, cs, ss)) q := by
  subst hgo
  refine res_of s0_108 ?_
  rw [ex_dup, p1_isS hv]
  exact h
theorem t0_109 {go : Nat → St → Option ORes} (hgo : go = orun code ret E0 1) {n cs ss : Nat} {L : List Slot} {S : List Value} {H : AH} {q : Option ORes → Prop} (h : Rsq (go n (111, L, (.int 17 :: S), H, cs, ss)) q) : Rsq (go (n + 1) (109, L, S, H, cs, ss)) q := by
  subst hgo
  exact res_of s0_109 h
theorem t0_111 {go : Nat → St → Option ORes} (hgo : go = orun code ret E0 1) {n cs ss : Nat} {L : List Slot} {S : List Value} {H : AH} {q : Option ORes → Prop} (h : Rsq (go n (114, L, (.int 895 :: S), H, cs, ss)) q) : Rsq (go (n + 1) (111, L, S, H, cs, ss)) q := by
  subst hgo
  exact res_of s0_111 h
theorem u0_114 {go : Nat → St → Option ORes} (hgo : go = orun code ret E0 1) {n cs ss : Nat} {L : List Slot} {S : List Value} {H : AH} : go (n + 1) (114, L, S, H, cs, ss) = ex ret E0 1 (go n) (.iastore) 114 L S H cs ss := by
  subst hgo
  exact s0_114
theorem t0_115 {go : Nat → St → Option ORes} (hgo : go = orun code ret E0 1) {n cs ss : Nat} {L : List Slot} {S : List Value} {H : AH} {q : Option ORes → Prop} {v : Value} (hv : isS v = true) (h : Rsq (go n (116, L, (v :: v :: S), H, cs, ss)) q) : Rsq (go (n + 1) (115, L, (v :: S), H, cs, ss)) q := by
  subst hgo
  refine res_of s0_115 ?_
  rw [ex_dup, p1_isS hv]
  exact h
theorem t0_116 {go : Nat → St → Option ORes} (hgo : go = orun code ret E0 1) {n cs ss : Nat} {L : List Slot} {S : List Value} {H : AH} {q : Option ORes → Prop} (h : Rsq (go n (118, L, (.int 18 :: S), H, cs, ss)) q) : Rsq (go (n + 1) (116, L, S, H, cs, ss)) q := by
  subst hgo
  exact res_of s0_116 h
theorem t0_118 {go : Nat → St → Option ORes} (hgo : go = orun code ret E0 1) {n cs ss : Nat} {L : List Slot} {S : List Value} {H : AH} {q : Option ORes → Prop} (h : Rsq (go n (121, L, (.int 8191 :: S), H, cs, ss)) q) : Rsq (go (n + 1) (118, L, S, H, cs, ss)) q := by
  subst hgo
  exact res_of s0_118 h
theorem u0_121 {go : Nat → St → Option ORes} (hgo : go = orun code ret E0 1) {n cs ss : Nat} {L : List Slot} {S : List Value} {H : AH} : go (n + 1) (121, L, S, H, cs, ss) = ex ret E0 1 (go n) (.iastore) 121 L S H cs ss := by
  subst hgo
  exact s0_121
theorem t0_122 {go : Nat → St → Option ORes} (hgo : go = orun code ret E0 1) {n cs ss : Nat} {L : List Slot} {S : List Value} {H : AH} {q : Option ORes → Prop} {v : Value} (hv : isS v = true) (h : Rsq (go n (123, L, (v :: v :: S), H, cs, ss)) q) : Rsq (go (n + 1) (122, L, (v :: S), H, cs, ss)) q := by
  subst hgo
  refine res_of s0_122 ?_
  rw [ex_dup, p1_isS hv]
  exact h
theorem t0_123 {go : Nat → St → Option ORes} (hgo : go = orun code ret E0 1) {n cs ss : Nat} {L : List Slot} {S : List Value} {H : AH} {q : Option ORes → Prop} (h : Rsq (go n (125, L, (.int 19 :: S), H, cs, ss)) q) : Rsq (go (n + 1) (123, L, S, H, cs, ss)) q := by
  subst hgo
  exact res_of s0_123 h
theorem t0_125 {go : Nat → St → Option ORes} (hgo : go = orun code ret E0 1) {n cs ss : Nat} {L : List Slot} {S : List Value} {H : AH} {q : Option ORes → Prop} (h : Rsq (go n (128, L, (.int 8204 :: S), H, cs, ss)) q) : Rsq (go (n + 1) (125, L, S, H, cs, ss)) q := by
  subst hgo
  exact res_of s0_125 h
theorem u0_128 {go : Nat → St → Option ORes} (hgo : go = orun code ret E0 1) {n cs ss : Nat} {L : List Slot} {S : List Value} {H : AH} : go (n + 1) (128, L, S, H, cs, ss) = ex ret E0 1 (go n) (.iastore) 128 L S H cs ss := by
  subst hgo
  exact s0_128
theorem t0_129 {go : Nat → St → Option ORes} (hgo : go = orun code ret E0 1) {n cs ss : Nat} {L : List Slot} {S : List Value} {H : AH} {q : Option ORes → Prop} {v : Value} (hv : isS v = true) (h : Rsq (go n (130, L, (v :: v :: S), H, cs, ss)) q) : Rsq (go (n + 1) (129, L, (v :: S), H, cs, ss)) q := by
  subst hgo
  refine res_of s0_129 ?_
  rw [ex_dup, p1_isS hv]
  exact h
theorem t0_130 {go : Nat → St → Option ORes} (hgo : go = orun code ret E0 1) {n cs ss : Nat} {L : List Slot} {S : List Value} {H : AH} {q : Option ORes → Prop} (h : Rsq (go n (132, L, (.int 20 :: S), H, cs, ss)) q) : Rsq (go (n + 1) (130, L, S, H, cs, ss)) q := by
  subst hgo
  exact res_of s0_130 h
theorem t0_132 {go : Nat → St → Option ORes} (hgo : go = orun code ret E0 1) {n cs ss : Nat} {L : List Slot} {S : List Value} {H : AH} {q : Option ORes → Prop} (h : Rsq (go n (135, L, (.int 8205 :: S), H, cs, ss)) q) : Rsq (go (n + 1) (132, L, S, H, cs, ss)) q := by
  subst hgo
  exact res_of s0_132 h
theorem u0_135 {go : Nat → St → Option ORes} (hgo : go = orun code ret E0 1) {n cs ss : Nat} {L : List Slot} {S : List Value} {H : AH} : go (n + 1) (135, L, S, H, cs, ss) = ex ret E0 1 (go n) (.iastore) 135 L S H cs ss := by
  subst hgo
  exact s0_135
theorem t0_136 {go : Nat → St → Option ORes} (hgo : go = orun code ret E0 1) {n cs ss : Nat} {L : List Slot} {S : List Value} {H : AH} {q : Option ORes → Prop} {v : Value} (hv : isS v = true) (h : Rsq (go n (137, L, (v :: v :: S), H, cs, ss)) q) : Rsq (go (n + 1) (136, L, (v :: S), H, cs, ss)) q := by
  subst hgo
  refine res_of s0_136 ?_
  rw [ex_dup, p1_isS hv]
  exact h
theorem t0_137 {go : Nat → St → Option ORes} (hgo : go = orun code ret E0 1) {n cs ss : Nat} {L : List Slot} {S : List Value} {H : AH} {q : Option ORes → Prop} (h : Rsq (go n (139, L, (.int 21 :: S), H, cs, ss)) q) : Rsq (go (n + 1) (137, L, S, H, cs, ss)) q := by
  subst hgo
  exact res_of s0_137 h
theorem t0_139 {go : Nat → St → Option ORes} (hgo : go = orun code ret E0 1) {n cs ss : Nat} {L : List Slot} {S : List Value} {H : AH} {q : Option ORes → Prop} (h : Rsq (go n (142, L, (.int 8304 :: S), H, cs, ss)) q) : Rsq (go (n + 1) (139, L, S, H, cs, ss)) q := by
  subst hgo
  exact res_of s0_139 h
theorem u0_142 {go : Nat → St → Option ORes} (hgo : go = orun code ret E0 1) {n cs ss : Nat} {L : List Slot} {S : List Value} {H : AH} : go (n + 1) (142, L, S, H, cs, ss) = ex ret E0 1 (go n) (.iastore) 142 L S H cs ss := by
  subst hgo
  exact s0_142
theorem t0_143 {go : Nat → St → Option ORes} (hgo : go = orun code ret E0 1) {n cs ss : Nat} {L : List Slot} {S : List Value} {H : AH} {q : Option ORes → Prop} {v : Value} (hv : isS v = true) (h : Rsq (go n (144, L, (v :: v :: S), H, cs, ss)) q) : Rsq (go (n + 1) (143, L, (v :: S), H, cs, ss)) q := by
  subst hgo
  refine res_of s0_143 ?_
  rw [ex_dup, p1_isS hv]
  exact h
theorem t0_144 {go : Nat → St → Option ORes} (hgo : go = orun code ret E0 1) {n cs ss : Nat} {L : List Slot} {S : List Value} {H : AH} {q : Option ORes → Prop} (h : Rsq (go n (146, L, (.int 22 :: S), H, cs, ss)) q) : Rsq (go (n + 1) (144, L, S, H, cs, ss)) q := by
  subst hgo
  exact res_of s0_144 h
theorem t0_146 {go : Nat → St → Option ORes} (hgo : go = orun code ret E0 1) {n cs ss : Nat} {L : List Slot} {S : List Value} {H : AH} {q : Option ORes → Prop} (h : Rsq (go n (149, L, (.int 8591 :: S), H, cs, ss)) q) : Rsq (go (n + 1) (146, L, S, H, cs, ss)) q := by
  subst hgo
  exact res_of s0_146 h
theorem u0_149 {go : Nat → St → Option ORes} (hgo : go = orun code ret E0 1) {n cs ss : Nat} {L : List Slot} {S : List Value} {H : AH} : go (n + 1) (149, L, S, H, cs, ss) = ex ret E0 1 (go n) (.iastore) 149 L S H cs ss := by
  subst hgo
  exact s0_149
theorem t0_150 {go : Nat → St → Option ORes} (hgo : go = orun code ret E0 1) {n cs ss : Nat} {L : List Slot} {S : List Value} {H : AH} {q : Option ORes → Prop} {v : Value} (hv : isS v = true) (h : Rsq (go n (151, L, (v :: v :: S), H, cs, ss)) q) : Rsq (go (n + 1) (150, L, (v :: S), H, cs, ss)) q := by
  subst hgo
  refine res_of s0_150 ?_
  rw [ex_dup, p1_isS hv]
  exact h
theorem t0_151 {go : Nat → St → Option ORes} (hgo : go = orun code ret E0 1) {n cs ss : Nat} {L : List Slot} {S : List Value} {H : AH} {q : Option ORes → Prop} (h : Rsq (go n (153, L, (.int 23 :: S), H, cs, ss)) q) : Rsq (go (n + 1) (151, L, S, H, cs, ss)) q := by
  subst hgo
  exact res_of s0_151 h
theorem t0_153 {go : Nat → St → Option ORes} (hgo : go = orun code ret E0 1) {n cs ss : Nat} {L : List Slot} {S : List Value} {H : AH} {q : Option ORes → Prop} (h : Rsq (go n (156, L, (.int 11264 :: S), H, cs, ss)) q) : Rsq (go (n + 1) (153, L, S, H, cs, ss)) q := by
  subst hgo
  exact res_of s0_153 h
theorem u0_156 {go : Nat → St → Option ORes} (hgo : go = orun code ret E0 1) {n cs ss : Nat} {L : List Slot} {S : List Value} {H : AH} : go (n + 1) (156, L, S, H, cs, ss) = ex ret E0 1 (go n) (.iastore) 156 L S H cs ss := by
  subst hgo
  exact s0_156
theorem t0_157 {go : Nat → St → Option ORes} (hgo : go = orun code ret E0 1) {n cs ss : Nat} {L : List Slot} {S : List Value} {H : AH} {q : Option ORes → Prop} {v : Value} (hv : isS v = true) (h : Rsq (go n (158, L, (v :: v :: S), H, cs, ss)) q) : Rsq (go (n + 1) (157, L, (v :: S), H, cs, ss)) q := by
  subst hgo
  refine res_of s0_157 ?_
  rw [ex_dup, p1_isS hv]
  exact h
theorem t0_158 {go : Nat → St → Option ORes} (hgo : go = orun code ret E0 1) {n cs ss : Nat} {L : List Slot} {S : List Value} {H : AH} {q : Option ORes → Prop} (h : Rsq (go n (160, L, (.int 24 :: S), H, cs, ss)) q) : Rsq (go (n + 1) (158, L, S, H, cs, ss)) q := by
  subst hgo
  exact res_of s0_158 h
theorem t0_160 {go : Nat → St → Option ORes} (hgo : go = orun code ret E0 1) {n cs ss : Nat} {L : List Slot} {S : List Value} {H : AH} {q : Option ORes → Prop} (h : Rsq (go n (163, L, (.int 12271 :: S), H, cs, ss)) q) : Rsq (go (n + 1) (160, L, S, H, cs, ss)) q := by
  subst hgo
  exact res_of s0_160 h
theorem u0_163 {go : Nat → St → Option ORes} (hgo : go = orun code ret E0 1) {n cs ss : Nat} {L : List Slot} {S : List Value} {H : AH} : go (n + 1) (163, L, S, H, cs, ss) = ex ret E0 1 (go n) (.iastore) 163 L S H cs ss := by
  subst hgo
  exact s0_163
theorem t0_164 {go : Nat → St → Option ORes} (hgo : go = orun code ret E0 1) {n cs ss : Nat} {L : List Slot} {S : List Value} {H : AH} {q : Option ORes → Prop} {v : Value} (hv : isS v = true) (h : Rsq (go n (165, L, (v :: v :: S), H, cs, ss)) q) : Rsq (go (n + 1) (164, L, (v :: S), H, cs, ss)) q := by
  subst hgo
  refine res_of s0_164 ?_
  rw [ex_dup, p1_isS hv]
  exact h
theorem t0_165 {go : Nat → St → Option ORes} (hgo : go = orun code ret E0 1) {n cs ss : Nat} {L : List Slot} {S : List Value} {H : AH} {q : Option ORes → Prop} (h : Rsq (go n (167, L, (.int 25 :: S), H, cs, ss)) q) : Rsq (go (n + 1) (165, L, S, H, cs, ss)) q := by
  subst hgo
  exact res_of s0_165 h
theorem t0_167 {go : Nat → St → Option ORes} (hgo : go = orun code ret E0 1) {n cs ss : Nat} {L : List Slot} {S : List Value} {H : AH} {q : Option ORes → Prop} (h : Rsq (go n (170, L, (.int 12289 :: S), H, cs, ss)) q) : Rsq (go (n + 1) (167, L, S, H, cs, ss)) q := by
  subst hgo
  exact res_of s0_167 h
theorem u0_170 {go : Nat → St → Option ORes} (hgo : go = orun code ret E0 1) {n cs ss : Nat} {L : List Slot} {S : List Value} {H : AH} : go (n + 1) (170, L, S, H, cs, ss) = ex ret E0 1 (go n) (.iastore) 170 L S H cs ss := by
  subst hgo
  exact s0_170
theorem t0_171 {go : Nat → St → Option ORes} (hgo : go = orun code ret E0 1) {n cs ss : Nat} {L : List Slot} {S : List Value} {H : AH} {q : Option ORes → Prop} {v : Value} (hv : isS v = true) (h : Rsq (go n (172, L, (v :: v :: S), H, cs, ss)) q) : Rsq (go (n + 1) (171, L, (v :: S), H, cs, ss)) q := by
  subst hgo
  refine res_of s0_171 ?_
  rw [ex_dup, p1_isS hv]
  exact h
theorem t0_172 {go : Nat → St → Option ORes} (hgo : go = orun code ret E0 1) {n cs ss : Nat} {L : List Slot} {S : List Value} {H : AH} {q : Option ORes → Prop} (h : Rsq (go n (174, L, (.int 26 :: S), H, cs, ss)) q) : Rsq (go (n + 1) (172, L, S, H, cs, ss)) q := by
  subst hgo
  exact res_of s0_172 h
theorem t0_174 {go : Nat → St → Option ORes} (hgo : go = orun code ret E0 1) {n cs ss : Nat} {L : List Slot} {S : List Value} {H : AH} {q : Option ORes → Prop} (h : Rsq (go n (176, L, (.int (55295) :: S), H, cs, ss)) q) : Rsq (go (n + 1) (174, L, S, H, cs, ss)) q := by
  subst hgo
  exact res_of s0_174 h
theorem u0_176 {go : Nat → St → Option ORes} (hgo : go = orun code ret E0 1) {n cs ss : Nat} {L : List Slot} {S : List Value} {H : AH} : go (n + 1) (176, L, S, H, cs, ss) = ex ret E0 1 (go n) (.iastore) 176 L S H cs ss := by
  subst hgo
  exact s0_176
theorem t0_177 {go : Nat → St → Option ORes} (hgo : go = orun code ret E0 1) {n cs ss : Nat} {L : List Slot} {S : List Value} {H : AH} {q : Option ORes → Prop} {v : Value} (hv : isS v = true) (h : Rsq (go n (178, L, (v :: v :: S), H, cs, ss)) q) : Rsq (go (n + 1) (177, L, (v :: S), H, cs, ss)) q := by
  subst hgo
  refine res_of s0_177 ?_
  rw [ex_dup, p1_isS hv]
  exact h
theorem t0_178 {go : Nat → St → Option ORes} (hgo : go = orun code ret E0 1) {n cs ss : Nat} {L : List Slot} {S : List Value} {H : AH} {q : Option ORes → Prop} (h : Rsq (go n (180, L, (.int 27 :: S), H, cs, ss)) q) : Rsq (go (n + 1) (178, L, S, H, cs, ss)) q := by
  subst hgo
  exact res_of s0_178 h
theorem t0_180 {go : Nat → St → Option ORes} (hgo : go = orun code ret E0 1) {n cs ss : Nat} {L : List Slot} {S : List Value} {H : AH} {q : Option ORes → Prop} (h : Rsq (go n (182, L, (.int (63744) :: S), H, cs, ss)) q) : Rsq (go (n + 1) (180, L, S, H, cs, ss)) q := by
  subst hgo
  exact res_of s0_180 h
theorem u0_182 {go : Nat → St → Option ORes} (hgo : go = orun code ret E0 1) {n cs ss : Nat} {L : List Slot} {S : List Value} {H : AH} : go (n + 1) (182, L, S, H, cs, ss) = ex ret E0 1 (go n) (.iastore) 182 L S H cs ss := by
  subst hgo
  exact s0_182
theorem t0_183 {go : Nat → St → Option ORes} (hgo : go = orun code ret E0 1) {n cs ss : Nat} {L : List Slot} {S : List Value} {H : AH} {q : Option ORes → Prop} {v : Value} (hv : isS v = true) (h : Rsq (go n (184, L, (v :: v :: S), H, cs, ss)) q) : Rsq (go (n + 1) (183, L, (v :: S), H, cs, ss)) q := by
  subst hgo
  refine res_of s0_183 ?_
  rw [ex_dup, p1_isS hv]
  exact h
theorem t0_184 {go : Nat → St → Option ORes} (hgo : go = orun code ret E0 1) {n cs ss : Nat} {L : List Slot} {S : List Value} {H : AH} {q : Option ORes → Prop} (h : Rsq (go n (186, L, (.int 28 :: S), H, cs, ss)) q) : Rsq (go (n + 1) (184, L, S, H, cs, ss)) q := by
  subst hgo
  exact res_of s0_184 h
theorem t0_186 {go : Nat → St → Option ORes} (hgo : go = orun code ret E0 1) {n cs ss : Nat} {L : List Slot} {S : List Value} {H : AH} {q : Option ORes → Prop} (h : Rsq (go n (188, L, (.int (64975) :: S), H, cs, ss)) q) : Rsq (go (n + 1) (186, L, S, H, cs, ss)) q := by
  subst hgo
  exact res_of s0_186 h
theorem u0_188 {go : Nat → St → Option ORes} (hgo : go = orun code ret E0 1) {n cs ss : Nat} {L : List Slot} {S : List Value} {H : AH} : go (n + 1) (188, L, S, H, cs, ss) = ex ret E0 1 (go n) (.iastore) 188 L S H cs ss := by
  subst hgo
  exact s0_188
theorem t0_189 {go : Nat → St → Option ORes} (hgo : go = orun code ret E0 1) {n cs ss : Nat} {L : List Slot} {S : List Value} {H : AH} {q : Option ORes → Prop} {v : Value} (hv : isS v = true) (h : Rsq (go n (190, L, (v :: v :: S), H, cs, ss)) q) : Rsq (go (n + 1) (189, L, (v :: S), H, cs, ss)) q := by
  subst hgo
  refine res_of s0_189 ?_
  rw [ex_dup, p1_isS hv]
  exact h
theorem t0_190 {go : Nat → St → Option ORes} (hgo : go = orun code ret E0 1) {n cs ss : Nat} {L : List Slot} {S : List Value} {H : AH} {q : Option ORes → Prop} (h : Rsq (go n (192, L, (.int 29 :: S), H, cs, ss)) q) : Rsq (go (n + 1) (190, L, S, H, cs, ss)) q := by
  subst hgo
  exact res_of s0_190 h
theorem t0_192 {go : Nat → St → Option ORes} (hgo : go = orun code ret E0 1) {n cs ss : Nat} {L : List Slot} {S : List Value} {H : AH} {q : Option ORes → Prop} (h : Rsq (go n (194, L, (.int (65008) :: S), H, cs, ss)) q) : Rsq (go (n + 1) (192, L, S, H, cs, ss)) q := by
  subst hgo
  exact res_of s0_192 h
theorem u0_194 {go : Nat → St → Option ORes} (hgo : go = orun code ret E0 1) {n cs ss : Nat} {L : List Slot} {S : List Value} {H : AH} : go (n + 1) (194, L, S, H, cs, ss) = ex ret E0 1 (go n) (.iastore) 194 L S H cs ss := by
  subst hgo
  exact s0_194
theorem t0_195 {go : Nat → St → Option ORes} (hgo : go = orun code ret E0 1) {n cs ss : Nat} {L : List Slot} {S : List Value} {H : AH} {q : Option ORes → Prop} {v : Value} (hv : isS v = true) (h : Rsq (go n (196, L, (v :: v :: S), H, cs, ss)) q) : Rsq (go (n + 1) (195, L, (v :: S), H, cs, ss)) q := by
  subst hgo
  refine res_of s0_195 ?_
  rw [ex_dup, p1_isS hv]
  exact h
theorem t0_196 {go : Nat → St → Option ORes} (hgo : go = orun code ret E0 1) {n cs ss : Nat} {L : List Slot} {S : List Value} {H : AH} {q : Option ORes → Prop} (h : Rsq (go n (198, L, (.int 30 :: S), H, cs, ss)) q) : Rsq (go (n + 1) (196, L, S, H, cs, ss)) q := by
  subst hgo
  exact res_of s0_196 h
theorem t0_198 {go : Nat → St → Option ORes} (hgo : go = orun code ret E0 1) {n cs ss : Nat} {L : List Slot} {S : List Value} {H : AH} {q : Option ORes → Prop} (h : Rsq (go n (200, L, (.int (65533) :: S), H, cs, ss)) q) : Rsq (go (n + 1) (198, L, S, H, cs, ss)) q := by
  subst hgo
  exact res_of s0_198 h
theorem u0_200 {go : Nat → St → Option ORes} (hgo : go = orun code ret E0 1) {n cs ss : Nat} {L : List Slot} {S : List Value} {H : AH} : go (n + 1) (200, L, S, H, cs, ss) = ex ret E0 1 (go n) (.iastore) 200 L S H cs ss := by
  subst hgo
  exact s0_200
theorem t0_201 {go : Nat → St → Option ORes} (hgo : go = orun code ret E0 1) {n cs ss : Nat} {L : List Slot} {S : List Value} {H : AH} {q : Option ORes → Prop} {v : Value} (hv : isS v = true) (h : Rsq (go n (202, L, (v :: v :: S), H, cs, ss)) q) : Rsq (go (n + 1) (201, L, (v :: S), H, cs, ss)) q := by
  subst hgo
  refine res_of s0_201 ?_
  rw [ex_dup, p1_isS hv]
  exact h
theorem t0_202 {go : Nat → St → Option ORes} (hgo : go = orun code ret E0 1) {n cs ss : Nat} {L : List Slot} {S : List Value} {H : AH} {q : Option ORes → Prop} (h : Rsq (go n (204, L, (.int 31 :: S), H, cs, ss)) q) : Rsq (go (n + 1) (202, L, S, H, cs, ss)) q := by
  subst hgo
  exact res_of s0_202 h
theorem t0_204 {go : Nat → St → Option ORes} (hgo : go = orun code ret E0 1) {n cs ss : Nat} {L : List Slot} {S : List Value} {H : AH} {q : Option ORes → Prop} (h : Rsq (go n (206, L, (.int (65536) :: S), H, cs, ss)) q) : Rsq (go (n + 1) (204, L, S, H, cs, ss)) q := by
  subst hgo
  exact res_of s0_204 h
theorem u0_206 {go : Nat → St → Option ORes} (hgo : go = orun code ret E0 1) {n cs ss : Nat} {L : List Slot} {S : List Value} {H : AH} : go (n + 1) (206, L, S, H, cs, ss) = ex ret E0 1 (go n) (.iastore) 206 L S H cs ss := by
  subst hgo
  exact s0_206
theorem t0_207 {go : Nat → St → Option ORes} (hgo : go = orun code ret E0 1) {n cs ss : Nat} {L : List Slot} {S : List Value} {H : AH} {q : Option ORes → Prop} {v : Value} (hv : isS v = true) (h : Rsq (go n (208, L, (v :: v :: S), H, cs, ss)) q) : Rsq (go (n + 1) (207, L, (v :: S), H, cs, ss)) q := by
  subst hgo
  refine res_of s0_207 ?_
  rw [ex_dup, p1_isS hv]
  exact h
theorem t0_208 {go : Nat → St → Option ORes} (hgo : go = orun code ret E0 1) {n cs ss : Nat} {L : List Slot} {S : List Value} {H : AH} {q : Option ORes → Prop} (h : Rsq (go n (210, L, (.int 32 :: S), H, cs, ss)) q) : Rsq (go (n + 1) (208, L, S, H, cs, ss)) q := by
  subst hgo
  exact res_of s0_208 h
theorem t0_210 {go : Nat → St → Option ORes} (hgo : go = orun code ret E0 1) {n cs ss : Nat} {L : List Slot} {S : List Value} {H : AH} {q : Option ORes → Prop} (h : Rsq (go n (212, L, (.int (983039) :: S), H, cs, ss)) q) : Rsq (go (n + 1) (210, L, S, H, cs, ss)) q := by
  subst hgo
  exact res_of s0_210 h
theorem u0_212 {go : Nat → St → Option ORes} (hgo : go = orun code ret E0 1) {n cs ss : Nat} {L : List Slot} {S : List Value} {H : AH} : go (n + 1) (212, L, S, H, cs, ss) = ex ret E0 1 (go n) (.iastore) 212 L S H cs ss := by
  subst hgo
  exact s0_212
theorem t0_213 {go : Nat → St → Option ORes} (hgo : go = orun code ret E0 1) {n cs ss : Nat} {L : List Slot} {S : List Value} {H : AH} {q : Option ORes → Prop} {v : Value} (hv : isS v = true) (h : Rsq (go n (214, L, (v :: v :: S), H, cs, ss)) q) : Rsq (go (n + 1) (213, L, (v :: S), H, cs, ss)) q := by
  subst hgo
  refine res_of s0_213 ?_
  rw [ex_dup, p1_isS hv]
  exact h
theorem t0_214 {go : Nat → St → Option ORes} (hgo : go = orun code ret E0 1) {n cs ss : Nat} {L : List Slot} {S : List Value} {H : AH} {q : Option ORes → Prop} (h : Rsq (go n (216, L, (.int 33 :: S), H, cs, ss)) q) : Rsq (go (n + 1) (214, L, S, H, cs, ss)) q := by
  subst hgo
  exact res_of s0_214 h
theorem t0_216 {go : Nat → St → Option ORes} (hgo : go = orun code ret E0 1) {n cs ss : Nat} {L : List Slot} {S : List Value} {H : AH} {q : Option ORes → Prop} (h : Rsq (go n (218, L, (.int (-2147483646) :: S), H, cs, ss)) q) : Rsq (go (n + 1) (216, L, S, H, cs, ss)) q := by
  subst hgo
  exact res_of s0_216 h
theorem u0_218 {go : Nat → St → Option ORes} (hgo : go = orun code ret E0 1) {n cs ss : Nat} {L : List Slot} {S : List Value} {H : AH} : go (n + 1) (218, L, S, H, cs, ss) = ex ret E0 1 (go n) (.iastore) 218 L S H cs ss := by
  subst hgo
  exact s0_218
theorem t0_219 {go : Nat → St → Option ORes} (hgo : go = orun code ret E0 1) {n cs ss : Nat} {L : List Slot} {S : List Value} {H : AH} {q : Option ORes → Prop} {v : Value} (hv : isS v = true) (h : Rsq (go n (220, L, (v :: v :: S), H, cs, ss)) q) : Rsq (go (n + 1) (219, L, (v :: S), H, cs, ss)) q := by
  subst hgo
  refine res_of s0_219 ?_
  rw [ex_dup, p1_isS hv]
  exact h
theorem t0_220 {go : Nat → St → Option ORes} (hgo : go = orun code ret E0 1) {n cs ss : Nat} {L : List Slot} {S : List Value} {H : AH} {q : Option ORes → Prop} (h : Rsq (go n (222, L, (.int 34 :: S), H, cs, ss)) q) : Rsq (go (n + 1) (220, L, S, H, cs, ss)) q := by
  subst hgo
  exact res_of s0_220 h
theorem t0_222 {go : Nat → St → Option ORes} (hgo : go = orun code ret E0 1) {n cs ss : Nat} {L : List Slot} {S : List Value} {H : AH} {q : Option ORes → Prop} (h : Rsq (go n (224, L, (.int (2147483645) :: S), H, cs, ss)) q) : Rsq (go (n + 1) (222, L, S, H, cs, ss)) q := by
  subst hgo
  exact res_of s0_222 h
theorem u0_224 {go : Nat → St → Option ORes} (hgo : go = orun code ret E0 1) {n cs ss : Nat} {L : List Slot} {S : List Value} {H : AH} : go (n + 1) (224, L, S, H, cs, ss) = ex ret E0 1 (go n) (.iastore) 224 L S H cs ss := by
  subst hgo
  exact s0_224
theorem t0_225 {go : Nat → St → Option ORes} (hgo : go = orun code ret E0 1) {n cs ss : Nat} {l0 l1 l2 l3 l4 l5 l6 l7 : Slot} {S : List Value} {H : AH} {q : Option ORes → Prop} {v : Value} (hv : isA v = true) (hk : so l4 = true) (h : Rsq (go n (227, [l0, l1, l2, l3, .val v, l5, l6, l7], S, H, cs, ss)) q) : Rsq (go (n + 1) (225, [l0, l1, l2, l3, l4, l5, l6, l7], (v :: S), H, cs, ss)) q := by
  subst hgo
  refine res_of s0_225 ?_
  rw [pA_isA hv, st1_so (L := [l0, l1, l2, l3, l4, l5, l6, l7]) (k := 4) (l := l4) rfl hk]
  exact h
theorem t0_227 {go : Nat → St → Option ORes} (hgo : go = orun code ret E0 1) {n cs ss : Nat} {l0 l1 l2 l4 l5 l6 l7 : Slot} {S : List Value} {H : AH} {q : Option ORes → Prop} {v : Int32} (h : Rsq (go n (228, [l0, l1, l2, .val (.int v), l4, l5, l6, l7], (.int v :: S), H, cs, ss)) q) : Rsq (go (n + 1) (227, [l0, l1, l2, .val (.int v), l4, l5, l6, l7], S, H, cs, ss)) q := by
  subst hgo
  exact res_of s0_227 h
theorem t0_228 {go : Nat → St → Option ORes} (hgo : go = orun code ret E0 1) {n cs ss : Nat} {L : List Slot} {S : List Value} {H : AH} {q : Option ORes → Prop} (h : Rsq (go n (229, L, (.int 1 :: S), H, cs, ss)) q) : Rsq (go (n + 1) (228, L, S, H, cs, ss)) q := by
  subst hgo
  exact res_of s0_228 h
theorem t0_229 {go : Nat → St → Option ORes} (hgo : go = orun code ret E0 1) {n cs ss : Nat} {L : List Slot} {S : List Value} {H : AH} {q : Option ORes → Prop} {x y : Int32} (h : Rsq (go n (230, L, (.int (x &&& y) :: S), H, cs, ss)) q) : Rsq (go (n + 1) (229, L, (.int y :: .int x :: S), H, cs, ss)) q := by
  subst hgo
  exact res_of s0_229 h
theorem t0_230t {go : Nat → St → Option ORes} (hgo : go = orun code ret E0 1) {n cs ss : Nat} {L : List Slot} {S : List Value} {H : AH} {q : Option ORes → Prop} {x : Int32} (hc : x = 0) (h : Rsq (go n (239, L, S, H, cs, ss)) q) : Rsq (go (n + 1) (230, L, (.int x :: S), H, cs, ss)) q := by
  subst hgo
  exact res_of s0_230 (res_t hc h)
theorem t0_230f {go : Nat → St → Option ORes} (hgo : go = orun code ret E0 1) {n cs ss : Nat} {L : List Slot} {S : List Value} {H : AH} {q : Option ORes → Prop} {x : Int32} (hc : ¬ x = 0) (h : Rsq (go n (233, L, S, H, cs, ss)) q) : Rsq (go (n + 1) (230, L, (.int x :: S), H, cs, ss)) q := by
  subst hgo
  exact res_of s0_230 (res_f hc h)
theorem t0_233 {go : Nat → St → Option ORes} (hgo : go = orun code ret E0 1) {n cs ss : Nat} {l1 l2 l3 l4 l5 l6 l7 : Slot} {S : List Value} {H : AH} {q : Option ORes → Prop} {v : Int32} (h : Rsq (go n (234, [.val (.int v), l1, l2, l3, l4, l5, l6, l7], (.int v :: S), H, cs, ss)) q) : Rsq (go (n + 1) (233, [.val (.int v), l1, l2, l3, l4, l5, l6, l7], S, H, cs, ss)) q := by
  subst hgo
  exact res_of s0_233 h
theorem t0_234 {go : Nat → St → Option ORes} (hgo : go = orun code ret E0 1) {n cs ss : Nat} {l0 l1 l2 l3 l4 l5 l6 l7 : Slot} {S : List Value} {H : AH} {q : Option ORes → Prop} {x : Int32} (hk : so l5 = true) (h : Rsq (go n (236, [l0, l1, l2, l3, l4, .val (.int x), l6, l7], S, H, cs, ss)) q) : Rsq (go (n + 1) (234, [l0, l1, l2, l3, l4, l5, l6, l7], (.int x :: S), H, cs, ss)) q := by
  subst hgo
  refine res_of s0_234 ?_
  rw [pI_int, st1_so (L := [l0, l1, l2, l3, l4, l5, l6, l7]) (k := 5) (l := l5) rfl hk]
  exact h
theorem t0_236 {go : Nat → St → Option ORes} (hgo : go = orun code ret E0 1) {n cs ss : Nat} {L : List Slot} {S : List Value} {H : AH} {q : Option ORes → Prop} (h : Rsq (go n (269, L, S, H, cs, ss)) q) : Rsq (go (n + 1) (236, L, S, H, cs, ss)) q := by
  subst hgo
  exact res_of s0_236 h
theorem t0_239 {go : Nat → St → Option ORes} (hgo : go = orun code ret E0 1) {n cs ss : Nat} {l0 l2 l3 l4 l5 l6 l7 : Slot} {S : List Value} {H : AH} {q : Option ORes → Prop} {v : Int32} (h : Rsq (go n (240, [l0, .val (.int v), l2, l3, l4, l5, l6, l7], (.int v :: S), H, cs, ss)) q) : Rsq (go (n + 1) (239, [l0, .val (.int v), l2, l3, l4, l5, l6, l7], S, H, cs, ss)) q := by
  subst hgo
  exact res_of s0_239 h
theorem t0_240 {go : Nat → St → Option ORes} (hgo : go = orun code ret E0 1) {n cs ss : Nat} {L : List Slot} {S : List Value} {H : AH} {q : Option ORes → Prop} (h : Rsq (go n (242, L, (.int (2147483647) :: S), H, cs, ss)) q) : Rsq (go (n + 1) (240, L, S, H, cs, ss)) q := by
  subst hgo
  exact res_of s0_240 h
theorem t0_242 {go : Nat → St → Option ORes} (hgo : go = orun code ret E0 1) {n cs ss : Nat} {L : List Slot} {S : List Value} {H : AH} {q : Option ORes → Prop} {x y : Int32} (h : Rsq (go n (243, L, (.int (x &&& y) :: S), H, cs, ss)) q) : Rsq (go (n + 1) (242, L, (.int y :: .int x :: S), H, cs, ss)) q := by
  subst hgo
  exact res_of s0_242 h
theorem t0_243 {go : Nat → St → Option ORes} (hgo : go = orun code ret E0 1) {n cs ss : Nat} {l0 l1 l2 l3 l5 l6 l7 : Slot} {S : List Value} {H : AH} {q : Option ORes → Prop} {v : Value} (hv : isA v = true) (h : Rsq (go n (245, [l0, l1, l2, l3, .val v, l5, l6, l7], (v :: S), H, cs, ss)) q) : Rsq (go (n + 1) (243, [l0, l1, l2, l3, .val v, l5, l6, l7], S, H, cs, ss)) q := by
  subst hgo
  refine res_of s0_243 ?_
  rw [gA_isA (L := [l0, l1, l2, l3, .val v, l5, l6, l7]) (k := 4) (v := v) rfl hv]
  exact h
theorem u0_245 {go : Nat → St → Option ORes} (hgo : go = orun code ret E0 1) {n cs ss : Nat} {L : List Slot} {S : List Value} {H : AH} : go (n + 1) (245, L, S, H, cs, ss) = pR S fun a r => (arr H a).bind fun q => go n (246, L, .int (ln q.2) :: r, H, cs, ss) := by
  subst hgo
  exact s0_245
theorem t0_246 {go : Nat → St → Option ORes} (hgo : go = orun code ret E0 1) {n cs ss : Nat} {L : List Slot} {S : List Value} {H : AH} {q : Option ORes → Prop} {x y : Int32} (hz : ¬ y = 0) (h : Rsq (go n (247, L, (.int (x % y) :: S), H, cs, ss)) q) : Rsq (go (n + 1) (246, L, (.int y :: .int x :: S), H, cs, ss)) q := by
  subst hgo
  exact res_of s0_246 (res_f hz h)
theorem t0_247 {go : Nat → St → Option ORes} (hgo : go = orun code ret E0 1) {n cs ss : Nat} {l0 l1 l2 l3 l4 l5 l6 l7 : Slot} {S : List Value} {H : AH} {q : Option ORes → Prop} {x : Int32} (hk : so l6 = true) (h : Rsq (go n (249, [l0, l1, l2, l3, l4, l5, .val (.int x), l7], S, H, cs, ss)) q) : Rsq (go (n + 1) (247, [l0, l1, l2, l3, l4, l5, l6, l7], (.int x :: S), H, cs, ss)) q := by
  subst hgo
  refine res_of s0_247 ?_
  rw [pI_int, st1_so (L := [l0, l1, l2, l3, l4, l5, l6, l7]) (k := 6) (l := l6) rfl hk]
  exact h
theorem t0_249 {go : Nat → St → Option ORes} (hgo : go = orun code ret E0 1) {n cs ss : Nat} {l0 l1 l3 l4 l5 l6 l7 : Slot} {S : List Value} {H : AH} {q : Option ORes → Prop} {v : Int32} (h : Rsq (go n (250, [l0, l1, .val (.int v), l3, l4, l5, l6, l7], (.int v :: S), H, cs, ss)) q) : Rsq (go (n + 1) (249, [l0, l1, .val (.int v), l3, l4, l5, l6, l7], S, H, cs, ss)) q := by
  subst hgo
  exact res_of s0_249 h
theorem t0_250 {go : Nat → St → Option ORes} (hgo : go = orun code ret E0 1) {n cs ss : Nat} {L : List Slot} {S : List Value} {H : AH} {q : Option ORes → Prop} (h : Rsq (go n (252, L, (.int (2147483647) :: S), H, cs, ss)) q) : Rsq (go (n + 1) (250, L, S, H, cs, ss)) q := by
  subst hgo
  exact res_of s0_250 h
theorem t0_252 {go : Nat → St → Option ORes} (hgo : go = orun code ret E0 1) {n cs ss : Nat} {L : List Slot} {S : List Value} {H : AH} {q : Option ORes → Prop} {x y : Int32} (h : Rsq (go n (253, L, (.int (x &&& y) :: S), H, cs, ss)) q) : Rsq (go (n + 1) (252, L, (.int y :: .int x :: S), H, cs, ss)) q := by
  subst hgo
  exact res_of s0_252 h
theorem t0_253 {go : Nat → St → Option ORes} (hgo : go = orun code ret E0 1) {n cs ss : Nat} {L : List Slot} {S : List Value} {H : AH} {q : Option ORes → Prop} (h : Rsq (go n (254, L, (.int 5 :: S), H, cs, ss)) q) : Rsq (go (n + 1) (253, L, S, H, cs, ss)) q := by
  subst hgo
  exact res_of s0_253 h
theorem t0_254 {go : Nat → St → Option ORes} (hgo : go = orun code ret E0 1) {n cs ss : Nat} {L : List Slot} {S : List Value} {H : AH} {q : Option ORes → Prop} {x y : Int32} (hz : ¬ y = 0) (h : Rsq (go n (255, L, (.int (x % y) :: S), H, cs, ss)) q) : Rsq (go (n + 1) (254, L, (.int y :: .int x :: S), H, cs, ss)) q := by
  subst hgo
  exact res_of s0_254 (res_f hz h)
theorem t0_255 {go : Nat → St → Option ORes} (hgo : go = orun code ret E0 1) {n cs ss : Nat} {L : List Slot} {S : List Value} {H : AH} {q : Option ORes → Prop} (h : Rsq (go n (256, L, (.int 2 :: S), H, cs, ss)) q) : Rsq (go (n + 1) (255, L, S, H, cs, ss)) q := by
  subst hgo
  exact res_of s0_255 h
theorem t0_256 {go : Nat → St → Option ORes} (hgo : go = orun code ret E0 1) {n cs ss : Nat} {L : List Slot} {S : List Value} {H : AH} {q : Option ORes → Prop} {x y : Int32} (h : Rsq (go n (257, L, (.int (x - y) :: S), H, cs, ss)) q) : Rsq (go (n + 1) (256, L, (.int y :: .int x :: S), H, cs, ss)) q := by
  subst hgo
  exact res_of s0_256 h
theorem t0_257 {go : Nat → St → Option ORes} (hgo : go = orun code ret E0 1) {n cs ss : Nat} {l0 l1 l2 l3 l4 l5 l6 l7 : Slot} {S : List Value} {H : AH} {q : Option ORes → Prop} {x : Int32} (hk : so l7 = true) (h : Rsq (go n (259, [l0, l1, l2, l3, l4, l5, l6, .val (.int x)], S, H, cs, ss)) q) : Rsq (go (n + 1) (257, [l0, l1, l2, l3, l4, l5, l6, l7], (.int x :: S), H, cs, ss)) q := by
  subst hgo
  refine res_of s0_257 ?_
  rw [pI_int, st1_so (L := [l0, l1, l2, l3, l4, l5, l6, l7]) (k := 7) (l := l7) rfl hk]
  exact h
theorem t0_259 {go : Nat → St → Option ORes} (hgo : go = orun code ret E0 1) {n cs ss : Nat} {l0 l1 l2 l3 l5 l6 l7 : Slot} {S : List Value} {H : AH} {q : Option ORes → Prop} {v : Value} (hv : isA v = true) (h : Rsq (go n (261, [l0, l1, l2, l3, .val v, l5, l6, l7], (v :: S), H, cs, ss)) q) : Rsq (go (n + 1) (259, [l0, l1, l2, l3, .val v, l5, l6, l7], S, H, cs, ss)) q := by
  subst hgo
  refine res_of s0_259 ?_
  rw [gA_isA (L := [l0, l1, l2, l3, .val v, l5, l6, l7]) (k := 4) (v := v) rfl hv]
  exact h
theorem t0_261 {go : Nat → St → Option ORes} (hgo : go = orun code ret E0 1) {n cs ss : Nat} {l0 l1 l2 l3 l4 l5 l7 : Slot} {S : List Value} {H : AH} {q : Option ORes → Prop} {v : Int32} (h : Rsq (go n (263, [l0, l1, l2, l3, l4, l5, .val (.int v), l7], (.int v :: S), H, cs, ss)) q) : Rsq (go (n + 1) (261, [l0, l1, l2, l3, l4, l5, .val (.int v), l7], S, H, cs, ss)) q := by
  subst hgo
  exact res_of s0_261 h
theorem u0_263 {go : Nat → St → Option ORes} (hgo : go = orun code ret E0 1) {n cs ss : Nat} {L : List Slot} {S : List Value} {H : AH} : go (n + 1) (263, L, S, H, cs, ss) = ex ret E0 1 (go n) (.iaload) 263 L S H cs ss := by
  subst hgo
  exact s0_263
theorem t0_264 {go : Nat → St → Option ORes} (hgo : go = orun code ret E0 1) {n cs ss : Nat} {l0 l1 l2 l3 l4 l5 l6 : Slot} {S : List Value} {H : AH} {q : Option ORes → Prop} {v : Int32} (h : Rsq (go n (266, [l0, l1, l2, l3, l4, l5, l6, .val (.int v)], (.int v :: S), H, cs, ss)) q) : Rsq (go (n + 1) (264, [l0, l1, l2, l3, l4, l5, l6, .val (.int v)], S, H, cs, ss)) q := by
  subst hgo
  exact res_of s0_264 h
theorem t0_266 {go : Nat → St → Option ORes} (hgo : go = orun code ret E0 1) {n cs ss : Nat} {L : List Slot} {S : List Value} {H : AH} {q : Option ORes → Prop} {x y : Int32} (h : Rsq (go n (267, L, (.int (x + y) :: S), H, cs, ss)) q) : Rsq (go (n + 1) (266, L, (.int y :: .int x :: S), H, cs, ss)) q := by
  subst hgo
  exact res_of s0_266 h
theorem t0_267 {go : Nat → St → Option ORes} (hgo : go = orun code ret E0 1) {n cs ss : Nat} {l0 l1 l2 l3 l4 l5 l6 l7 : Slot} {S : List Value} {H : AH} {q : Option ORes → Prop} {x : Int32} (hk : so l5 = true) (h : Rsq (go n (269, [l0, l1, l2, l3, l4, .val (.int x), l6, l7], S, H, cs, ss)) q) : Rsq (go (n + 1) (267, [l0, l1, l2, l3, l4, l5, l6, l7], (.int x :: S), H, cs, ss)) q := by
  subst hgo
  refine res_of s0_267 ?_
  rw [pI_int, st1_so (L := [l0, l1, l2, l3, l4, l5, l6, l7]) (k := 5) (l := l5) rfl hk]
  exact h
theorem t0_269 {go : Nat → St → Option ORes} (hgo : go = orun code ret E0 1) {n cs ss : Nat} {l0 l1 l2 l3 l4 l6 l7 : Slot} {S : List Value} {H : AH} {q : Option ORes → Prop} {v : Int32} (h : Rsq (go n (271, [l0, l1, l2, l3, l4, .val (.int v), l6, l7], (.int v :: S), H, cs, ss)) q) : Rsq (go (n + 1) (269, [l0, l1, l2, l3, l4, .val (.int v), l6, l7], S, H, cs, ss)) q := by
  subst hgo
  exact res_of s0_269 h
theorem u0_271 {go : Nat → St → Option ORes} (hgo : go = orun code ret E0 1) {n cs ss : Nat} {L : List Slot} {S : List Value} {H : AH} : go (n + 1) (271, L, S, H, cs, ss) = (aCall 1 6 16 192 0 0 F1 S H cs ss).bind fun r => go n (274, L, r.1, r.2.1, r.2.2.1, r.2.2.2) := by
  subst hgo
  exact s0_271
theorem t0_274 {go : Nat → St → Option ORes} (hgo : go = orun code ret E0 1) {n cs ss : Nat} {l0 l1 l2 l3 l4 l6 l7 : Slot} {S : List Value} {H : AH} {q : Option ORes → Prop} {v : Int32} (h : Rsq (go n (276, [l0, l1, l2, l3, l4, .val (.int v), l6, l7], (.int v :: S), H, cs, ss)) q) : Rsq (go (n + 1) (274, [l0, l1, l2, l3, l4, .val (.int v), l6, l7], S, H, cs, ss)) q := by
  subst hgo
  exact res_of s0_274 h
theorem u0_276 {go : Nat → St → Option ORes} (hgo : go = orun code ret E0 1) {n cs ss : Nat} {L : List Slot} {S : List Value} {H : AH} : go (n + 1) (276, L, S, H, cs, ss) = (aCall 1 6 16 192 0 0 F2 S H cs ss).bind fun r => go n (279, L, r.1, r.2.1, r.2.2.1, r.2.2.2) := by
  subst hgo
  exact s0_276
theorem t0_279t {go : Nat → St → Option ORes} (hgo : go = orun code ret E0 1) {n cs ss : Nat} {L : List Slot} {S : List Value} {H : AH} {q : Option ORes → Prop} {x y : Int32} (hc : x = y) (h : Rsq (go n (282, L, S, H, cs, ss)) q) : Rsq (go (n + 1) (279, L, (.int y :: .int x :: S), H, cs, ss)) q := by
  subst hgo
  exact res_of s0_279 (res_t hc h)
theorem t0_279f {go : Nat → St → Option ORes} (hgo : go = orun code ret E0 1) {n cs ss : Nat} {L : List Slot} {S : List Value} {H : AH} {q : Option ORes → Prop} {x y : Int32} (hc : ¬ x = y) (h : Rsq (go n (286, L, S, H, cs, ss)) q) : Rsq (go (n + 1) (279, L, (.int y :: .int x :: S), H, cs, ss)) q := by
  subst hgo
  exact res_of s0_279 (res_f hc h)
theorem t0_282 {go : Nat → St → Option ORes} (hgo : go = orun code ret E0 1) {n cs ss : Nat} {L : List Slot} {S : List Value} {H : AH} {q : Option ORes → Prop} (h : Rsq (go n (283, L, (.int 1 :: S), H, cs, ss)) q) : Rsq (go (n + 1) (282, L, S, H, cs, ss)) q := by
  subst hgo
  exact res_of s0_282 h
theorem t0_283 {go : Nat → St → Option ORes} (hgo : go = orun code ret E0 1) {n cs ss : Nat} {L : List Slot} {S : List Value} {H : AH} {q : Option ORes → Prop} (h : Rsq (go n (287, L, S, H, cs, ss)) q) : Rsq (go (n + 1) (283, L, S, H, cs, ss)) q := by
  subst hgo
  exact res_of s0_283 h
theorem t0_286 {go : Nat → St → Option ORes} (hgo : go = orun code ret E0 1) {n cs ss : Nat} {L : List Slot} {S : List Value} {H : AH} {q : Option ORes → Prop} (h : Rsq (go n (287, L, (.int 0 :: S), H, cs, ss)) q) : Rsq (go (n + 1) (286, L, S, H, cs, ss)) q := by
  subst hgo
  exact res_of s0_286 h
theorem t0_287 {go : Nat → St → Option ORes} (hgo : go = orun code ret E0 1) {n cs ss : Nat} {L : List Slot} {S : List Value} {H : AH} {q : Option ORes → Prop} {z : Int32} (h : q (some (some (.int (z &&& 1)), H))) : Rsq (go (n + 1) (287, L, (.int z :: S), H, cs, ss)) q := by
  subst hgo
  exact res_of s0_287 h
theorem qb_6 : (Int8.ofInt 6).toInt32 = 6 := by decide
theorem qb_7 : (Int8.ofInt 7).toInt32 = 7 := by decide
theorem qb_8 : (Int8.ofInt 8).toInt32 = 8 := by decide
theorem qb_9 : (Int8.ofInt 9).toInt32 = 9 := by decide
theorem qb_10 : (Int8.ofInt 10).toInt32 = 10 := by decide
theorem qb_11 : (Int8.ofInt 11).toInt32 = 11 := by decide
theorem qb_12 : (Int8.ofInt 12).toInt32 = 12 := by decide
theorem qb_13 : (Int8.ofInt 13).toInt32 = 13 := by decide
theorem qb_14 : (Int8.ofInt 14).toInt32 = 14 := by decide
theorem qb_15 : (Int8.ofInt 15).toInt32 = 15 := by decide
theorem qb_16 : (Int8.ofInt 16).toInt32 = 16 := by decide
theorem qb_17 : (Int8.ofInt 17).toInt32 = 17 := by decide
theorem qb_18 : (Int8.ofInt 18).toInt32 = 18 := by decide
theorem qb_19 : (Int8.ofInt 19).toInt32 = 19 := by decide
theorem qb_20 : (Int8.ofInt 20).toInt32 = 20 := by decide
theorem qb_21 : (Int8.ofInt 21).toInt32 = 21 := by decide
theorem qb_22 : (Int8.ofInt 22).toInt32 = 22 := by decide
theorem qb_23 : (Int8.ofInt 23).toInt32 = 23 := by decide
theorem qb_24 : (Int8.ofInt 24).toInt32 = 24 := by decide
theorem qb_25 : (Int8.ofInt 25).toInt32 = 25 := by decide
theorem qb_26 : (Int8.ofInt 26).toInt32 = 26 := by decide
theorem qb_27 : (Int8.ofInt 27).toInt32 = 27 := by decide
theorem qb_28 : (Int8.ofInt 28).toInt32 = 28 := by decide
theorem qb_29 : (Int8.ofInt 29).toInt32 = 29 := by decide
theorem qb_30 : (Int8.ofInt 30).toInt32 = 30 := by decide
theorem qb_31 : (Int8.ofInt 31).toInt32 = 31 := by decide
theorem qb_32 : (Int8.ofInt 32).toInt32 = 32 := by decide
theorem qb_33 : (Int8.ofInt 33).toInt32 = 33 := by decide
theorem qb_34 : (Int8.ofInt 34).toInt32 = 34 := by decide
theorem qb_35 : (Int8.ofInt 35).toInt32 = 35 := by decide
theorem qb_57 : (Int8.ofInt 57).toInt32 = 57 := by decide
theorem qb_58 : (Int8.ofInt 58).toInt32 = 58 := by decide
theorem qb_59 : (Int8.ofInt 59).toInt32 = 59 := by decide
theorem qb_64 : (Int8.ofInt 64).toInt32 = 64 := by decide
theorem qb_65 : (Int8.ofInt 65).toInt32 = 65 := by decide
theorem qb_90 : (Int8.ofInt 90).toInt32 = 90 := by decide
theorem qb_91 : (Int8.ofInt 91).toInt32 = 91 := by decide
theorem qb_94 : (Int8.ofInt 94).toInt32 = 94 := by decide
theorem qb_95 : (Int8.ofInt 95).toInt32 = 95 := by decide
theorem qb_96 : (Int8.ofInt 96).toInt32 = 96 := by decide
theorem qb_97 : (Int8.ofInt 97).toInt32 = 97 := by decide
theorem qb_122 : (Int8.ofInt 122).toInt32 = 122 := by decide
theorem qb_123 : (Int8.ofInt 123).toInt32 = 123 := by decide
theorem qb_127 : (Int8.ofInt 127).toInt32 = 127 := by decide
theorem qc_0 : Int32.ofInt 0 = 0 := by decide
theorem qc_1 : Int32.ofInt 1 = 1 := by decide
theorem qc_2 : Int32.ofInt 2 = 2 := by decide
theorem qc_3 : Int32.ofInt 3 = 3 := by decide
theorem qc_4 : Int32.ofInt 4 = 4 := by decide
theorem qc_5 : Int32.ofInt 5 = 5 := by decide
theorem qs_128 : (Int16.ofInt 128).toInt32 = 128 := by decide
theorem qs_191 : (Int16.ofInt 191).toInt32 = 191 := by decide
theorem qs_192 : (Int16.ofInt 192).toInt32 = 192 := by decide
theorem qs_214 : (Int16.ofInt 214).toInt32 = 214 := by decide
theorem qs_215 : (Int16.ofInt 215).toInt32 = 215 := by decide
theorem qs_216 : (Int16.ofInt 216).toInt32 = 216 := by decide
theorem qs_246 : (Int16.ofInt 246).toInt32 = 246 := by decide
theorem qs_247 : (Int16.ofInt 247).toInt32 = 247 := by decide
theorem qs_248 : (Int16.ofInt 248).toInt32 = 248 := by decide
theorem qs_767 : (Int16.ofInt 767).toInt32 = 767 := by decide
theorem qs_768 : (Int16.ofInt 768).toInt32 = 768 := by decide
theorem qs_879 : (Int16.ofInt 879).toInt32 = 879 := by decide
theorem qs_880 : (Int16.ofInt 880).toInt32 = 880 := by decide
theorem qs_893 : (Int16.ofInt 893).toInt32 = 893 := by decide
theorem qs_894 : (Int16.ofInt 894).toInt32 = 894 := by decide
theorem qs_895 : (Int16.ofInt 895).toInt32 = 895 := by decide
theorem qs_8191 : (Int16.ofInt 8191).toInt32 = 8191 := by decide
theorem qs_8192 : (Int16.ofInt 8192).toInt32 = 8192 := by decide
theorem qs_8203 : (Int16.ofInt 8203).toInt32 = 8203 := by decide
theorem qs_8204 : (Int16.ofInt 8204).toInt32 = 8204 := by decide
theorem qs_8205 : (Int16.ofInt 8205).toInt32 = 8205 := by decide
theorem qs_8206 : (Int16.ofInt 8206).toInt32 = 8206 := by decide
theorem qs_8303 : (Int16.ofInt 8303).toInt32 = 8303 := by decide
theorem qs_8304 : (Int16.ofInt 8304).toInt32 = 8304 := by decide
theorem qs_8591 : (Int16.ofInt 8591).toInt32 = 8591 := by decide
theorem qs_8592 : (Int16.ofInt 8592).toInt32 = 8592 := by decide
theorem qs_11263 : (Int16.ofInt 11263).toInt32 = 11263 := by decide
theorem qs_11264 : (Int16.ofInt 11264).toInt32 = 11264 := by decide
theorem qs_12271 : (Int16.ofInt 12271).toInt32 = 12271 := by decide
theorem qs_12272 : (Int16.ofInt 12272).toInt32 = 12272 := by decide
theorem qs_12288 : (Int16.ofInt 12288).toInt32 = 12288 := by decide
theorem qs_12289 : (Int16.ofInt 12289).toInt32 = 12289 := by decide
theorem lt_of {x y : Int32} {a b : Int} (hx : x.toInt = a) (hy : y.toInt = b) (h : a < b) : x < y := by
  rw [Int32.lt_iff_toInt_lt]; omega
theorem nlt_of {x y : Int32} {a b : Int} (hx : x.toInt = a) (hy : y.toInt = b) (h : ¬ a < b) : ¬ x < y := by
  rw [Int32.lt_iff_toInt_lt]; omega
theorem eq_of {x y : Int32} {a b : Int} (hx : x.toInt = a) (hy : y.toInt = b) (h : a = b) : x = y := by
  rw [← Int32.toInt_inj]; omega
theorem neq_of {x y : Int32} {a b : Int} (hx : x.toInt = a) (hy : y.toInt = b) (h : ¬ a = b) : ¬ x = y := by
  rw [← Int32.toInt_inj]; omega
def own_ns (k : Nat) : Int32 := if k = 58 ∨ (65 ≤ k ∧ k ≤ 90) ∨ k = 95 ∨ (97 ≤ k ∧ k ≤ 122) then 1 else 0
set_option maxRecDepth 65536 in
set_option maxHeartbeats 8000000 in
theorem F1_eq {vs : List Value} {T : AH} (hV : ∀ k, k < 128 → vs[k]? = some (Value.int (own_ns k))) (c : Int32) : F1 [.int c] (.inr (.boolean, vs) :: T) = some (some (.int (if (c.toInt = 58 ∨ (65 ≤ c.toInt ∧ c.toInt ≤ 90) ∨ c.toInt = 95 ∨ (97 ≤ c.toInt ∧ c.toInt ≤ 122) ∨ (192 ≤ c.toInt ∧ c.toInt ≤ 214) ∨ (216 ≤ c.toInt ∧ c.toInt ≤ 246) ∨ (248 ≤ c.toInt ∧ c.toInt ≤ 767) ∨ (880 ≤ c.toInt ∧ c.toInt ≤ 893) ∨ (895 ≤ c.toInt ∧ c.toInt ≤ 8191) ∨ (8204 ≤ c.toInt ∧ c.toInt ≤ 8205) ∨ (8304 ≤ c.toInt ∧ c.toInt ≤ 8591) ∨ (11264 ≤ c.toInt ∧ c.toInt ≤ 12271) ∨ (12289 ≤ c.toInt ∧ c.toInt ≤ 55295) ∨ (63744 ≤ c.toInt ∧ c.toInt ≤ 64975) ∨ (65008 ≤ c.toInt ∧ c.toInt ≤ 65533) ∨ (65536 ≤ c.toInt ∧ c.toInt ≤ 983039)) then 1 else 0)), .inr (.boolean, vs) :: T) := by
  have e0 : (0 : Int32).toInt = 0 := by decide
  by_cases n0 : c.toInt < 0
  · skip
    rw [if_neg (by omega)]
    refine is_of f1_in fun go hgo => ?_
    refine t1_0 hgo ?_
    refine t1_1 hgo ?_
    refine t1_4t hgo (lt_of rfl (by decide : (128 : Int32).toInt = 128) (by omega)) ?_
    refine t1_7 hgo ?_
    refine t1_8t hgo (lt_of rfl (by decide : (0 : Int32).toInt = 0) (by omega)) ?_
    refine t1_23 hgo ?_
    refine t1_24 hgo rfl ?_
    refine t1_25 hgo ?_
    refine t1_195 hgo ?_
    refine t1_196 hgo ?_
    exact is_0
  by_cases n1 : c.toInt < 128
  · have hi0 : ¬ c < 0 := (nlt_of rfl (by decide : (0 : Int32).toInt = 0) (by omega))
    have hk : (c.toNatClampNeg : Int) = c.toInt := by
      show ((c.toInt.toNat : Nat) : Int) = c.toInt
      omega
    have hg := hV c.toNatClampNeg (by omega)
    by_cases h1 : (c.toInt = 58 ∨ (65 ≤ c.toInt ∧ c.toInt ≤ 90) ∨ c.toInt = 95 ∨ (97 ≤ c.toInt ∧ c.toInt ≤ 122))
    · have hn : own_ns c.toNatClampNeg = 1 := by unfold own_ns; rw [if_pos (by omega)]
      rw [hn] at hg
      rw [if_pos (by omega)]
      refine is_of f1_in fun go hgo => ?_
      refine t1_0 hgo ?_
      refine t1_1 hgo ?_
      refine t1_4t hgo (lt_of rfl (by decide : (128 : Int32).toInt = 128) (by omega)) ?_
      refine t1_7 hgo ?_
      refine t1_8f hgo hi0 ?_
      refine res_of (u1_11 hgo) ?_
      simp only [nr_i, nr_j, nr_a, nr_o, nr_b, nr_b1, nr_b0, ft_i, ft_j, ft_a, ft_o, ft_b, ft_b1, ft_b0, rV_nil, b_1, b_0, b_1r, b_0r, b_bb, b_and, i_10, i_01, eq_self, iff_self, not_true_eq_false, not_false_eq_true, ite_not, cat_int, cat_long, cat_ref, cat_null, and11, and01, Nat.reduceAdd, Nat.reduceSub, Nat.reduceMul, Nat.reduceLT, Nat.reduceLeDiff, Nat.reduceEqDiff, Int32.reduceAdd, Int32.reduceSub, Int32.reduceMul, Int32.reduceMod, Int32.reduceLT, Int32.reduceLE, Int32.reduceToNatClampNeg, Int64.reduceAdd, Int64.reduceSub, Int64.reduceLT, Nat.le_refl, Nat.zero_add, Nat.add_zero, and_self, Option.bind_some, Option.bind_none, gI, gL, gA, st1, st2, pI_int, pL_long, pA_ref, pA_null, pR_ref, p1_int, p1_ref, p1_null, ex_ishl, ex_ishr, ex_iushr, ex_idiv, ex_irem, ex_ineg, ex_i2b, ex_i2c, ex_i2s, ex_i2l, ex_l2i, ex_lneg, ex_lshl, ex_lshr, ex_lushr, ex_ldiv, ex_lrem, ex_lcmp, ex_dup, ex_pop, ex_dup_x1, ex_dup2, ex_ifnull, ex_ifnonnull, ex_if_acmp, ex_arraylength, ex_iaload, ex_baload, ex_caload, ex_laload, ex_aaload, ex_iastore, ex_bastore, ex_castore, ex_lastore, ex_ldc, ex_ldc_w, ex_ldc2_w, ex_getfield, ex_putfield, ex_getstatic, ex_new, ex_invokestatic, ex_invokespecial, ex_invokevirtual, ex_checkcast, ex_instanceof, ex_anewarray, ex_newarray, ex_ireturn, ex_lreturn, ex_areturn, ex_return, br_d, br_n, br_t, br_f, spc, look, aI, aJ, aGet, aPut, aNew, aArr, aObj, aCall, aRecv, obj, arr, ald, ast, astL, isT, isBZ, atn, refEq, acV, List.getElem?_cons_zero, List.getElem?_cons_succ, List.set_cons_zero, List.set_cons_succ, List.take_succ_cons, List.take_zero, List.drop_succ_cons, List.drop_zero, List.reverse_cons, List.reverse_nil, List.nil_append, List.cons_append, List.map_cons, List.map_nil, List.sum_cons, List.sum_nil, List.length_cons, List.length_nil, Option.toList_some, Option.toList_none, List.append_nil, true_and, and_true, not_false_eq_true, decide_true, decide_false, Bool.not_true, Bool.not_false, if_true, if_false, reduceIte, Option.map_some, nar, defaultValue, List.replicate_zero, List.replicate_succ, ln0, ln1, ln2, ln3, ln4, ln5, ln6, ln7, ln8, ln9, ln10, ln11, ln12, ln13, ln14, ln15, ln16, ln17, ln18, ln19, ln20, ln21, ln22, ln23, ln24, ln25, ln26, ln27, ln28, ln29, ln30, ln31, ln32, ln33, ln34, ln35, ln36, aSta, aCast, aClone, aCopy, hi0, hg]
      refine t1_14 hgo ?_
      refine res_of (u1_15 hgo) ?_
      simp only [eq_self, and_self, true_and, and_true, not_true_eq_false, not_false_eq_true, if_true, if_false, reduceIte, Option.bind_some, List.getElem?_cons_zero, List.getElem?_cons_succ, Nat.reduceAdd, Nat.reduceSub, Nat.reduceLT, Nat.reduceLeDiff, Nat.le_refl, Nat.zero_add, Nat.add_zero, List.length_cons, List.length_nil, Int32.reduceLT, Int32.reduceToNatClampNeg, Int32.reduceAdd, Int32.reduceSub, Int32.reduceMul, decide_true, ex_baload, ald, pI_int, pR_ref, arr, isT, isBZ, hi0, hg]
      refine t1_16f hgo (by decide) ?_
      refine t1_19 hgo ?_
      refine t1_20 hgo ?_
      refine t1_24 hgo rfl ?_
      refine t1_25 hgo ?_
      refine t1_195 hgo ?_
      refine t1_196 hgo ?_
      exact is_1
    · have hn : own_ns c.toNatClampNeg = 0 := by unfold own_ns; rw [if_neg (by omega)]
      rw [hn] at hg
      rw [if_neg (by omega)]
      refine is_of f1_in fun go hgo => ?_
      refine t1_0 hgo ?_
      refine t1_1 hgo ?_
      refine t1_4t hgo (lt_of rfl (by decide : (128 : Int32).toInt = 128) (by omega)) ?_
      refine t1_7 hgo ?_
      refine t1_8f hgo hi0 ?_
      refine res_of (u1_11 hgo) ?_
      simp only [nr_i, nr_j, nr_a, nr_o, nr_b, nr_b1, nr_b0, ft_i, ft_j, ft_a, ft_o, ft_b, ft_b1, ft_b0, rV_nil, b_1, b_0, b_1r, b_0r, b_bb, b_and, i_10, i_01, eq_self, iff_self, not_true_eq_false, not_false_eq_true, ite_not, cat_int, cat_long, cat_ref, cat_null, and11, and01, Nat.reduceAdd, Nat.reduceSub, Nat.reduceMul, Nat.reduceLT, Nat.reduceLeDiff, Nat.reduceEqDiff, Int32.reduceAdd, Int32.reduceSub, Int32.reduceMul, Int32.reduceMod, Int32.reduceLT, Int32.reduceLE, Int32.reduceToNatClampNeg, Int64.reduceAdd, Int64.reduceSub, Int64.reduceLT, Nat.le_refl, Nat.zero_add, Nat.add_zero, and_self, Option.bind_some, Option.bind_none, gI, gL, gA, st1, st2, pI_int, pL_long, pA_ref, pA_null, pR_ref, p1_int, p1_ref, p1_null, ex_ishl, ex_ishr, ex_iushr, ex_idiv, ex_irem, ex_ineg, ex_i2b, ex_i2c, ex_i2s, ex_i2l, ex_l2i, ex_lneg, ex_lshl, ex_lshr, ex_lushr, ex_ldiv, ex_lrem, ex_lcmp, ex_dup, ex_pop, ex_dup_x1, ex_dup2, ex_ifnull, ex_ifnonnull, ex_if_acmp, ex_arraylength, ex_iaload, ex_baload, ex_caload, ex_laload, ex_aaload, ex_iastore, ex_bastore, ex_castore, ex_lastore, ex_ldc, ex_ldc_w, ex_ldc2_w, ex_getfield, ex_putfield, ex_getstatic, ex_new, ex_invokestatic, ex_invokespecial, ex_invokevirtual, ex_checkcast, ex_instanceof, ex_anewarray, ex_newarray, ex_ireturn, ex_lreturn, ex_areturn, ex_return, br_d, br_n, br_t, br_f, spc, look, aI, aJ, aGet, aPut, aNew, aArr, aObj, aCall, aRecv, obj, arr, ald, ast, astL, isT, isBZ, atn, refEq, acV, List.getElem?_cons_zero, List.getElem?_cons_succ, List.set_cons_zero, List.set_cons_succ, List.take_succ_cons, List.take_zero, List.drop_succ_cons, List.drop_zero, List.reverse_cons, List.reverse_nil, List.nil_append, List.cons_append, List.map_cons, List.map_nil, List.sum_cons, List.sum_nil, List.length_cons, List.length_nil, Option.toList_some, Option.toList_none, List.append_nil, true_and, and_true, not_false_eq_true, decide_true, decide_false, Bool.not_true, Bool.not_false, if_true, if_false, reduceIte, Option.map_some, nar, defaultValue, List.replicate_zero, List.replicate_succ, ln0, ln1, ln2, ln3, ln4, ln5, ln6, ln7, ln8, ln9, ln10, ln11, ln12, ln13, ln14, ln15, ln16, ln17, ln18, ln19, ln20, ln21, ln22, ln23, ln24, ln25, ln26, ln27, ln28, ln29, ln30, ln31, ln32, ln33, ln34, ln35, ln36, aSta, aCast, aClone, aCopy, hi0, hg]
      refine t1_14 hgo ?_
      refine res_of (u1_15 hgo) ?_
      simp only [eq_self, and_self, true_and, and_true, not_true_eq_false, not_false_eq_true, if_true, if_false, reduceIte, Option.bind_some, List.getElem?_cons_zero, List.getElem?_cons_succ, Nat.reduceAdd, Nat.reduceSub, Nat.reduceLT, Nat.reduceLeDiff, Nat.le_refl, Nat.zero_add, Nat.add_zero, List.length_cons, List.length_nil, Int32.reduceLT, Int32.reduceToNatClampNeg, Int32.reduceAdd, Int32.reduceSub, Int32.reduceMul, decide_true, ex_baload, ald, pI_int, pR_ref, arr, isT, isBZ, hi0, hg]
      refine t1_16t hgo (by decide) ?_
      refine t1_23 hgo ?_
      refine t1_24 hgo rfl ?_
      refine t1_25 hgo ?_
      refine t1_195 hgo ?_
      refine t1_196 hgo ?_
      exact is_0
  by_cases i0 : c.toInt ≤ 191
  · skip
    rw [if_neg (by omega)]
    refine is_of f1_in fun go hgo => ?_
    refine t1_0 hgo ?_
    refine t1_1 hgo ?_
    refine t1_4f hgo (nlt_of rfl (by decide : (128 : Int32).toInt = 128) (by omega)) ?_
    refine t1_28 hgo ?_
    refine t1_29 hgo ?_
    refine t1_32t hgo (lt_of rfl (by decide : (192 : Int32).toInt = 192) (by omega)) ?_
    refine t1_42 hgo ?_
    refine t1_43 hgo ?_
    refine t1_46t hgo (lt_of rfl (by decide : (216 : Int32).toInt = 216) (by omega)) ?_
    refine t1_56 hgo ?_
    refine t1_57 hgo ?_
    refine t1_60t hgo (lt_of rfl (by decide : (248 : Int32).toInt = 248) (by omega)) ?_
    refine t1_70 hgo ?_
    refine t1_71 hgo ?_
    refine t1_74t hgo (lt_of rfl (by decide : (880 : Int32).toInt = 880) (by omega)) ?_
    refine t1_84 hgo ?_
    refine t1_85 hgo ?_
    refine t1_88t hgo (lt_of rfl (by decide : (895 : Int32).toInt = 895) (by omega)) ?_
    refine t1_98 hgo ?_
    refine t1_99 hgo ?_
    refine t1_102f hgo (neq_of rfl (by decide : (8204 : Int32).toInt = 8204) (by omega)) ?_
    refine t1_105 hgo ?_
    refine t1_106 hgo ?_
    refine t1_109f hgo (neq_of rfl (by decide : (8205 : Int32).toInt = 8205) (by omega)) ?_
    refine t1_112 hgo ?_
    refine t1_113 hgo ?_
    refine t1_116t hgo (lt_of rfl (by decide : (8304 : Int32).toInt = 8304) (by omega)) ?_
    refine t1_126 hgo ?_
    refine t1_127 hgo ?_
    refine t1_130t hgo (lt_of rfl (by decide : (11264 : Int32).toInt = 11264) (by omega)) ?_
    refine t1_140 hgo ?_
    refine t1_141 hgo ?_
    refine t1_144t hgo (lt_of rfl (by decide : (12289 : Int32).toInt = 12289) (by omega)) ?_
    refine t1_153 hgo ?_
    refine t1_154 hgo ?_
    refine t1_156t hgo (lt_of rfl (by decide : (63744 : Int32).toInt = 63744) (by omega)) ?_
    refine t1_165 hgo ?_
    refine t1_166 hgo ?_
    refine t1_168t hgo (lt_of rfl (by decide : (65008 : Int32).toInt = 65008) (by omega)) ?_
    refine t1_177 hgo ?_
    refine t1_178 hgo ?_
    refine t1_180t hgo (lt_of rfl (by decide : (65536 : Int32).toInt = 65536) (by omega)) ?_
    refine t1_193 hgo ?_
    refine t1_194 hgo rfl ?_
    refine t1_195 hgo ?_
    refine t1_196 hgo ?_
    exact is_0
  by_cases i1 : c.toInt ≤ 214
  · skip
    rw [if_pos (by omega)]
    refine is_of f1_in fun go hgo => ?_
    refine t1_0 hgo ?_
    refine t1_1 hgo ?_
    refine t1_4f hgo (nlt_of rfl (by decide : (128 : Int32).toInt = 128) (by omega)) ?_
    refine t1_28 hgo ?_
    refine t1_29 hgo ?_
    refine t1_32f hgo (nlt_of rfl (by decide : (192 : Int32).toInt = 192) (by omega)) ?_
    refine t1_35 hgo ?_
    refine t1_36 hgo ?_
    refine t1_39f hgo (nlt_of (by decide : (214 : Int32).toInt = 214) rfl (by omega)) ?_
    refine t1_189 hgo ?_
    refine t1_190 hgo ?_
    refine t1_194 hgo rfl ?_
    refine t1_195 hgo ?_
    refine t1_196 hgo ?_
    exact is_1
  by_cases i2 : c.toInt ≤ 215
  · skip
    rw [if_neg (by omega)]
    refine is_of f1_in fun go hgo => ?_
    refine t1_0 hgo ?_
    refine t1_1 hgo ?_
    refine t1_4f hgo (nlt_of rfl (by decide : (128 : Int32).toInt = 128) (by omega)) ?_
    refine t1_28 hgo ?_
    refine t1_29 hgo ?_
    refine t1_32f hgo (nlt_of rfl (by decide : (192 : Int32).toInt = 192) (by omega)) ?_
    refine t1_35 hgo ?_
    refine t1_36 hgo ?_
    refine t1_39t hgo (lt_of (by decide : (214 : Int32).toInt = 214) rfl (by omega)) ?_
    refine t1_42 hgo ?_
    refine t1_43 hgo ?_
    refine t1_46t hgo (lt_of rfl (by decide : (216 : Int32).toInt = 216) (by omega)) ?_
    refine t1_56 hgo ?_
    refine t1_57 hgo ?_
    refine t1_60t hgo (lt_of rfl (by decide : (248 : Int32).toInt = 248) (by omega)) ?_
    refine t1_70 hgo ?_
    refine t1_71 hgo ?_
    refine t1_74t hgo (lt_of rfl (by decide : (880 : Int32).toInt = 880) (by omega)) ?_
    refine t1_84 hgo ?_
    refine t1_85 hgo ?_
    refine t1_88t hgo (lt_of rfl (by decide : (895 : Int32).toInt = 895) (by omega)) ?_
    refine t1_98 hgo ?_
    refine t1_99 hgo ?_
    refine t1_102f hgo (neq_of rfl (by decide : (8204 : Int32).toInt = 8204) (by omega)) ?_
    refine t1_105 hgo ?_
    refine t1_106 hgo ?_
    refine t1_109f hgo (neq_of rfl (by decide : (8205 : Int32).toInt = 8205) (by omega)) ?_
    refine t1_112 hgo ?_
    refine t1_113 hgo ?_
    refine t1_116t hgo (lt_of rfl (by decide : (8304 : Int32).toInt = 8304) (by omega)) ?_
    refine t1_126 hgo ?_
    refine t1_127 hgo ?_
    refine t1_130t hgo (lt_of rfl (by decide : (11264 : Int32).toInt = 11264) (by omega)) ?_
    refine t1_140 hgo ?_
    refine t1_141 hgo ?_
    refine t1_144t hgo (lt_of rfl (by decide : (12289 : Int32).toInt = 12289) (by omega)) ?_
    refine t1_153 hgo ?_
    refine t1_154 hgo ?_
    refine t1_156t hgo (lt_of rfl (by decide : (63744 : Int32).toInt = 63744) (by omega)) ?_
    refine t1_165 hgo ?_
    refine t1_166 hgo ?_
    refine t1_168t hgo (lt_of rfl (by decide : (65008 : Int32).toInt = 65008) (by omega)) ?_
    refine t1_177 hgo ?_
    refine t1_178 hgo ?_
    refine t1_180t hgo (lt_of rfl (by decide : (65536 : Int32).toInt = 65536) (by omega)) ?_
    refine t1_193 hgo ?_
    refine t1_194 hgo rfl ?_
    refine t1_195 hgo ?_
    refine t1_196 hgo ?_
    exact is_0
  by_cases i3 : c.toInt ≤ 246
  · skip
    rw [if_pos (by omega)]
    refine is_of f1_in fun go hgo => ?_
    refine t1_0 hgo ?_
    refine t1_1 hgo ?_
    refine t1_4f hgo (nlt_of rfl (by decide : (128 : Int32).toInt = 128) (by omega)) ?_
    refine t1_28 hgo ?_
    refine t1_29 hgo ?_
    refine t1_32f hgo (nlt_of rfl (by decide : (192 : Int32).toInt = 192) (by omega)) ?_
    refine t1_35 hgo ?_
    refine t1_36 hgo ?_
    refine t1_39t hgo (lt_of (by decide : (214 : Int32).toInt = 214) rfl (by omega)) ?_
    refine t1_42 hgo ?_
    refine t1_43 hgo ?_
    refine t1_46f hgo (nlt_of rfl (by decide : (216 : Int32).toInt = 216) (by omega)) ?_
    refine t1_49 hgo ?_
    refine t1_50 hgo ?_
    refine t1_53f hgo (nlt_of (by decide : (246 : Int32).toInt = 246) rfl (by omega)) ?_
    refine t1_189 hgo ?_
    refine t1_190 hgo ?_
    refine t1_194 hgo rfl ?_
    refine t1_195 hgo ?_
    refine t1_196 hgo ?_
    exact is_1
  by_cases i4 : c.toInt ≤ 247
  · skip
    rw [if_neg (by omega)]
    refine is_of f1_in fun go hgo => ?_
    refine t1_0 hgo ?_
    refine t1_1 hgo ?_
    refine t1_4f hgo (nlt_of rfl (by decide : (128 : Int32).toInt = 128) (by omega)) ?_
    refine t1_28 hgo ?_
    refine t1_29 hgo ?_
    refine t1_32f hgo (nlt_of rfl (by decide : (192 : Int32).toInt = 192) (by omega)) ?_
    refine t1_35 hgo ?_
    refine t1_36 hgo ?_
    refine t1_39t hgo (lt_of (by decide : (214 : Int32).toInt = 214) rfl (by omega)) ?_
    refine t1_42 hgo ?_
    refine t1_43 hgo ?_
    refine t1_46f hgo (nlt_of rfl (by decide : (216 : Int32).toInt = 216) (by omega)) ?_
    refine t1_49 hgo ?_
    refine t1_50 hgo ?_
    refine t1_53t hgo (lt_of (by decide : (246 : Int32).toInt = 246) rfl (by omega)) ?_
    refine t1_56 hgo ?_
    refine t1_57 hgo ?_
    refine t1_60t hgo (lt_of rfl (by decide : (248 : Int32).toInt = 248) (by omega)) ?_
    refine t1_70 hgo ?_
    refine t1_71 hgo ?_
    refine t1_74t hgo (lt_of rfl (by decide : (880 : Int32).toInt = 880) (by omega)) ?_
    refine t1_84 hgo ?_
    refine t1_85 hgo ?_
    refine t1_88t hgo (lt_of rfl (by decide : (895 : Int32).toInt = 895) (by omega)) ?_
    refine t1_98 hgo ?_
    refine t1_99 hgo ?_
    refine t1_102f hgo (neq_of rfl (by decide : (8204 : Int32).toInt = 8204) (by omega)) ?_
    refine t1_105 hgo ?_
    refine t1_106 hgo ?_
    refine t1_109f hgo (neq_of rfl (by decide : (8205 : Int32).toInt = 8205) (by omega)) ?_
    refine t1_112 hgo ?_
    refine t1_113 hgo ?_
    refine t1_116t hgo (lt_of rfl (by decide : (8304 : Int32).toInt = 8304) (by omega)) ?_
    refine t1_126 hgo ?_
    refine t1_127 hgo ?_
    refine t1_130t hgo (lt_of rfl (by decide : (11264 : Int32).toInt = 11264) (by omega)) ?_
    refine t1_140 hgo ?_
    refine t1_141 hgo ?_
    refine t1_144t hgo (lt_of rfl (by decide : (12289 : Int32).toInt = 12289) (by omega)) ?_
    refine t1_153 hgo ?_
    refine t1_154 hgo ?_
    refine t1_156t hgo (lt_of rfl (by decide : (63744 : Int32).toInt = 63744) (by omega)) ?_
    refine t1_165 hgo ?_
    refine t1_166 hgo ?_
    refine t1_168t hgo (lt_of rfl (by decide : (65008 : Int32).toInt = 65008) (by omega)) ?_
    refine t1_177 hgo ?_
    refine t1_178 hgo ?_
    refine t1_180t hgo (lt_of rfl (by decide : (65536 : Int32).toInt = 65536) (by omega)) ?_
    refine t1_193 hgo ?_
    refine t1_194 hgo rfl ?_
    refine t1_195 hgo ?_
    refine t1_196 hgo ?_
    exact is_0
  by_cases i5 : c.toInt ≤ 767
  · skip
    rw [if_pos (by omega)]
    refine is_of f1_in fun go hgo => ?_
    refine t1_0 hgo ?_
    refine t1_1 hgo ?_
    refine t1_4f hgo (nlt_of rfl (by decide : (128 : Int32).toInt = 128) (by omega)) ?_
    refine t1_28 hgo ?_
    refine t1_29 hgo ?_
    refine t1_32f hgo (nlt_of rfl (by decide : (192 : Int32).toInt = 192) (by omega)) ?_
    refine t1_35 hgo ?_
    refine t1_36 hgo ?_
    refine t1_39t hgo (lt_of (by decide : (214 : Int32).toInt = 214) rfl (by omega)) ?_
    refine t1_42 hgo ?_
    refine t1_43 hgo ?_
    refine t1_46f hgo (nlt_of rfl (by decide : (216 : Int32).toInt = 216) (by omega)) ?_
    refine t1_49 hgo ?_
    refine t1_50 hgo ?_
    refine t1_53t hgo (lt_of (by decide : (246 : Int32).toInt = 246) rfl (by omega)) ?_
    refine t1_56 hgo ?_
    refine t1_57 hgo ?_
    refine t1_60f hgo (nlt_of rfl (by decide : (248 : Int32).toInt = 248) (by omega)) ?_
    refine t1_63 hgo ?_
    refine t1_64 hgo ?_
    refine t1_67f hgo (nlt_of (by decide : (767 : Int32).toInt = 767) rfl (by omega)) ?_
    refine t1_189 hgo ?_
    refine t1_190 hgo ?_
    refine t1_194 hgo rfl ?_
    refine t1_195 hgo ?_
    refine t1_196 hgo ?_
    exact is_1
  by_cases i6 : c.toInt ≤ 879
  · skip
    rw [if_neg (by omega)]
    refine is_of f1_in fun go hgo => ?_
    refine t1_0 hgo ?_
    refine t1_1 hgo ?_
    refine t1_4f hgo (nlt_of rfl (by decide : (128 : Int32).toInt = 128) (by omega)) ?_
    refine t1_28 hgo ?_
    refine t1_29 hgo ?_
    refine t1_32f hgo (nlt_of rfl (by decide : (192 : Int32).toInt = 192) (by omega)) ?_
    refine t1_35 hgo ?_
    refine t1_36 hgo ?_
    refine t1_39t hgo (lt_of (by decide : (214 : Int32).toInt = 214) rfl (by omega)) ?_
    refine t1_42 hgo ?_
    refine t1_43 hgo ?_
    refine t1_46f hgo (nlt_of rfl (by decide : (216 : Int32).toInt = 216) (by omega)) ?_
    refine t1_49 hgo ?_
    refine t1_50 hgo ?_
    refine t1_53t hgo (lt_of (by decide : (246 : Int32).toInt = 246) rfl (by omega)) ?_
    refine t1_56 hgo ?_
    refine t1_57 hgo ?_
    refine t1_60f hgo (nlt_of rfl (by decide : (248 : Int32).toInt = 248) (by omega)) ?_
    refine t1_63 hgo ?_
    refine t1_64 hgo ?_
    refine t1_67t hgo (lt_of (by decide : (767 : Int32).toInt = 767) rfl (by omega)) ?_
    refine t1_70 hgo ?_
    refine t1_71 hgo ?_
    refine t1_74t hgo (lt_of rfl (by decide : (880 : Int32).toInt = 880) (by omega)) ?_
    refine t1_84 hgo ?_
    refine t1_85 hgo ?_
    refine t1_88t hgo (lt_of rfl (by decide : (895 : Int32).toInt = 895) (by omega)) ?_
    refine t1_98 hgo ?_
    refine t1_99 hgo ?_
    refine t1_102f hgo (neq_of rfl (by decide : (8204 : Int32).toInt = 8204) (by omega)) ?_
    refine t1_105 hgo ?_
    refine t1_106 hgo ?_
    refine t1_109f hgo (neq_of rfl (by decide : (8205 : Int32).toInt = 8205) (by omega)) ?_
    refine t1_112 hgo ?_
    refine t1_113 hgo ?_
    refine t1_116t hgo (lt_of rfl (by decide : (8304 : Int32).toInt = 8304) (by omega)) ?_
    refine t1_126 hgo ?_
    refine t1_127 hgo ?_
    refine t1_130t hgo (lt_of rfl (by decide : (11264 : Int32).toInt = 11264) (by omega)) ?_
    refine t1_140 hgo ?_
    refine t1_141 hgo ?_
    refine t1_144t hgo (lt_of rfl (by decide : (12289 : Int32).toInt = 12289) (by omega)) ?_
    refine t1_153 hgo ?_
    refine t1_154 hgo ?_
    refine t1_156t hgo (lt_of rfl (by decide : (63744 : Int32).toInt = 63744) (by omega)) ?_
    refine t1_165 hgo ?_
    refine t1_166 hgo ?_
    refine t1_168t hgo (lt_of rfl (by decide : (65008 : Int32).toInt = 65008) (by omega)) ?_
    refine t1_177 hgo ?_
    refine t1_178 hgo ?_
    refine t1_180t hgo (lt_of rfl (by decide : (65536 : Int32).toInt = 65536) (by omega)) ?_
    refine t1_193 hgo ?_
    refine t1_194 hgo rfl ?_
    refine t1_195 hgo ?_
    refine t1_196 hgo ?_
    exact is_0
  by_cases i7 : c.toInt ≤ 893
  · skip
    rw [if_pos (by omega)]
    refine is_of f1_in fun go hgo => ?_
    refine t1_0 hgo ?_
    refine t1_1 hgo ?_
    refine t1_4f hgo (nlt_of rfl (by decide : (128 : Int32).toInt = 128) (by omega)) ?_
    refine t1_28 hgo ?_
    refine t1_29 hgo ?_
    refine t1_32f hgo (nlt_of rfl (by decide : (192 : Int32).toInt = 192) (by omega)) ?_
    refine t1_35 hgo ?_
    refine t1_36 hgo ?_
    refine t1_39t hgo (lt_of (by decide : (214 : Int32).toInt = 214) rfl (by omega)) ?_
    refine t1_42 hgo ?_
    refine t1_43 hgo ?_
    refine t1_46f hgo (nlt_of rfl (by decide : (216 : Int32).toInt = 216) (by omega)) ?_
    refine t1_49 hgo ?_
    refine t1_50 hgo ?_
    refine t1_53t hgo (lt_of (by decide : (246 : Int32).toInt = 246) rfl (by omega)) ?_
    refine t1_56 hgo ?_
    refine t1_57 hgo ?_
    refine t1_60f hgo (nlt_of rfl (by decide : (248 : Int32).toInt = 248) (by omega)) ?_
    refine t1_63 hgo ?_
    refine t1_64 hgo ?_
    refine t1_67t hgo (lt_of (by decide : (767 : Int32).toInt = 767) rfl (by omega)) ?_
    refine t1_70 hgo ?_
    refine t1_71 hgo ?_
    refine t1_74f hgo (nlt_of rfl (by decide : (880 : Int32).toInt = 880) (by omega)) ?_
    refine t1_77 hgo ?_
    refine t1_78 hgo ?_
    refine t1_81f hgo (nlt_of (by decide : (893 : Int32).toInt = 893) rfl (by omega)) ?_
    refine t1_189 hgo ?_
    refine t1_190 hgo ?_
    refine t1_194 hgo rfl ?_
    refine t1_195 hgo ?_
    refine t1_196 hgo ?_
    exact is_1
  by_cases i8 : c.toInt ≤ 894
  · skip
    rw [if_neg (by omega)]
    refine is_of f1_in fun go hgo => ?_
    refine t1_0 hgo ?_
    refine t1_1 hgo ?_
    refine t1_4f hgo (nlt_of rfl (by decide : (128 : Int32).toInt = 128) (by omega)) ?_
    refine t1_28 hgo ?_
    refine t1_29 hgo ?_
    refine t1_32f hgo (nlt_of rfl (by decide : (192 : Int32).toInt = 192) (by omega)) ?_
    refine t1_35 hgo ?_
    refine t1_36 hgo ?_
    refine t1_39t hgo (lt_of (by decide : (214 : Int32).toInt = 214) rfl (by omega)) ?_
    refine t1_42 hgo ?_
    refine t1_43 hgo ?_
    refine t1_46f hgo (nlt_of rfl (by decide : (216 : Int32).toInt = 216) (by omega)) ?_
    refine t1_49 hgo ?_
    refine t1_50 hgo ?_
    refine t1_53t hgo (lt_of (by decide : (246 : Int32).toInt = 246) rfl (by omega)) ?_
    refine t1_56 hgo ?_
    refine t1_57 hgo ?_
    refine t1_60f hgo (nlt_of rfl (by decide : (248 : Int32).toInt = 248) (by omega)) ?_
    refine t1_63 hgo ?_
    refine t1_64 hgo ?_
    refine t1_67t hgo (lt_of (by decide : (767 : Int32).toInt = 767) rfl (by omega)) ?_
    refine t1_70 hgo ?_
    refine t1_71 hgo ?_
    refine t1_74f hgo (nlt_of rfl (by decide : (880 : Int32).toInt = 880) (by omega)) ?_
    refine t1_77 hgo ?_
    refine t1_78 hgo ?_
    refine t1_81t hgo (lt_of (by decide : (893 : Int32).toInt = 893) rfl (by omega)) ?_
    refine t1_84 hgo ?_
    refine t1_85 hgo ?_
    refine t1_88t hgo (lt_of rfl (by decide : (895 : Int32).toInt = 895) (by omega)) ?_
    refine t1_98 hgo ?_
    refine t1_99 hgo ?_
    refine t1_102f hgo (neq_of rfl (by decide : (8204 : Int32).toInt = 8204) (by omega)) ?_
    refine t1_105 hgo ?_
    refine t1_106 hgo ?_
    refine t1_109f hgo (neq_of rfl (by decide : (8205 : Int32).toInt = 8205) (by omega)) ?_
    refine t1_112 hgo ?_
    refine t1_113 hgo ?_
    refine t1_116t hgo (lt_of rfl (by decide : (8304 : Int32).toInt = 8304) (by omega)) ?_
    refine t1_126 hgo ?_
    refine t1_127 hgo ?_
    refine t1_130t hgo (lt_of rfl (by decide : (11264 : Int32).toInt = 11264) (by omega)) ?_
    refine t1_140 hgo ?_
    refine t1_141 hgo ?_
    refine t1_144t hgo (lt_of rfl (by decide : (12289 : Int32).toInt = 12289) (by omega)) ?_
    refine t1_153 hgo ?_
    refine t1_154 hgo ?_
    refine t1_156t hgo (lt_of rfl (by decide : (63744 : Int32).toInt = 63744) (by omega)) ?_
    refine t1_165 hgo ?_
    refine t1_166 hgo ?_
    refine t1_168t hgo (lt_of rfl (by decide : (65008 : Int32).toInt = 65008) (by omega)) ?_
    refine t1_177 hgo ?_
    refine t1_178 hgo ?_
    refine t1_180t hgo (lt_of rfl (by decide : (65536 : Int32).toInt = 65536) (by omega)) ?_
    refine t1_193 hgo ?_
    refine t1_194 hgo rfl ?_
    refine t1_195 hgo ?_
    refine t1_196 hgo ?_
    exact is_0
  by_cases i9 : c.toInt ≤ 8191
  · skip
    rw [if_pos (by omega)]
    refine is_of f1_in fun go hgo => ?_
    refine t1_0 hgo ?_
    refine t1_1 hgo ?_
    refine t1_4f hgo (nlt_of rfl (by decide : (128 : Int32).toInt = 128) (by omega)) ?_
    refine t1_28 hgo ?_
    refine t1_29 hgo ?_
    refine t1_32f hgo (nlt_of rfl (by decide : (192 : Int32).toInt = 192) (by omega)) ?_
    refine t1_35 hgo ?_
    refine t1_36 hgo ?_
    refine t1_39t hgo (lt_of (by decide : (214 : Int32).toInt = 214) rfl (by omega)) ?_
    refine t1_42 hgo ?_
    refine t1_43 hgo ?_
    refine t1_46f hgo (nlt_of rfl (by decide : (216 : Int32).toInt = 216) (by omega)) ?_
    refine t1_49 hgo ?_
    refine t1_50 hgo ?_
    refine t1_53t hgo (lt_of (by decide : (246 : Int32).toInt = 246) rfl (by omega)) ?_
    refine t1_56 hgo ?_
    refine t1_57 hgo ?_
    refine t1_60f hgo (nlt_of rfl (by decide : (248 : Int32).toInt = 248) (by omega)) ?_
    refine t1_63 hgo ?_
    refine t1_64 hgo ?_
    refine t1_67t hgo (lt_of (by decide : (767 : Int32).toInt = 767) rfl (by omega)) ?_
    refine t1_70 hgo ?_
    refine t1_71 hgo ?_
    refine t1_74f hgo (nlt_of rfl (by decide : (880 : Int32).toInt = 880) (by omega)) ?_
    refine t1_77 hgo ?_
    refine t1_78 hgo ?_
    refine t1_81t hgo (lt_of (by decide : (893 : Int32).toInt = 893) rfl (by omega)) ?_
    refine t1_84 hgo ?_
    refine t1_85 hgo ?_
    refine t1_88f hgo (nlt_of rfl (by decide : (895 : Int32).toInt = 895) (by omega)) ?_
    refine t1_91 hgo ?_
    refine t1_92 hgo ?_
    refine t1_95f hgo (nlt_of (by decide : (8191 : Int32).toInt = 8191) rfl (by omega)) ?_
    refine t1_189 hgo ?_
    refine t1_190 hgo ?_
    refine t1_194 hgo rfl ?_
    refine t1_195 hgo ?_
    refine t1_196 hgo ?_
    exact is_1
  by_cases i10 : c.toInt ≤ 8203
  · skip
    rw [if_neg (by omega)]
    refine is_of f1_in fun go hgo => ?_
    refine t1_0 hgo ?_
    refine t1_1 hgo ?_
    refine t1_4f hgo (nlt_of rfl (by decide : (128 : Int32).toInt = 128) (by omega)) ?_
    refine t1_28 hgo ?_
    refine t1_29 hgo ?_
    refine t1_32f hgo (nlt_of rfl (by decide : (192 : Int32).toInt = 192) (by omega)) ?_
    refine t1_35 hgo ?_
    refine t1_36 hgo ?_
    refine t1_39t hgo (lt_of (by decide : (214 : Int32).toInt = 214) rfl (by omega)) ?_
    refine t1_42 hgo ?_
    refine t1_43 hgo ?_
    refine t1_46f hgo (nlt_of rfl (by decide : (216 : Int32).toInt = 216) (by omega)) ?_
    refine t1_49 hgo ?_
    refine t1_50 hgo ?_
    refine t1_53t hgo (lt_of (by decide : (246 : Int32).toInt = 246) rfl (by omega)) ?_
    refine t1_56 hgo ?_
    refine t1_57 hgo ?_
    refine t1_60f hgo (nlt_of rfl (by decide : (248 : Int32).toInt = 248) (by omega)) ?_
    refine t1_63 hgo ?_
    refine t1_64 hgo ?_
    refine t1_67t hgo (lt_of (by decide : (767 : Int32).toInt = 767) rfl (by omega)) ?_
    refine t1_70 hgo ?_
    refine t1_71 hgo ?_
    refine t1_74f hgo (nlt_of rfl (by decide : (880 : Int32).toInt = 880) (by omega)) ?_
    refine t1_77 hgo ?_
    refine t1_78 hgo ?_
    refine t1_81t hgo (lt_of (by decide : (893 : Int32).toInt = 893) rfl (by omega)) ?_
    refine t1_84 hgo ?_
    refine t1_85 hgo ?_
    refine t1_88f hgo (nlt_of rfl (by decide : (895 : Int32).toInt = 895) (by omega)) ?_
    refine t1_91 hgo ?_
    refine t1_92 hgo ?_
    refine t1_95t hgo (lt_of (by decide : (8191 : Int32).toInt = 8191) rfl (by omega)) ?_
    refine t1_98 hgo ?_
    refine t1_99 hgo ?_
    refine t1_102f hgo (neq_of rfl (by decide : (8204 : Int32).toInt = 8204) (by omega)) ?_
    refine t1_105 hgo ?_
    refine t1_106 hgo ?_
    refine t1_109f hgo (neq_of rfl (by decide : (8205 : Int32).toInt = 8205) (by omega)) ?_
    refine t1_112 hgo ?_
    refine t1_113 hgo ?_
    refine t1_116t hgo (lt_of rfl (by decide : (8304 : Int32).toInt = 8304) (by omega)) ?_
    refine t1_126 hgo ?_
    refine t1_127 hgo ?_
    refine t1_130t hgo (lt_of rfl (by decide : (11264 : Int32).toInt = 11264) (by omega)) ?_
    refine t1_140 hgo ?_
    refine t1_141 hgo ?_
    refine t1_144t hgo (lt_of rfl (by decide : (12289 : Int32).toInt = 12289) (by omega)) ?_
    refine t1_153 hgo ?_
    refine t1_154 hgo ?_
    refine t1_156t hgo (lt_of rfl (by decide : (63744 : Int32).toInt = 63744) (by omega)) ?_
    refine t1_165 hgo ?_
    refine t1_166 hgo ?_
    refine t1_168t hgo (lt_of rfl (by decide : (65008 : Int32).toInt = 65008) (by omega)) ?_
    refine t1_177 hgo ?_
    refine t1_178 hgo ?_
    refine t1_180t hgo (lt_of rfl (by decide : (65536 : Int32).toInt = 65536) (by omega)) ?_
    refine t1_193 hgo ?_
    refine t1_194 hgo rfl ?_
    refine t1_195 hgo ?_
    refine t1_196 hgo ?_
    exact is_0
  by_cases i11 : c.toInt ≤ 8204
  · skip
    rw [if_pos (by omega)]
    refine is_of f1_in fun go hgo => ?_
    refine t1_0 hgo ?_
    refine t1_1 hgo ?_
    refine t1_4f hgo (nlt_of rfl (by decide : (128 : Int32).toInt = 128) (by omega)) ?_
    refine t1_28 hgo ?_
    refine t1_29 hgo ?_
    refine t1_32f hgo (nlt_of rfl (by decide : (192 : Int32).toInt = 192) (by omega)) ?_
    refine t1_35 hgo ?_
    refine t1_36 hgo ?_
    refine t1_39t hgo (lt_of (by decide : (214 : Int32).toInt = 214) rfl (by omega)) ?_
    refine t1_42 hgo ?_
    refine t1_43 hgo ?_
    refine t1_46f hgo (nlt_of rfl (by decide : (216 : Int32).toInt = 216) (by omega)) ?_
    refine t1_49 hgo ?_
    refine t1_50 hgo ?_
    refine t1_53t hgo (lt_of (by decide : (246 : Int32).toInt = 246) rfl (by omega)) ?_
    refine t1_56 hgo ?_
    refine t1_57 hgo ?_
    refine t1_60f hgo (nlt_of rfl (by decide : (248 : Int32).toInt = 248) (by omega)) ?_
    refine t1_63 hgo ?_
    refine t1_64 hgo ?_
    refine t1_67t hgo (lt_of (by decide : (767 : Int32).toInt = 767) rfl (by omega)) ?_
    refine t1_70 hgo ?_
    refine t1_71 hgo ?_
    refine t1_74f hgo (nlt_of rfl (by decide : (880 : Int32).toInt = 880) (by omega)) ?_
    refine t1_77 hgo ?_
    refine t1_78 hgo ?_
    refine t1_81t hgo (lt_of (by decide : (893 : Int32).toInt = 893) rfl (by omega)) ?_
    refine t1_84 hgo ?_
    refine t1_85 hgo ?_
    refine t1_88f hgo (nlt_of rfl (by decide : (895 : Int32).toInt = 895) (by omega)) ?_
    refine t1_91 hgo ?_
    refine t1_92 hgo ?_
    refine t1_95t hgo (lt_of (by decide : (8191 : Int32).toInt = 8191) rfl (by omega)) ?_
    refine t1_98 hgo ?_
    refine t1_99 hgo ?_
    refine t1_102t hgo (eq_of rfl (by decide : (8204 : Int32).toInt = 8204) (by omega)) ?_
    refine t1_189 hgo ?_
    refine t1_190 hgo ?_
    refine t1_194 hgo rfl ?_
    refine t1_195 hgo ?_
    refine t1_196 hgo ?_
    exact is_1
  by_cases i12 : c.toInt ≤ 8205
  · skip
    rw [if_pos (by omega)]
    refine is_of f1_in fun go hgo => ?_
    refine t1_0 hgo ?_
    refine t1_1 hgo ?_
    refine t1_4f hgo (nlt_of rfl (by decide : (128 : Int32).toInt = 128) (by omega)) ?_
    refine t1_28 hgo ?_
    refine t1_29 hgo ?_
    refine t1_32f hgo (nlt_of rfl (by decide : (192 : Int32).toInt = 192) (by omega)) ?_
    refine t1_35 hgo ?_
    refine t1_36 hgo ?_
    refine t1_39t hgo (lt_of (by decide : (214 : Int32).toInt = 214) rfl (by omega)) ?_
    refine t1_42 hgo ?_
    refine t1_43 hgo ?_
    refine t1_46f hgo (nlt_of rfl (by decide : (216 : Int32).toInt = 216) (by omega)) ?_
    refine t1_49 hgo ?_
    refine t1_50 hgo ?_
    refine t1_53t hgo (lt_of (by decide : (246 : Int32).toInt = 246) rfl (by omega)) ?_
    refine t1_56 hgo ?_
    refine t1_57 hgo ?_
    refine t1_60f hgo (nlt_of rfl (by decide : (248 : Int32).toInt = 248) (by omega)) ?_
    refine t1_63 hgo ?_
    refine t1_64 hgo ?_
    refine t1_67t hgo (lt_of (by decide : (767 : Int32).toInt = 767) rfl (by omega)) ?_
    refine t1_70 hgo ?_
    refine t1_71 hgo ?_
    refine t1_74f hgo (nlt_of rfl (by decide : (880 : Int32).toInt = 880) (by omega)) ?_
    refine t1_77 hgo ?_
    refine t1_78 hgo ?_
    refine t1_81t hgo (lt_of (by decide : (893 : Int32).toInt = 893) rfl (by omega)) ?_
    refine t1_84 hgo ?_
    refine t1_85 hgo ?_
    refine t1_88f hgo (nlt_of rfl (by decide : (895 : Int32).toInt = 895) (by omega)) ?_
    refine t1_91 hgo ?_
    refine t1_92 hgo ?_
    refine t1_95t hgo (lt_of (by decide : (8191 : Int32).toInt = 8191) rfl (by omega)) ?_
    refine t1_98 hgo ?_
    refine t1_99 hgo ?_
    refine t1_102f hgo (neq_of rfl (by decide : (8204 : Int32).toInt = 8204) (by omega)) ?_
    refine t1_105 hgo ?_
    refine t1_106 hgo ?_
    refine t1_109t hgo (eq_of rfl (by decide : (8205 : Int32).toInt = 8205) (by omega)) ?_
    refine t1_189 hgo ?_
    refine t1_190 hgo ?_
    refine t1_194 hgo rfl ?_
    refine t1_195 hgo ?_
    refine t1_196 hgo ?_
    exact is_1
  by_cases i13 : c.toInt ≤ 8303
  · skip
    rw [if_neg (by omega)]
    refine is_of f1_in fun go hgo => ?_
    refine t1_0 hgo ?_
    refine t1_1 hgo ?_
    refine t1_4f hgo (nlt_of rfl (by decide : (128 : Int32).toInt = 128) (by omega)) ?_
    refine t1_28 hgo ?_
    refine t1_29 hgo ?_
    refine t1_32f hgo (nlt_of rfl (by decide : (192 : Int32).toInt = 192) (by omega)) ?_
    refine t1_35 hgo ?_
    refine t1_36 hgo ?_
    refine t1_39t hgo (lt_of (by decide : (214 : Int32).toInt = 214) rfl (by omega)) ?_
    refine t1_42 hgo ?_
    refine t1_43 hgo ?_
    refine t1_46f hgo (nlt_of rfl (by decide : (216 : Int32).toInt = 216) (by omega)) ?_
    refine t1_49 hgo ?_
    refine t1_50 hgo ?_
    refine t1_53t hgo (lt_of (by decide : (246 : Int32).toInt = 246) rfl (by omega)) ?_
    refine t1_56 hgo ?_
    refine t1_57 hgo ?_
    refine t1_60f hgo (nlt_of rfl (by decide : (248 : Int32).toInt = 248) (by omega)) ?_
    refine t1_63 hgo ?_
    refine t1_64 hgo ?_
    refine t1_67t hgo (lt_of (by decide : (767 : Int32).toInt = 767) rfl (by omega)) ?_
    refine t1_70 hgo ?_
    refine t1_71 hgo ?_
    refine t1_74f hgo (nlt_of rfl (by decide : (880 : Int32).toInt = 880) (by omega)) ?_
    refine t1_77 hgo ?_
    refine t1_78 hgo ?_
    refine t1_81t hgo (lt_of (by decide : (893 : Int32).toInt = 893) rfl (by omega)) ?_
    refine t1_84 hgo ?_
    refine t1_85 hgo ?_
    refine t1_88f hgo (nlt_of rfl (by decide : (895 : Int32).toInt = 895) (by omega)) ?_
    refine t1_91 hgo ?_
    refine t1_92 hgo ?_
    refine t1_95t hgo (lt_of (by decide : (8191 : Int32).toInt = 8191) rfl (by omega)) ?_
    refine t1_98 hgo ?_
    refine t1_99 hgo ?_
    refine t1_102f hgo (neq_of rfl (by decide : (8204 : Int32).toInt = 8204) (by omega)) ?_
    refine t1_105 hgo ?_
    refine t1_106 hgo ?_
    refine t1_109f hgo (neq_of rfl (by decide : (8205 : Int32).toInt = 8205) (by omega)) ?_
    refine t1_112 hgo ?_
    refine t1_113 hgo ?_
    refine t1_116t hgo (lt_of rfl (by decide : (8304 : Int32).toInt = 8304) (by omega)) ?_
    refine t1_126 hgo ?_
    refine t1_127 hgo ?_
    refine t1_130t hgo (lt_of rfl (by decide : (11264 : Int32).toInt = 11264) (by omega)) ?_
    refine t1_140 hgo ?_
    refine t1_141 hgo ?_
    refine t1_144t hgo (lt_of rfl (by decide : (12289 : Int32).toInt = 12289) (by omega)) ?_
    refine t1_153 hgo ?_
    refine t1_154 hgo ?_
    refine t1_156t hgo (lt_of rfl (by decide : (63744 : Int32).toInt = 63744) (by omega)) ?_
    refine t1_165 hgo ?_
    refine t1_166 hgo ?_
    refine t1_168t hgo (lt_of rfl (by decide : (65008 : Int32).toInt = 65008) (by omega)) ?_
    refine t1_177 hgo ?_
    refine t1_178 hgo ?_
    refine t1_180t hgo (lt_of rfl (by decide : (65536 : Int32).toInt = 65536) (by omega)) ?_
    refine t1_193 hgo ?_
    refine t1_194 hgo rfl ?_
    refine t1_195 hgo ?_
    refine t1_196 hgo ?_
    exact is_0
  by_cases i14 : c.toInt ≤ 8591
  · skip
    rw [if_pos (by omega)]
    refine is_of f1_in fun go hgo => ?_
    refine t1_0 hgo ?_
    refine t1_1 hgo ?_
    refine t1_4f hgo (nlt_of rfl (by decide : (128 : Int32).toInt = 128) (by omega)) ?_
    refine t1_28 hgo ?_
    refine t1_29 hgo ?_
    refine t1_32f hgo (nlt_of rfl (by decide : (192 : Int32).toInt = 192) (by omega)) ?_
    refine t1_35 hgo ?_
    refine t1_36 hgo ?_
    refine t1_39t hgo (lt_of (by decide : (214 : Int32).toInt = 214) rfl (by omega)) ?_
    refine t1_42 hgo ?_
    refine t1_43 hgo ?_
    refine t1_46f hgo (nlt_of rfl (by decide : (216 : Int32).toInt = 216) (by omega)) ?_
    refine t1_49 hgo ?_
    refine t1_50 hgo ?_
    refine t1_53t hgo (lt_of (by decide : (246 : Int32).toInt = 246) rfl (by omega)) ?_
    refine t1_56 hgo ?_
    refine t1_57 hgo ?_
    refine t1_60f hgo (nlt_of rfl (by decide : (248 : Int32).toInt = 248) (by omega)) ?_
    refine t1_63 hgo ?_
    refine t1_64 hgo ?_
    refine t1_67t hgo (lt_of (by decide : (767 : Int32).toInt = 767) rfl (by omega)) ?_
    refine t1_70 hgo ?_
    refine t1_71 hgo ?_
    refine t1_74f hgo (nlt_of rfl (by decide : (880 : Int32).toInt = 880) (by omega)) ?_
    refine t1_77 hgo ?_
    refine t1_78 hgo ?_
    refine t1_81t hgo (lt_of (by decide : (893 : Int32).toInt = 893) rfl (by omega)) ?_
    refine t1_84 hgo ?_
    refine t1_85 hgo ?_
    refine t1_88f hgo (nlt_of rfl (by decide : (895 : Int32).toInt = 895) (by omega)) ?_
    refine t1_91 hgo ?_
    refine t1_92 hgo ?_
    refine t1_95t hgo (lt_of (by decide : (8191 : Int32).toInt = 8191) rfl (by omega)) ?_
    refine t1_98 hgo ?_
    refine t1_99 hgo ?_
    refine t1_102f hgo (neq_of rfl (by decide : (8204 : Int32).toInt = 8204) (by omega)) ?_
    refine t1_105 hgo ?_
    refine t1_106 hgo ?_
    refine t1_109f hgo (neq_of rfl (by decide : (8205 : Int32).toInt = 8205) (by omega)) ?_
    refine t1_112 hgo ?_
    refine t1_113 hgo ?_
    refine t1_116f hgo (nlt_of rfl (by decide : (8304 : Int32).toInt = 8304) (by omega)) ?_
    refine t1_119 hgo ?_
    refine t1_120 hgo ?_
    refine t1_123f hgo (nlt_of (by decide : (8591 : Int32).toInt = 8591) rfl (by omega)) ?_
    refine t1_189 hgo ?_
    refine t1_190 hgo ?_
    refine t1_194 hgo rfl ?_
    refine t1_195 hgo ?_
    refine t1_196 hgo ?_
    exact is_1
  by_cases i15 : c.toInt ≤ 11263
  · skip
    rw [if_neg (by omega)]
    refine is_of f1_in fun go hgo => ?_
    refine t1_0 hgo ?_
    refine t1_1 hgo ?_
    refine t1_4f hgo (nlt_of rfl (by decide : (128 : Int32).toInt = 128) (by omega)) ?_
    refine t1_28 hgo ?_
    refine t1_29 hgo ?_
    refine t1_32f hgo (nlt_of rfl (by decide : (192 : Int32).toInt = 192) (by omega)) ?_
    refine t1_35 hgo ?_
    refine t1_36 hgo ?_
    refine t1_39t hgo (lt_of (by decide : (214 : Int32).toInt = 214) rfl (by omega)) ?_
    refine t1_42 hgo ?_
    refine t1_43 hgo ?_
    refine t1_46f hgo (nlt_of rfl (by decide : (216 : Int32).toInt = 216) (by omega)) ?_
    refine t1_49 hgo ?_
    refine t1_50 hgo ?_
    refine t1_53t hgo (lt_of (by decide : (246 : Int32).toInt = 246) rfl (by omega)) ?_
    refine t1_56 hgo ?_
    refine t1_57 hgo ?_
    refine t1_60f hgo (nlt_of rfl (by decide : (248 : Int32).toInt = 248) (by omega)) ?_
    refine t1_63 hgo ?_
    refine t1_64 hgo ?_
    refine t1_67t hgo (lt_of (by decide : (767 : Int32).toInt = 767) rfl (by omega)) ?_
    refine t1_70 hgo ?_
    refine t1_71 hgo ?_
    refine t1_74f hgo (nlt_of rfl (by decide : (880 : Int32).toInt = 880) (by omega)) ?_
    refine t1_77 hgo ?_
    refine t1_78 hgo ?_
    refine t1_81t hgo (lt_of (by decide : (893 : Int32).toInt = 893) rfl (by omega)) ?_
    refine t1_84 hgo ?_
    refine t1_85 hgo ?_
    refine t1_88f hgo (nlt_of rfl (by decide : (895 : Int32).toInt = 895) (by omega)) ?_
    refine t1_91 hgo ?_
    refine t1_92 hgo ?_
    refine t1_95t hgo (lt_of (by decide : (8191 : Int32).toInt = 8191) rfl (by omega)) ?_
    refine t1_98 hgo ?_
    refine t1_99 hgo ?_
    refine t1_102f hgo (neq_of rfl (by decide : (8204 : Int32).toInt = 8204) (by omega)) ?_
    refine t1_105 hgo ?_
    refine t1_106 hgo ?_
    refine t1_109f hgo (neq_of rfl (by decide : (8205 : Int32).toInt = 8205) (by omega)) ?_
    refine t1_112 hgo ?_
    refine t1_113 hgo ?_
    refine t1_116f hgo (nlt_of rfl (by decide : (8304 : Int32).toInt = 8304) (by omega)) ?_
    refine t1_119 hgo ?_
    refine t1_120 hgo ?_
    refine t1_123t hgo (lt_of (by decide : (8591 : Int32).toInt = 8591) rfl (by omega)) ?_
    refine t1_126 hgo ?_
    refine t1_127 hgo ?_
    refine t1_130t hgo (lt_of rfl (by decide : (11264 : Int32).toInt = 11264) (by omega)) ?_
    refine t1_140 hgo ?_
    refine t1_141 hgo ?_
    refine t1_144t hgo (lt_of rfl (by decide : (12289 : Int32).toInt = 12289) (by omega)) ?_
    refine t1_153 hgo ?_
    refine t1_154 hgo ?_
    refine t1_156t hgo (lt_of rfl (by decide : (63744 : Int32).toInt = 63744) (by omega)) ?_
    refine t1_165 hgo ?_
    refine t1_166 hgo ?_
    refine t1_168t hgo (lt_of rfl (by decide : (65008 : Int32).toInt = 65008) (by omega)) ?_
    refine t1_177 hgo ?_
    refine t1_178 hgo ?_
    refine t1_180t hgo (lt_of rfl (by decide : (65536 : Int32).toInt = 65536) (by omega)) ?_
    refine t1_193 hgo ?_
    refine t1_194 hgo rfl ?_
    refine t1_195 hgo ?_
    refine t1_196 hgo ?_
    exact is_0
  by_cases i16 : c.toInt ≤ 12271
  · skip
    rw [if_pos (by omega)]
    refine is_of f1_in fun go hgo => ?_
    refine t1_0 hgo ?_
    refine t1_1 hgo ?_
    refine t1_4f hgo (nlt_of rfl (by decide : (128 : Int32).toInt = 128) (by omega)) ?_
    refine t1_28 hgo ?_
    refine t1_29 hgo ?_
    refine t1_32f hgo (nlt_of rfl (by decide : (192 : Int32).toInt = 192) (by omega)) ?_
    refine t1_35 hgo ?_
    refine t1_36 hgo ?_
    refine t1_39t hgo (lt_of (by decide : (214 : Int32).toInt = 214) rfl (by omega)) ?_
    refine t1_42 hgo ?_
    refine t1_43 hgo ?_
    refine t1_46f hgo (nlt_of rfl (by decide : (216 : Int32).toInt = 216) (by omega)) ?_
    refine t1_49 hgo ?_
    refine t1_50 hgo ?_
    refine t1_53t hgo (lt_of (by decide : (246 : Int32).toInt = 246) rfl (by omega)) ?_
    refine t1_56 hgo ?_
    refine t1_57 hgo ?_
    refine t1_60f hgo (nlt_of rfl (by decide : (248 : Int32).toInt = 248) (by omega)) ?_
    refine t1_63 hgo ?_
    refine t1_64 hgo ?_
    refine t1_67t hgo (lt_of (by decide : (767 : Int32).toInt = 767) rfl (by omega)) ?_
    refine t1_70 hgo ?_
    refine t1_71 hgo ?_
    refine t1_74f hgo (nlt_of rfl (by decide : (880 : Int32).toInt = 880) (by omega)) ?_
    refine t1_77 hgo ?_
    refine t1_78 hgo ?_
    refine t1_81t hgo (lt_of (by decide : (893 : Int32).toInt = 893) rfl (by omega)) ?_
    refine t1_84 hgo ?_
    refine t1_85 hgo ?_
    refine t1_88f hgo (nlt_of rfl (by decide : (895 : Int32).toInt = 895) (by omega)) ?_
    refine t1_91 hgo ?_
    refine t1_92 hgo ?_
    refine t1_95t hgo (lt_of (by decide : (8191 : Int32).toInt = 8191) rfl (by omega)) ?_
    refine t1_98 hgo ?_
    refine t1_99 hgo ?_
    refine t1_102f hgo (neq_of rfl (by decide : (8204 : Int32).toInt = 8204) (by omega)) ?_
    refine t1_105 hgo ?_
    refine t1_106 hgo ?_
    refine t1_109f hgo (neq_of rfl (by decide : (8205 : Int32).toInt = 8205) (by omega)) ?_
    refine t1_112 hgo ?_
    refine t1_113 hgo ?_
    refine t1_116f hgo (nlt_of rfl (by decide : (8304 : Int32).toInt = 8304) (by omega)) ?_
    refine t1_119 hgo ?_
    refine t1_120 hgo ?_
    refine t1_123t hgo (lt_of (by decide : (8591 : Int32).toInt = 8591) rfl (by omega)) ?_
    refine t1_126 hgo ?_
    refine t1_127 hgo ?_
    refine t1_130f hgo (nlt_of rfl (by decide : (11264 : Int32).toInt = 11264) (by omega)) ?_
    refine t1_133 hgo ?_
    refine t1_134 hgo ?_
    refine t1_137f hgo (nlt_of (by decide : (12271 : Int32).toInt = 12271) rfl (by omega)) ?_
    refine t1_189 hgo ?_
    refine t1_190 hgo ?_
    refine t1_194 hgo rfl ?_
    refine t1_195 hgo ?_
    refine t1_196 hgo ?_
    exact is_1
  by_cases i17 : c.toInt ≤ 12288
  · skip
    rw [if_neg (by omega)]
    refine is_of f1_in fun go hgo => ?_
    refine t1_0 hgo ?_
    refine t1_1 hgo ?_
    refine t1_4f hgo (nlt_of rfl (by decide : (128 : Int32).toInt = 128) (by omega)) ?_
    refine t1_28 hgo ?_
    refine t1_29 hgo ?_
    refine t1_32f hgo (nlt_of rfl (by decide : (192 : Int32).toInt = 192) (by omega)) ?_
    refine t1_35 hgo ?_
    refine t1_36 hgo ?_
    refine t1_39t hgo (lt_of (by decide : (214 : Int32).toInt = 214) rfl (by omega)) ?_
    refine t1_42 hgo ?_
    refine t1_43 hgo ?_
    refine t1_46f hgo (nlt_of rfl (by decide : (216 : Int32).toInt = 216) (by omega)) ?_
    refine t1_49 hgo ?_
    refine t1_50 hgo ?_
    refine t1_53t hgo (lt_of (by decide : (246 : Int32).toInt = 246) rfl (by omega)) ?_
    refine t1_56 hgo ?_
    refine t1_57 hgo ?_
    refine t1_60f hgo (nlt_of rfl (by decide : (248 : Int32).toInt = 248) (by omega)) ?_
    refine t1_63 hgo ?_
    refine t1_64 hgo ?_
    refine t1_67t hgo (lt_of (by decide : (767 : Int32).toInt = 767) rfl (by omega)) ?_
    refine t1_70 hgo ?_
    refine t1_71 hgo ?_
    refine t1_74f hgo (nlt_of rfl (by decide : (880 : Int32).toInt = 880) (by omega)) ?_
    refine t1_77 hgo ?_
    refine t1_78 hgo ?_
    refine t1_81t hgo (lt_of (by decide : (893 : Int32).toInt = 893) rfl (by omega)) ?_
    refine t1_84 hgo ?_
    refine t1_85 hgo ?_
    refine t1_88f hgo (nlt_of rfl (by decide : (895 : Int32).toInt = 895) (by omega)) ?_
    refine t1_91 hgo ?_
    refine t1_92 hgo ?_
    refine t1_95t hgo (lt_of (by decide : (8191 : Int32).toInt = 8191) rfl (by omega)) ?_
    refine t1_98 hgo ?_
    refine t1_99 hgo ?_
    refine t1_102f hgo (neq_of rfl (by decide : (8204 : Int32).toInt = 8204) (by omega)) ?_
    refine t1_105 hgo ?_
    refine t1_106 hgo ?_
    refine t1_109f hgo (neq_of rfl (by decide : (8205 : Int32).toInt = 8205) (by omega)) ?_
    refine t1_112 hgo ?_
    refine t1_113 hgo ?_
    refine t1_116f hgo (nlt_of rfl (by decide : (8304 : Int32).toInt = 8304) (by omega)) ?_
    refine t1_119 hgo ?_
    refine t1_120 hgo ?_
    refine t1_123t hgo (lt_of (by decide : (8591 : Int32).toInt = 8591) rfl (by omega)) ?_
    refine t1_126 hgo ?_
    refine t1_127 hgo ?_
    refine t1_130f hgo (nlt_of rfl (by decide : (11264 : Int32).toInt = 11264) (by omega)) ?_
    refine t1_133 hgo ?_
    refine t1_134 hgo ?_
    refine t1_137t hgo (lt_of (by decide : (12271 : Int32).toInt = 12271) rfl (by omega)) ?_
    refine t1_140 hgo ?_
    refine t1_141 hgo ?_
    refine t1_144t hgo (lt_of rfl (by decide : (12289 : Int32).toInt = 12289) (by omega)) ?_
    refine t1_153 hgo ?_
    refine t1_154 hgo ?_
    refine t1_156t hgo (lt_of rfl (by decide : (63744 : Int32).toInt = 63744) (by omega)) ?_
    refine t1_165 hgo ?_
    refine t1_166 hgo ?_
    refine t1_168t hgo (lt_of rfl (by decide : (65008 : Int32).toInt = 65008) (by omega)) ?_
    refine t1_177 hgo ?_
    refine t1_178 hgo ?_
    refine t1_180t hgo (lt_of rfl (by decide : (65536 : Int32).toInt = 65536) (by omega)) ?_
    refine t1_193 hgo ?_
    refine t1_194 hgo rfl ?_
    refine t1_195 hgo ?_
    refine t1_196 hgo ?_
    exact is_0
  by_cases i18 : c.toInt ≤ 55295
  · skip
    rw [if_pos (by omega)]
    refine is_of f1_in fun go hgo => ?_
    refine t1_0 hgo ?_
    refine t1_1 hgo ?_
    refine t1_4f hgo (nlt_of rfl (by decide : (128 : Int32).toInt = 128) (by omega)) ?_
    refine t1_28 hgo ?_
    refine t1_29 hgo ?_
    refine t1_32f hgo (nlt_of rfl (by decide : (192 : Int32).toInt = 192) (by omega)) ?_
    refine t1_35 hgo ?_
    refine t1_36 hgo ?_
    refine t1_39t hgo (lt_of (by decide : (214 : Int32).toInt = 214) rfl (by omega)) ?_
    refine t1_42 hgo ?_
    refine t1_43 hgo ?_
    refine t1_46f hgo (nlt_of rfl (by decide : (216 : Int32).toInt = 216) (by omega)) ?_
    refine t1_49 hgo ?_
    refine t1_50 hgo ?_
    refine t1_53t hgo (lt_of (by decide : (246 : Int32).toInt = 246) rfl (by omega)) ?_
    refine t1_56 hgo ?_
    refine t1_57 hgo ?_
    refine t1_60f hgo (nlt_of rfl (by decide : (248 : Int32).toInt = 248) (by omega)) ?_
    refine t1_63 hgo ?_
    refine t1_64 hgo ?_
    refine t1_67t hgo (lt_of (by decide : (767 : Int32).toInt = 767) rfl (by omega)) ?_
    refine t1_70 hgo ?_
    refine t1_71 hgo ?_
    refine t1_74f hgo (nlt_of rfl (by decide : (880 : Int32).toInt = 880) (by omega)) ?_
    refine t1_77 hgo ?_
    refine t1_78 hgo ?_
    refine t1_81t hgo (lt_of (by decide : (893 : Int32).toInt = 893) rfl (by omega)) ?_
    refine t1_84 hgo ?_
    refine t1_85 hgo ?_
    refine t1_88f hgo (nlt_of rfl (by decide : (895 : Int32).toInt = 895) (by omega)) ?_
    refine t1_91 hgo ?_
    refine t1_92 hgo ?_
    refine t1_95t hgo (lt_of (by decide : (8191 : Int32).toInt = 8191) rfl (by omega)) ?_
    refine t1_98 hgo ?_
    refine t1_99 hgo ?_
    refine t1_102f hgo (neq_of rfl (by decide : (8204 : Int32).toInt = 8204) (by omega)) ?_
    refine t1_105 hgo ?_
    refine t1_106 hgo ?_
    refine t1_109f hgo (neq_of rfl (by decide : (8205 : Int32).toInt = 8205) (by omega)) ?_
    refine t1_112 hgo ?_
    refine t1_113 hgo ?_
    refine t1_116f hgo (nlt_of rfl (by decide : (8304 : Int32).toInt = 8304) (by omega)) ?_
    refine t1_119 hgo ?_
    refine t1_120 hgo ?_
    refine t1_123t hgo (lt_of (by decide : (8591 : Int32).toInt = 8591) rfl (by omega)) ?_
    refine t1_126 hgo ?_
    refine t1_127 hgo ?_
    refine t1_130f hgo (nlt_of rfl (by decide : (11264 : Int32).toInt = 11264) (by omega)) ?_
    refine t1_133 hgo ?_
    refine t1_134 hgo ?_
    refine t1_137t hgo (lt_of (by decide : (12271 : Int32).toInt = 12271) rfl (by omega)) ?_
    refine t1_140 hgo ?_
    refine t1_141 hgo ?_
    refine t1_144f hgo (nlt_of rfl (by decide : (12289 : Int32).toInt = 12289) (by omega)) ?_
    refine t1_147 hgo ?_
    refine t1_148 hgo ?_
    refine t1_150f hgo (nlt_of (by decide : (55295 : Int32).toInt = 55295) rfl (by omega)) ?_
    refine t1_189 hgo ?_
    refine t1_190 hgo ?_
    refine t1_194 hgo rfl ?_
    refine t1_195 hgo ?_
    refine t1_196 hgo ?_
    exact is_1
  by_cases i19 : c.toInt ≤ 63743
  · skip
    rw [if_neg (by omega)]
    refine is_of f1_in fun go hgo => ?_
    refine t1_0 hgo ?_
    refine t1_1 hgo ?_
    refine t1_4f hgo (nlt_of rfl (by decide : (128 : Int32).toInt = 128) (by omega)) ?_
    refine t1_28 hgo ?_
    refine t1_29 hgo ?_
    refine t1_32f hgo (nlt_of rfl (by decide : (192 : Int32).toInt = 192) (by omega)) ?_
    refine t1_35 hgo ?_
    refine t1_36 hgo ?_
    refine t1_39t hgo (lt_of (by decide : (214 : Int32).toInt = 214) rfl (by omega)) ?_
    refine t1_42 hgo ?_
    refine t1_43 hgo ?_
    refine t1_46f hgo (nlt_of rfl (by decide : (216 : Int32).toInt = 216) (by omega)) ?_
    refine t1_49 hgo ?_
    refine t1_50 hgo ?_
    refine t1_53t hgo (lt_of (by decide : (246 : Int32).toInt = 246) rfl (by omega)) ?_
    refine t1_56 hgo ?_
    refine t1_57 hgo ?_
    refine t1_60f hgo (nlt_of rfl (by decide : (248 : Int32).toInt = 248) (by omega)) ?_
    refine t1_63 hgo ?_
    refine t1_64 hgo ?_
    refine t1_67t hgo (lt_of (by decide : (767 : Int32).toInt = 767) rfl (by omega)) ?_
    refine t1_70 hgo ?_
    refine t1_71 hgo ?_
    refine t1_74f hgo (nlt_of rfl (by decide : (880 : Int32).toInt = 880) (by omega)) ?_
    refine t1_77 hgo ?_
    refine t1_78 hgo ?_
    refine t1_81t hgo (lt_of (by decide : (893 : Int32).toInt = 893) rfl (by omega)) ?_
    refine t1_84 hgo ?_
    refine t1_85 hgo ?_
    refine t1_88f hgo (nlt_of rfl (by decide : (895 : Int32).toInt = 895) (by omega)) ?_
    refine t1_91 hgo ?_
    refine t1_92 hgo ?_
    refine t1_95t hgo (lt_of (by decide : (8191 : Int32).toInt = 8191) rfl (by omega)) ?_
    refine t1_98 hgo ?_
    refine t1_99 hgo ?_
    refine t1_102f hgo (neq_of rfl (by decide : (8204 : Int32).toInt = 8204) (by omega)) ?_
    refine t1_105 hgo ?_
    refine t1_106 hgo ?_
    refine t1_109f hgo (neq_of rfl (by decide : (8205 : Int32).toInt = 8205) (by omega)) ?_
    refine t1_112 hgo ?_
    refine t1_113 hgo ?_
    refine t1_116f hgo (nlt_of rfl (by decide : (8304 : Int32).toInt = 8304) (by omega)) ?_
    refine t1_119 hgo ?_
    refine t1_120 hgo ?_
    refine t1_123t hgo (lt_of (by decide : (8591 : Int32).toInt = 8591) rfl (by omega)) ?_
    refine t1_126 hgo ?_
    refine t1_127 hgo ?_
    refine t1_130f hgo (nlt_of rfl (by decide : (11264 : Int32).toInt = 11264) (by omega)) ?_
    refine t1_133 hgo ?_
    refine t1_134 hgo ?_
    refine t1_137t hgo (lt_of (by decide : (12271 : Int32).toInt = 12271) rfl (by omega)) ?_
    refine t1_140 hgo ?_
    refine t1_141 hgo ?_
    refine t1_144f hgo (nlt_of rfl (by decide : (12289 : Int32).toInt = 12289) (by omega)) ?_
    refine t1_147 hgo ?_
    refine t1_148 hgo ?_
    refine t1_150t hgo (lt_of (by decide : (55295 : Int32).toInt = 55295) rfl (by omega)) ?_
    refine t1_153 hgo ?_
    refine t1_154 hgo ?_
    refine t1_156t hgo (lt_of rfl (by decide : (63744 : Int32).toInt = 63744) (by omega)) ?_
    refine t1_165 hgo ?_
    refine t1_166 hgo ?_
    refine t1_168t hgo (lt_of rfl (by decide : (65008 : Int32).toInt = 65008) (by omega)) ?_
    refine t1_177 hgo ?_
    refine t1_178 hgo ?_
    refine t1_180t hgo (lt_of rfl (by decide : (65536 : Int32).toInt = 65536) (by omega)) ?_
    refine t1_193 hgo ?_
    refine t1_194 hgo rfl ?_
    refine t1_195 hgo ?_
    refine t1_196 hgo ?_
    exact is_0
  by_cases i20 : c.toInt ≤ 64975
  · skip
    rw [if_pos (by omega)]
    refine is_of f1_in fun go hgo => ?_
    refine t1_0 hgo ?_
    refine t1_1 hgo ?_
    refine t1_4f hgo (nlt_of rfl (by decide : (128 : Int32).toInt = 128) (by omega)) ?_
    refine t1_28 hgo ?_
    refine t1_29 hgo ?_
    refine t1_32f hgo (nlt_of rfl (by decide : (192 : Int32).toInt = 192) (by omega)) ?_
    refine t1_35 hgo ?_
    refine t1_36 hgo ?_
    refine t1_39t hgo (lt_of (by decide : (214 : Int32).toInt = 214) rfl (by omega)) ?_
    refine t1_42 hgo ?_
    refine t1_43 hgo ?_
    refine t1_46f hgo (nlt_of rfl (by decide : (216 : Int32).toInt = 216) (by omega)) ?_
    refine t1_49 hgo ?_
    refine t1_50 hgo ?_
    refine t1_53t hgo (lt_of (by decide : (246 : Int32).toInt = 246) rfl (by omega)) ?_
    refine t1_56 hgo ?_
    refine t1_57 hgo ?_
    refine t1_60f hgo (nlt_of rfl (by decide : (248 : Int32).toInt = 248) (by omega)) ?_
    refine t1_63 hgo ?_
    refine t1_64 hgo ?_
    refine t1_67t hgo (lt_of (by decide : (767 : Int32).toInt = 767) rfl (by omega)) ?_
    refine t1_70 hgo ?_
    refine t1_71 hgo ?_
    refine t1_74f hgo (nlt_of rfl (by decide : (880 : Int32).toInt = 880) (by omega)) ?_
    refine t1_77 hgo ?_
    refine t1_78 hgo ?_
    refine t1_81t hgo (lt_of (by decide : (893 : Int32).toInt = 893) rfl (by omega)) ?_
    refine t1_84 hgo ?_
    refine t1_85 hgo ?_
    refine t1_88f hgo (nlt_of rfl (by decide : (895 : Int32).toInt = 895) (by omega)) ?_
    refine t1_91 hgo ?_
    refine t1_92 hgo ?_
    refine t1_95t hgo (lt_of (by decide : (8191 : Int32).toInt = 8191) rfl (by omega)) ?_
    refine t1_98 hgo ?_
    refine t1_99 hgo ?_
    refine t1_102f hgo (neq_of rfl (by decide : (8204 : Int32).toInt = 8204) (by omega)) ?_
    refine t1_105 hgo ?_
    refine t1_106 hgo ?_
    refine t1_109f hgo (neq_of rfl (by decide : (8205 : Int32).toInt = 8205) (by omega)) ?_
    refine t1_112 hgo ?_
    refine t1_113 hgo ?_
    refine t1_116f hgo (nlt_of rfl (by decide : (8304 : Int32).toInt = 8304) (by omega)) ?_
    refine t1_119 hgo ?_
    refine t1_120 hgo ?_
    refine t1_123t hgo (lt_of (by decide : (8591 : Int32).toInt = 8591) rfl (by omega)) ?_
    refine t1_126 hgo ?_
    refine t1_127 hgo ?_
    refine t1_130f hgo (nlt_of rfl (by decide : (11264 : Int32).toInt = 11264) (by omega)) ?_
    refine t1_133 hgo ?_
    refine t1_134 hgo ?_
    refine t1_137t hgo (lt_of (by decide : (12271 : Int32).toInt = 12271) rfl (by omega)) ?_
    refine t1_140 hgo ?_
    refine t1_141 hgo ?_
    refine t1_144f hgo (nlt_of rfl (by decide : (12289 : Int32).toInt = 12289) (by omega)) ?_
    refine t1_147 hgo ?_
    refine t1_148 hgo ?_
    refine t1_150t hgo (lt_of (by decide : (55295 : Int32).toInt = 55295) rfl (by omega)) ?_
    refine t1_153 hgo ?_
    refine t1_154 hgo ?_
    refine t1_156f hgo (nlt_of rfl (by decide : (63744 : Int32).toInt = 63744) (by omega)) ?_
    refine t1_159 hgo ?_
    refine t1_160 hgo ?_
    refine t1_162f hgo (nlt_of (by decide : (64975 : Int32).toInt = 64975) rfl (by omega)) ?_
    refine t1_189 hgo ?_
    refine t1_190 hgo ?_
    refine t1_194 hgo rfl ?_
    refine t1_195 hgo ?_
    refine t1_196 hgo ?_
    exact is_1
  by_cases i21 : c.toInt ≤ 65007
  · skip
    rw [if_neg (by omega)]
    refine is_of f1_in fun go hgo => ?_
    refine t1_0 hgo ?_
    refine t1_1 hgo ?_
    refine t1_4f hgo (nlt_of rfl (by decide : (128 : Int32).toInt = 128) (by omega)) ?_
    refine t1_28 hgo ?_
    refine t1_29 hgo ?_
    refine t1_32f hgo (nlt_of rfl (by decide : (192 : Int32).toInt = 192) (by omega)) ?_
    refine t1_35 hgo ?_
    refine t1_36 hgo ?_
    refine t1_39t hgo (lt_of (by decide : (214 : Int32).toInt = 214) rfl (by omega)) ?_
    refine t1_42 hgo ?_
    refine t1_43 hgo ?_
    refine t1_46f hgo (nlt_of rfl (by decide : (216 : Int32).toInt = 216) (by omega)) ?_
    refine t1_49 hgo ?_
    refine t1_50 hgo ?_
    refine t1_53t hgo (lt_of (by decide : (246 : Int32).toInt = 246) rfl (by omega)) ?_
    refine t1_56 hgo ?_
    refine t1_57 hgo ?_
    refine t1_60f hgo (nlt_of rfl (by decide : (248 : Int32).toInt = 248) (by omega)) ?_
    refine t1_63 hgo ?_
    refine t1_64 hgo ?_
    refine t1_67t hgo (lt_of (by decide : (767 : Int32).toInt = 767) rfl (by omega)) ?_
    refine t1_70 hgo ?_
    refine t1_71 hgo ?_
    refine t1_74f hgo (nlt_of rfl (by decide : (880 : Int32).toInt = 880) (by omega)) ?_
    refine t1_77 hgo ?_
    refine t1_78 hgo ?_
    refine t1_81t hgo (lt_of (by decide : (893 : Int32).toInt = 893) rfl (by omega)) ?_
    refine t1_84 hgo ?_
    refine t1_85 hgo ?_
    refine t1_88f hgo (nlt_of rfl (by decide : (895 : Int32).toInt = 895) (by omega)) ?_
    refine t1_91 hgo ?_
    refine t1_92 hgo ?_
    refine t1_95t hgo (lt_of (by decide : (8191 : Int32).toInt = 8191) rfl (by omega)) ?_
    refine t1_98 hgo ?_
    refine t1_99 hgo ?_
    refine t1_102f hgo (neq_of rfl (by decide : (8204 : Int32).toInt = 8204) (by omega)) ?_
    refine t1_105 hgo ?_
    refine t1_106 hgo ?_
    refine t1_109f hgo (neq_of rfl (by decide : (8205 : Int32).toInt = 8205) (by omega)) ?_
    refine t1_112 hgo ?_
    refine t1_113 hgo ?_
    refine t1_116f hgo (nlt_of rfl (by decide : (8304 : Int32).toInt = 8304) (by omega)) ?_
    refine t1_119 hgo ?_
    refine t1_120 hgo ?_
    refine t1_123t hgo (lt_of (by decide : (8591 : Int32).toInt = 8591) rfl (by omega)) ?_
    refine t1_126 hgo ?_
    refine t1_127 hgo ?_
    refine t1_130f hgo (nlt_of rfl (by decide : (11264 : Int32).toInt = 11264) (by omega)) ?_
    refine t1_133 hgo ?_
    refine t1_134 hgo ?_
    refine t1_137t hgo (lt_of (by decide : (12271 : Int32).toInt = 12271) rfl (by omega)) ?_
    refine t1_140 hgo ?_
    refine t1_141 hgo ?_
    refine t1_144f hgo (nlt_of rfl (by decide : (12289 : Int32).toInt = 12289) (by omega)) ?_
    refine t1_147 hgo ?_
    refine t1_148 hgo ?_
    refine t1_150t hgo (lt_of (by decide : (55295 : Int32).toInt = 55295) rfl (by omega)) ?_
    refine t1_153 hgo ?_
    refine t1_154 hgo ?_
    refine t1_156f hgo (nlt_of rfl (by decide : (63744 : Int32).toInt = 63744) (by omega)) ?_
    refine t1_159 hgo ?_
    refine t1_160 hgo ?_
    refine t1_162t hgo (lt_of (by decide : (64975 : Int32).toInt = 64975) rfl (by omega)) ?_
    refine t1_165 hgo ?_
    refine t1_166 hgo ?_
    refine t1_168t hgo (lt_of rfl (by decide : (65008 : Int32).toInt = 65008) (by omega)) ?_
    refine t1_177 hgo ?_
    refine t1_178 hgo ?_
    refine t1_180t hgo (lt_of rfl (by decide : (65536 : Int32).toInt = 65536) (by omega)) ?_
    refine t1_193 hgo ?_
    refine t1_194 hgo rfl ?_
    refine t1_195 hgo ?_
    refine t1_196 hgo ?_
    exact is_0
  by_cases i22 : c.toInt ≤ 65533
  · skip
    rw [if_pos (by omega)]
    refine is_of f1_in fun go hgo => ?_
    refine t1_0 hgo ?_
    refine t1_1 hgo ?_
    refine t1_4f hgo (nlt_of rfl (by decide : (128 : Int32).toInt = 128) (by omega)) ?_
    refine t1_28 hgo ?_
    refine t1_29 hgo ?_
    refine t1_32f hgo (nlt_of rfl (by decide : (192 : Int32).toInt = 192) (by omega)) ?_
    refine t1_35 hgo ?_
    refine t1_36 hgo ?_
    refine t1_39t hgo (lt_of (by decide : (214 : Int32).toInt = 214) rfl (by omega)) ?_
    refine t1_42 hgo ?_
    refine t1_43 hgo ?_
    refine t1_46f hgo (nlt_of rfl (by decide : (216 : Int32).toInt = 216) (by omega)) ?_
    refine t1_49 hgo ?_
    refine t1_50 hgo ?_
    refine t1_53t hgo (lt_of (by decide : (246 : Int32).toInt = 246) rfl (by omega)) ?_
    refine t1_56 hgo ?_
    refine t1_57 hgo ?_
    refine t1_60f hgo (nlt_of rfl (by decide : (248 : Int32).toInt = 248) (by omega)) ?_
    refine t1_63 hgo ?_
    refine t1_64 hgo ?_
    refine t1_67t hgo (lt_of (by decide : (767 : Int32).toInt = 767) rfl (by omega)) ?_
    refine t1_70 hgo ?_
    refine t1_71 hgo ?_
    refine t1_74f hgo (nlt_of rfl (by decide : (880 : Int32).toInt = 880) (by omega)) ?_
    refine t1_77 hgo ?_
    refine t1_78 hgo ?_
    refine t1_81t hgo (lt_of (by decide : (893 : Int32).toInt = 893) rfl (by omega)) ?_
    refine t1_84 hgo ?_
    refine t1_85 hgo ?_
    refine t1_88f hgo (nlt_of rfl (by decide : (895 : Int32).toInt = 895) (by omega)) ?_
    refine t1_91 hgo ?_
    refine t1_92 hgo ?_
    refine t1_95t hgo (lt_of (by decide : (8191 : Int32).toInt = 8191) rfl (by omega)) ?_
    refine t1_98 hgo ?_
    refine t1_99 hgo ?_
    refine t1_102f hgo (neq_of rfl (by decide : (8204 : Int32).toInt = 8204) (by omega)) ?_
    refine t1_105 hgo ?_
    refine t1_106 hgo ?_
    refine t1_109f hgo (neq_of rfl (by decide : (8205 : Int32).toInt = 8205) (by omega)) ?_
    refine t1_112 hgo ?_
    refine t1_113 hgo ?_
    refine t1_116f hgo (nlt_of rfl (by decide : (8304 : Int32).toInt = 8304) (by omega)) ?_
    refine t1_119 hgo ?_
    refine t1_120 hgo ?_
    refine t1_123t hgo (lt_of (by decide : (8591 : Int32).toInt = 8591) rfl (by omega)) ?_
    refine t1_126 hgo ?_
    refine t1_127 hgo ?_
    refine t1_130f hgo (nlt_of rfl (by decide : (11264 : Int32).toInt = 11264) (by omega)) ?_
    refine t1_133 hgo ?_
    refine t1_134 hgo ?_
    refine t1_137t hgo (lt_of (by decide : (12271 : Int32).toInt = 12271) rfl (by omega)) ?_
    refine t1_140 hgo ?_
    refine t1_141 hgo ?_
    refine t1_144f hgo (nlt_of rfl (by decide : (12289 : Int32).toInt = 12289) (by omega)) ?_
    refine t1_147 hgo ?_
    refine t1_148 hgo ?_
    refine t1_150t hgo (lt_of (by decide : (55295 : Int32).toInt = 55295) rfl (by omega)) ?_
    refine t1_153 hgo ?_
    refine t1_154 hgo ?_
    refine t1_156f hgo (nlt_of rfl (by decide : (63744 : Int32).toInt = 63744) (by omega)) ?_
    refine t1_159 hgo ?_
    refine t1_160 hgo ?_
    refine t1_162t hgo (lt_of (by decide : (64975 : Int32).toInt = 64975) rfl (by omega)) ?_
    refine t1_165 hgo ?_
    refine t1_166 hgo ?_
    refine t1_168f hgo (nlt_of rfl (by decide : (65008 : Int32).toInt = 65008) (by omega)) ?_
    refine t1_171 hgo ?_
    refine t1_172 hgo ?_
    refine t1_174f hgo (nlt_of (by decide : (65533 : Int32).toInt = 65533) rfl (by omega)) ?_
    refine t1_189 hgo ?_
    refine t1_190 hgo ?_
    refine t1_194 hgo rfl ?_
    refine t1_195 hgo ?_
    refine t1_196 hgo ?_
    exact is_1
  by_cases i23 : c.toInt ≤ 65535
  · skip
    rw [if_neg (by omega)]
    refine is_of f1_in fun go hgo => ?_
    refine t1_0 hgo ?_
    refine t1_1 hgo ?_
    refine t1_4f hgo (nlt_of rfl (by decide : (128 : Int32).toInt = 128) (by omega)) ?_
    refine t1_28 hgo ?_
    refine t1_29 hgo ?_
    refine t1_32f hgo (nlt_of rfl (by decide : (192 : Int32).toInt = 192) (by omega)) ?_
    refine t1_35 hgo ?_
    refine t1_36 hgo ?_
    refine t1_39t hgo (lt_of (by decide : (214 : Int32).toInt = 214) rfl (by omega)) ?_
    refine t1_42 hgo ?_
    refine t1_43 hgo ?_
    refine t1_46f hgo (nlt_of rfl (by decide : (216 : Int32).toInt = 216) (by omega)) ?_
    refine t1_49 hgo ?_
    refine t1_50 hgo ?_
    refine t1_53t hgo (lt_of (by decide : (246 : Int32).toInt = 246) rfl (by omega)) ?_
    refine t1_56 hgo ?_
    refine t1_57 hgo ?_
    refine t1_60f hgo (nlt_of rfl (by decide : (248 : Int32).toInt = 248) (by omega)) ?_
    refine t1_63 hgo ?_
    refine t1_64 hgo ?_
    refine t1_67t hgo (lt_of (by decide : (767 : Int32).toInt = 767) rfl (by omega)) ?_
    refine t1_70 hgo ?_
    refine t1_71 hgo ?_
    refine t1_74f hgo (nlt_of rfl (by decide : (880 : Int32).toInt = 880) (by omega)) ?_
    refine t1_77 hgo ?_
    refine t1_78 hgo ?_
    refine t1_81t hgo (lt_of (by decide : (893 : Int32).toInt = 893) rfl (by omega)) ?_
    refine t1_84 hgo ?_
    refine t1_85 hgo ?_
    refine t1_88f hgo (nlt_of rfl (by decide : (895 : Int32).toInt = 895) (by omega)) ?_
    refine t1_91 hgo ?_
    refine t1_92 hgo ?_
    refine t1_95t hgo (lt_of (by decide : (8191 : Int32).toInt = 8191) rfl (by omega)) ?_
    refine t1_98 hgo ?_
    refine t1_99 hgo ?_
    refine t1_102f hgo (neq_of rfl (by decide : (8204 : Int32).toInt = 8204) (by omega)) ?_
    refine t1_105 hgo ?_
    refine t1_106 hgo ?_
    refine t1_109f hgo (neq_of rfl (by decide : (8205 : Int32).toInt = 8205) (by omega)) ?_
    refine t1_112 hgo ?_
    refine t1_113 hgo ?_
    refine t1_116f hgo (nlt_of rfl (by decide : (8304 : Int32).toInt = 8304) (by omega)) ?_
    refine t1_119 hgo ?_
    refine t1_120 hgo ?_
    refine t1_123t hgo (lt_of (by decide : (8591 : Int32).toInt = 8591) rfl (by omega)) ?_
    refine t1_126 hgo ?_
    refine t1_127 hgo ?_
    refine t1_130f hgo (nlt_of rfl (by decide : (11264 : Int32).toInt = 11264) (by omega)) ?_
    refine t1_133 hgo ?_
    refine t1_134 hgo ?_
    refine t1_137t hgo (lt_of (by decide : (12271 : Int32).toInt = 12271) rfl (by omega)) ?_
    refine t1_140 hgo ?_
    refine t1_141 hgo ?_
    refine t1_144f hgo (nlt_of rfl (by decide : (12289 : Int32).toInt = 12289) (by omega)) ?_
    refine t1_147 hgo ?_
    refine t1_148 hgo ?_
    refine t1_150t hgo (lt_of (by decide : (55295 : Int32).toInt = 55295) rfl (by omega)) ?_
    refine t1_153 hgo ?_
    refine t1_154 hgo ?_
    refine t1_156f hgo (nlt_of rfl (by decide : (63744 : Int32).toInt = 63744) (by omega)) ?_
    refine t1_159 hgo ?_
    refine t1_160 hgo ?_
    refine t1_162t hgo (lt_of (by decide : (64975 : Int32).toInt = 64975) rfl (by omega)) ?_
    refine t1_165 hgo ?_
    refine t1_166 hgo ?_
    refine t1_168f hgo (nlt_of rfl (by decide : (65008 : Int32).toInt = 65008) (by omega)) ?_
    refine t1_171 hgo ?_
    refine t1_172 hgo ?_
    refine t1_174t hgo (lt_of (by decide : (65533 : Int32).toInt = 65533) rfl (by omega)) ?_
    refine t1_177 hgo ?_
    refine t1_178 hgo ?_
    refine t1_180t hgo (lt_of rfl (by decide : (65536 : Int32).toInt = 65536) (by omega)) ?_
    refine t1_193 hgo ?_
    refine t1_194 hgo rfl ?_
    refine t1_195 hgo ?_
    refine t1_196 hgo ?_
    exact is_0
  by_cases i24 : c.toInt ≤ 983039
  · skip
    rw [if_pos (by omega)]
    refine is_of f1_in fun go hgo => ?_
    refine t1_0 hgo ?_
    refine t1_1 hgo ?_
    refine t1_4f hgo (nlt_of rfl (by decide : (128 : Int32).toInt = 128) (by omega)) ?_
    refine t1_28 hgo ?_
    refine t1_29 hgo ?_
    refine t1_32f hgo (nlt_of rfl (by decide : (192 : Int32).toInt = 192) (by omega)) ?_
    refine t1_35 hgo ?_
    refine t1_36 hgo ?_
    refine t1_39t hgo (lt_of (by decide : (214 : Int32).toInt = 214) rfl (by omega)) ?_
    refine t1_42 hgo ?_
    refine t1_43 hgo ?_
    refine t1_46f hgo (nlt_of rfl (by decide : (216 : Int32).toInt = 216) (by omega)) ?_
    refine t1_49 hgo ?_
    refine t1_50 hgo ?_
    refine t1_53t hgo (lt_of (by decide : (246 : Int32).toInt = 246) rfl (by omega)) ?_
    refine t1_56 hgo ?_
    refine t1_57 hgo ?_
    refine t1_60f hgo (nlt_of rfl (by decide : (248 : Int32).toInt = 248) (by omega)) ?_
    refine t1_63 hgo ?_
    refine t1_64 hgo ?_
    refine t1_67t hgo (lt_of (by decide : (767 : Int32).toInt = 767) rfl (by omega)) ?_
    refine t1_70 hgo ?_
    refine t1_71 hgo ?_
    refine t1_74f hgo (nlt_of rfl (by decide : (880 : Int32).toInt = 880) (by omega)) ?_
    refine t1_77 hgo ?_
    refine t1_78 hgo ?_
    refine t1_81t hgo (lt_of (by decide : (893 : Int32).toInt = 893) rfl (by omega)) ?_
    refine t1_84 hgo ?_
    refine t1_85 hgo ?_
    refine t1_88f hgo (nlt_of rfl (by decide : (895 : Int32).toInt = 895) (by omega)) ?_
    refine t1_91 hgo ?_
    refine t1_92 hgo ?_
    refine t1_95t hgo (lt_of (by decide : (8191 : Int32).toInt = 8191) rfl (by omega)) ?_
    refine t1_98 hgo ?_
    refine t1_99 hgo ?_
    refine t1_102f hgo (neq_of rfl (by decide : (8204 : Int32).toInt = 8204) (by omega)) ?_
    refine t1_105 hgo ?_
    refine t1_106 hgo ?_
    refine t1_109f hgo (neq_of rfl (by decide : (8205 : Int32).toInt = 8205) (by omega)) ?_
    refine t1_112 hgo ?_
    refine t1_113 hgo ?_
    refine t1_116f hgo (nlt_of rfl (by decide : (8304 : Int32).toInt = 8304) (by omega)) ?_
    refine t1_119 hgo ?_
    refine t1_120 hgo ?_
    refine t1_123t hgo (lt_of (by decide : (8591 : Int32).toInt = 8591) rfl (by omega)) ?_
    refine t1_126 hgo ?_
    refine t1_127 hgo ?_
    refine t1_130f hgo (nlt_of rfl (by decide : (11264 : Int32).toInt = 11264) (by omega)) ?_
    refine t1_133 hgo ?_
    refine t1_134 hgo ?_
    refine t1_137t hgo (lt_of (by decide : (12271 : Int32).toInt = 12271) rfl (by omega)) ?_
    refine t1_140 hgo ?_
    refine t1_141 hgo ?_
    refine t1_144f hgo (nlt_of rfl (by decide : (12289 : Int32).toInt = 12289) (by omega)) ?_
    refine t1_147 hgo ?_
    refine t1_148 hgo ?_
    refine t1_150t hgo (lt_of (by decide : (55295 : Int32).toInt = 55295) rfl (by omega)) ?_
    refine t1_153 hgo ?_
    refine t1_154 hgo ?_
    refine t1_156f hgo (nlt_of rfl (by decide : (63744 : Int32).toInt = 63744) (by omega)) ?_
    refine t1_159 hgo ?_
    refine t1_160 hgo ?_
    refine t1_162t hgo (lt_of (by decide : (64975 : Int32).toInt = 64975) rfl (by omega)) ?_
    refine t1_165 hgo ?_
    refine t1_166 hgo ?_
    refine t1_168f hgo (nlt_of rfl (by decide : (65008 : Int32).toInt = 65008) (by omega)) ?_
    refine t1_171 hgo ?_
    refine t1_172 hgo ?_
    refine t1_174t hgo (lt_of (by decide : (65533 : Int32).toInt = 65533) rfl (by omega)) ?_
    refine t1_177 hgo ?_
    refine t1_178 hgo ?_
    refine t1_180f hgo (nlt_of rfl (by decide : (65536 : Int32).toInt = 65536) (by omega)) ?_
    refine t1_183 hgo ?_
    refine t1_184 hgo ?_
    refine t1_186f hgo (nlt_of (by decide : (983039 : Int32).toInt = 983039) rfl (by omega)) ?_
    refine t1_189 hgo ?_
    refine t1_190 hgo ?_
    refine t1_194 hgo rfl ?_
    refine t1_195 hgo ?_
    refine t1_196 hgo ?_
    exact is_1
  · skip
    rw [if_neg (by omega)]
    refine is_of f1_in fun go hgo => ?_
    refine t1_0 hgo ?_
    refine t1_1 hgo ?_
    refine t1_4f hgo (nlt_of rfl (by decide : (128 : Int32).toInt = 128) (by omega)) ?_
    refine t1_28 hgo ?_
    refine t1_29 hgo ?_
    refine t1_32f hgo (nlt_of rfl (by decide : (192 : Int32).toInt = 192) (by omega)) ?_
    refine t1_35 hgo ?_
    refine t1_36 hgo ?_
    refine t1_39t hgo (lt_of (by decide : (214 : Int32).toInt = 214) rfl (by omega)) ?_
    refine t1_42 hgo ?_
    refine t1_43 hgo ?_
    refine t1_46f hgo (nlt_of rfl (by decide : (216 : Int32).toInt = 216) (by omega)) ?_
    refine t1_49 hgo ?_
    refine t1_50 hgo ?_
    refine t1_53t hgo (lt_of (by decide : (246 : Int32).toInt = 246) rfl (by omega)) ?_
    refine t1_56 hgo ?_
    refine t1_57 hgo ?_
    refine t1_60f hgo (nlt_of rfl (by decide : (248 : Int32).toInt = 248) (by omega)) ?_
    refine t1_63 hgo ?_
    refine t1_64 hgo ?_
    refine t1_67t hgo (lt_of (by decide : (767 : Int32).toInt = 767) rfl (by omega)) ?_
    refine t1_70 hgo ?_
    refine t1_71 hgo ?_
    refine t1_74f hgo (nlt_of rfl (by decide : (880 : Int32).toInt = 880) (by omega)) ?_
    refine t1_77 hgo ?_
    refine t1_78 hgo ?_
    refine t1_81t hgo (lt_of (by decide : (893 : Int32).toInt = 893) rfl (by omega)) ?_
    refine t1_84 hgo ?_
    refine t1_85 hgo ?_
    refine t1_88f hgo (nlt_of rfl (by decide : (895 : Int32).toInt = 895) (by omega)) ?_
    refine t1_91 hgo ?_
    refine t1_92 hgo ?_
    refine t1_95t hgo (lt_of (by decide : (8191 : Int32).toInt = 8191) rfl (by omega)) ?_
    refine t1_98 hgo ?_
    refine t1_99 hgo ?_
    refine t1_102f hgo (neq_of rfl (by decide : (8204 : Int32).toInt = 8204) (by omega)) ?_
    refine t1_105 hgo ?_
    refine t1_106 hgo ?_
    refine t1_109f hgo (neq_of rfl (by decide : (8205 : Int32).toInt = 8205) (by omega)) ?_
    refine t1_112 hgo ?_
    refine t1_113 hgo ?_
    refine t1_116f hgo (nlt_of rfl (by decide : (8304 : Int32).toInt = 8304) (by omega)) ?_
    refine t1_119 hgo ?_
    refine t1_120 hgo ?_
    refine t1_123t hgo (lt_of (by decide : (8591 : Int32).toInt = 8591) rfl (by omega)) ?_
    refine t1_126 hgo ?_
    refine t1_127 hgo ?_
    refine t1_130f hgo (nlt_of rfl (by decide : (11264 : Int32).toInt = 11264) (by omega)) ?_
    refine t1_133 hgo ?_
    refine t1_134 hgo ?_
    refine t1_137t hgo (lt_of (by decide : (12271 : Int32).toInt = 12271) rfl (by omega)) ?_
    refine t1_140 hgo ?_
    refine t1_141 hgo ?_
    refine t1_144f hgo (nlt_of rfl (by decide : (12289 : Int32).toInt = 12289) (by omega)) ?_
    refine t1_147 hgo ?_
    refine t1_148 hgo ?_
    refine t1_150t hgo (lt_of (by decide : (55295 : Int32).toInt = 55295) rfl (by omega)) ?_
    refine t1_153 hgo ?_
    refine t1_154 hgo ?_
    refine t1_156f hgo (nlt_of rfl (by decide : (63744 : Int32).toInt = 63744) (by omega)) ?_
    refine t1_159 hgo ?_
    refine t1_160 hgo ?_
    refine t1_162t hgo (lt_of (by decide : (64975 : Int32).toInt = 64975) rfl (by omega)) ?_
    refine t1_165 hgo ?_
    refine t1_166 hgo ?_
    refine t1_168f hgo (nlt_of rfl (by decide : (65008 : Int32).toInt = 65008) (by omega)) ?_
    refine t1_171 hgo ?_
    refine t1_172 hgo ?_
    refine t1_174t hgo (lt_of (by decide : (65533 : Int32).toInt = 65533) rfl (by omega)) ?_
    refine t1_177 hgo ?_
    refine t1_178 hgo ?_
    refine t1_180f hgo (nlt_of rfl (by decide : (65536 : Int32).toInt = 65536) (by omega)) ?_
    refine t1_183 hgo ?_
    refine t1_184 hgo ?_
    refine t1_186t hgo (lt_of (by decide : (983039 : Int32).toInt = 983039) rfl (by omega)) ?_
    refine t1_193 hgo ?_
    refine t1_194 hgo rfl ?_
    refine t1_195 hgo ?_
    refine t1_196 hgo ?_
    exact is_0
theorem F3_y {c lo hi : Int32} {a b : Int} (ha : lo.toInt = a) (hb : hi.toInt = b) (h : a ≤ c.toInt ∧ c.toInt ≤ b) (H : AH) : F3 [.int c, .int lo, .int hi] H = some (some (.int 1), H) := by
  refine is_of f3_in fun go hgo => ?_
  refine t3_0 hgo ?_
  refine t3_1 hgo ?_
  refine t3_2f hgo (nlt_of rfl ha (by omega)) ?_
  refine t3_5 hgo ?_
  refine t3_6 hgo ?_
  refine t3_7f hgo (nlt_of hb rfl (by omega)) ?_
  refine t3_10 hgo ?_
  refine t3_11 hgo ?_
  refine t3_15 hgo ?_
  exact is_1
theorem F3_n {c lo hi : Int32} {a b : Int} (ha : lo.toInt = a) (hb : hi.toInt = b) (h : ¬ (a ≤ c.toInt ∧ c.toInt ≤ b)) (H : AH) : F3 [.int c, .int lo, .int hi] H = some (some (.int 0), H) := by
  by_cases h1 : c.toInt < a
  · refine is_of f3_in fun go hgo => ?_
    refine t3_0 hgo ?_
    refine t3_1 hgo ?_
    refine t3_2t hgo (lt_of rfl ha h1) ?_
    refine t3_14 hgo ?_
    refine t3_15 hgo ?_
    exact is_0
  · refine is_of f3_in fun go hgo => ?_
    refine t3_0 hgo ?_
    refine t3_1 hgo ?_
    refine t3_2f hgo (nlt_of rfl ha h1) ?_
    refine t3_5 hgo ?_
    refine t3_6 hgo ?_
    refine t3_7t hgo (lt_of hb rfl (by omega)) ?_
    refine t3_14 hgo ?_
    refine t3_15 hgo ?_
    exact is_0
set_option maxRecDepth 65536 in
set_option maxHeartbeats 8000000 in
theorem F4_eq (c : Int32) (H : AH) : F4 [.int c] H = some (some (.int (if ((0 ≤ c.toInt ∧ c.toInt ≤ 57) ∨ (59 ≤ c.toInt ∧ c.toInt ≤ 64) ∨ (91 ≤ c.toInt ∧ c.toInt ≤ 94) ∨ c.toInt = 96 ∨ (123 ≤ c.toInt ∧ c.toInt ≤ 191) ∨ c.toInt = 215 ∨ c.toInt = 247 ∨ (768 ≤ c.toInt ∧ c.toInt ≤ 879) ∨ c.toInt = 894 ∨ (8192 ≤ c.toInt ∧ c.toInt ≤ 8203) ∨ (8206 ≤ c.toInt ∧ c.toInt ≤ 8303) ∨ (8592 ≤ c.toInt ∧ c.toInt ≤ 11263) ∨ (12272 ≤ c.toInt ∧ c.toInt ≤ 12288) ∨ (55296 ≤ c.toInt ∧ c.toInt ≤ 63743) ∨ (64976 ≤ c.toInt ∧ c.toInt ≤ 65007) ∨ (65534 ≤ c.toInt ∧ c.toInt ≤ 65535)) then 1 else 0)), H) := by
  refine is_of f4_in fun go hgo => ?_
  by_cases g0 : 0 ≤ c.toInt ∧ c.toInt ≤ 57
  · rw [if_pos (by omega)]
    refine t4_0 hgo ?_
    refine t4_1 hgo ?_
    refine t4_2 hgo ?_
    refine res_of (u4_4 hgo) ?_
    simp only [eq_self, and_self, true_and, and_true, not_true_eq_false, not_false_eq_true, if_true, if_false, reduceIte, Option.bind_some, List.getElem?_cons_zero, List.getElem?_cons_succ, Nat.reduceAdd, Nat.reduceSub, Nat.reduceLT, Nat.reduceLeDiff, Nat.le_refl, Nat.zero_add, Nat.add_zero, List.length_cons, List.length_nil, Int32.reduceLT, Int32.reduceToNatClampNeg, Int32.reduceAdd, Int32.reduceSub, Int32.reduceMul, decide_true, aCall, aRecv, aObj, obj, List.take_succ_cons, List.take_zero, List.drop_succ_cons, List.drop_zero, List.reverse_cons, List.reverse_nil, List.nil_append, List.cons_append, List.append_nil, List.map_cons, List.map_nil, List.sum_cons, List.sum_nil, cat_int, cat_long, cat_ref, cat_null, Option.toList_some, Option.toList_none, F3_y (by decide : (0 : Int32).toInt = 0) (by decide : (57 : Int32).toInt = 57) g0]
    refine t4_7f hgo (by decide) ?_
    refine t4_169 hgo ?_
    refine t4_170 hgo ?_
    refine t4_174 hgo ?_
    exact is_1
  refine t4_0 hgo ?_
  refine t4_1 hgo ?_
  refine t4_2 hgo ?_
  refine res_of (u4_4 hgo) ?_
  simp only [eq_self, and_self, true_and, and_true, not_true_eq_false, not_false_eq_true, if_true, if_false, reduceIte, Option.bind_some, List.getElem?_cons_zero, List.getElem?_cons_succ, Nat.reduceAdd, Nat.reduceSub, Nat.reduceLT, Nat.reduceLeDiff, Nat.le_refl, Nat.zero_add, Nat.add_zero, List.length_cons, List.length_nil, Int32.reduceLT, Int32.reduceToNatClampNeg, Int32.reduceAdd, Int32.reduceSub, Int32.reduceMul, decide_true, aCall, aRecv, aObj, obj, List.take_succ_cons, List.take_zero, List.drop_succ_cons, List.drop_zero, List.reverse_cons, List.reverse_nil, List.nil_append, List.cons_append, List.append_nil, List.map_cons, List.map_nil, List.sum_cons, List.sum_nil, cat_int, cat_long, cat_ref, cat_null, Option.toList_some, Option.toList_none, F3_n (by decide : (0 : Int32).toInt = 0) (by decide : (57 : Int32).toInt = 57) g0]
  refine t4_7t hgo (by decide) ?_
  by_cases g1 : 59 ≤ c.toInt ∧ c.toInt ≤ 64
  · rw [if_pos (by omega)]
    refine t4_10 hgo ?_
    refine t4_11 hgo ?_
    refine t4_13 hgo ?_
    refine res_of (u4_15 hgo) ?_
    simp only [eq_self, and_self, true_and, and_true, not_true_eq_false, not_false_eq_true, if_true, if_false, reduceIte, Option.bind_some, List.getElem?_cons_zero, List.getElem?_cons_succ, Nat.reduceAdd, Nat.reduceSub, Nat.reduceLT, Nat.reduceLeDiff, Nat.le_refl, Nat.zero_add, Nat.add_zero, List.length_cons, List.length_nil, Int32.reduceLT, Int32.reduceToNatClampNeg, Int32.reduceAdd, Int32.reduceSub, Int32.reduceMul, decide_true, aCall, aRecv, aObj, obj, List.take_succ_cons, List.take_zero, List.drop_succ_cons, List.drop_zero, List.reverse_cons, List.reverse_nil, List.nil_append, List.cons_append, List.append_nil, List.map_cons, List.map_nil, List.sum_cons, List.sum_nil, cat_int, cat_long, cat_ref, cat_null, Option.toList_some, Option.toList_none, F3_y (by decide : (59 : Int32).toInt = 59) (by decide : (64 : Int32).toInt = 64) g1]
    refine t4_18f hgo (by decide) ?_
    refine t4_169 hgo ?_
    refine t4_170 hgo ?_
    refine t4_174 hgo ?_
    exact is_1
  refine t4_10 hgo ?_
  refine t4_11 hgo ?_
  refine t4_13 hgo ?_
  refine res_of (u4_15 hgo) ?_
  simp only [eq_self, and_self, true_and, and_true, not_true_eq_false, not_false_eq_true, if_true, if_false, reduceIte, Option.bind_some, List.getElem?_cons_zero, List.getElem?_cons_succ, Nat.reduceAdd, Nat.reduceSub, Nat.reduceLT, Nat.reduceLeDiff, Nat.le_refl, Nat.zero_add, Nat.add_zero, List.length_cons, List.length_nil, Int32.reduceLT, Int32.reduceToNatClampNeg, Int32.reduceAdd, Int32.reduceSub, Int32.reduceMul, decide_true, aCall, aRecv, aObj, obj, List.take_succ_cons, List.take_zero, List.drop_succ_cons, List.drop_zero, List.reverse_cons, List.reverse_nil, List.nil_append, List.cons_append, List.append_nil, List.map_cons, List.map_nil, List.sum_cons, List.sum_nil, cat_int, cat_long, cat_ref, cat_null, Option.toList_some, Option.toList_none, F3_n (by decide : (59 : Int32).toInt = 59) (by decide : (64 : Int32).toInt = 64) g1]
  refine t4_18t hgo (by decide) ?_
  by_cases g2 : 91 ≤ c.toInt ∧ c.toInt ≤ 94
  · rw [if_pos (by omega)]
    refine t4_21 hgo ?_
    refine t4_22 hgo ?_
    refine t4_24 hgo ?_
    refine res_of (u4_26 hgo) ?_
    simp only [eq_self, and_self, true_and, and_true, not_true_eq_false, not_false_eq_true, if_true, if_false, reduceIte, Option.bind_some, List.getElem?_cons_zero, List.getElem?_cons_succ, Nat.reduceAdd, Nat.reduceSub, Nat.reduceLT, Nat.reduceLeDiff, Nat.le_refl, Nat.zero_add, Nat.add_zero, List.length_cons, List.length_nil, Int32.reduceLT, Int32.reduceToNatClampNeg, Int32.reduceAdd, Int32.reduceSub, Int32.reduceMul, decide_true, aCall, aRecv, aObj, obj, List.take_succ_cons, List.take_zero, List.drop_succ_cons, List.drop_zero, List.reverse_cons, List.reverse_nil, List.nil_append, List.cons_append, List.append_nil, List.map_cons, List.map_nil, List.sum_cons, List.sum_nil, cat_int, cat_long, cat_ref, cat_null, Option.toList_some, Option.toList_none, F3_y (by decide : (91 : Int32).toInt = 91) (by decide : (94 : Int32).toInt = 94) g2]
    refine t4_29f hgo (by decide) ?_
    refine t4_169 hgo ?_
    refine t4_170 hgo ?_
    refine t4_174 hgo ?_
    exact is_1
  refine t4_21 hgo ?_
  refine t4_22 hgo ?_
  refine t4_24 hgo ?_
  refine res_of (u4_26 hgo) ?_
  simp only [eq_self, and_self, true_and, and_true, not_true_eq_false, not_false_eq_true, if_true, if_false, reduceIte, Option.bind_some, List.getElem?_cons_zero, List.getElem?_cons_succ, Nat.reduceAdd, Nat.reduceSub, Nat.reduceLT, Nat.reduceLeDiff, Nat.le_refl, Nat.zero_add, Nat.add_zero, List.length_cons, List.length_nil, Int32.reduceLT, Int32.reduceToNatClampNeg, Int32.reduceAdd, Int32.reduceSub, Int32.reduceMul, decide_true, aCall, aRecv, aObj, obj, List.take_succ_cons, List.take_zero, List.drop_succ_cons, List.drop_zero, List.reverse_cons, List.reverse_nil, List.nil_append, List.cons_append, List.append_nil, List.map_cons, List.map_nil, List.sum_cons, List.sum_nil, cat_int, cat_long, cat_ref, cat_null, Option.toList_some, Option.toList_none, F3_n (by decide : (91 : Int32).toInt = 91) (by decide : (94 : Int32).toInt = 94) g2]
  refine t4_29t hgo (by decide) ?_
  by_cases g3 : c.toInt = 96
  · rw [if_pos (by omega)]
    refine t4_32 hgo ?_
    refine t4_33 hgo ?_
    refine t4_35t hgo (eq_of rfl (by decide : (96 : Int32).toInt = 96) g3) ?_
    refine t4_169 hgo ?_
    refine t4_170 hgo ?_
    refine t4_174 hgo ?_
    exact is_1
  refine t4_32 hgo ?_
  refine t4_33 hgo ?_
  refine t4_35f hgo (neq_of rfl (by decide : (96 : Int32).toInt = 96) g3) ?_
  by_cases g4 : 123 ≤ c.toInt ∧ c.toInt ≤ 191
  · rw [if_pos (by omega)]
    refine t4_38 hgo ?_
    refine t4_39 hgo ?_
    refine t4_41 hgo ?_
    refine res_of (u4_44 hgo) ?_
    simp only [eq_self, and_self, true_and, and_true, not_true_eq_false, not_false_eq_true, if_true, if_false, reduceIte, Option.bind_some, List.getElem?_cons_zero, List.getElem?_cons_succ, Nat.reduceAdd, Nat.reduceSub, Nat.reduceLT, Nat.reduceLeDiff, Nat.le_refl, Nat.zero_add, Nat.add_zero, List.length_cons, List.length_nil, Int32.reduceLT, Int32.reduceToNatClampNeg, Int32.reduceAdd, Int32.reduceSub, Int32.reduceMul, decide_true, aCall, aRecv, aObj, obj, List.take_succ_cons, List.take_zero, List.drop_succ_cons, List.drop_zero, List.reverse_cons, List.reverse_nil, List.nil_append, List.cons_append, List.append_nil, List.map_cons, List.map_nil, List.sum_cons, List.sum_nil, cat_int, cat_long, cat_ref, cat_null, Option.toList_some, Option.toList_none, F3_y (by decide : (123 : Int32).toInt = 123) (by decide : (191 : Int32).toInt = 191) g4]
    refine t4_47f hgo (by decide) ?_
    refine t4_169 hgo ?_
    refine t4_170 hgo ?_
    refine t4_174 hgo ?_
    exact is_1
  refine t4_38 hgo ?_
  refine t4_39 hgo ?_
  refine t4_41 hgo ?_
  refine res_of (u4_44 hgo) ?_
  simp only [eq_self, and_self, true_and, and_true, not_true_eq_false, not_false_eq_true, if_true, if_false, reduceIte, Option.bind_some, List.getElem?_cons_zero, List.getElem?_cons_succ, Nat.reduceAdd, Nat.reduceSub, Nat.reduceLT, Nat.reduceLeDiff, Nat.le_refl, Nat.zero_add, Nat.add_zero, List.length_cons, List.length_nil, Int32.reduceLT, Int32.reduceToNatClampNeg, Int32.reduceAdd, Int32.reduceSub, Int32.reduceMul, decide_true, aCall, aRecv, aObj, obj, List.take_succ_cons, List.take_zero, List.drop_succ_cons, List.drop_zero, List.reverse_cons, List.reverse_nil, List.nil_append, List.cons_append, List.append_nil, List.map_cons, List.map_nil, List.sum_cons, List.sum_nil, cat_int, cat_long, cat_ref, cat_null, Option.toList_some, Option.toList_none, F3_n (by decide : (123 : Int32).toInt = 123) (by decide : (191 : Int32).toInt = 191) g4]
  refine t4_47t hgo (by decide) ?_
  by_cases g5 : c.toInt = 215
  · rw [if_pos (by omega)]
    refine t4_50 hgo ?_
    refine t4_51 hgo ?_
    refine t4_54t hgo (eq_of rfl (by decide : (215 : Int32).toInt = 215) g5) ?_
    refine t4_169 hgo ?_
    refine t4_170 hgo ?_
    refine t4_174 hgo ?_
    exact is_1
  refine t4_50 hgo ?_
  refine t4_51 hgo ?_
  refine t4_54f hgo (neq_of rfl (by decide : (215 : Int32).toInt = 215) g5) ?_
  by_cases g6 : c.toInt = 247
  · rw [if_pos (by omega)]
    refine t4_57 hgo ?_
    refine t4_58 hgo ?_
    refine t4_61t hgo (eq_of rfl (by decide : (247 : Int32).toInt = 247) g6) ?_
    refine t4_169 hgo ?_
    refine t4_170 hgo ?_
    refine t4_174 hgo ?_
    exact is_1
  refine t4_57 hgo ?_
  refine t4_58 hgo ?_
  refine t4_61f hgo (neq_of rfl (by decide : (247 : Int32).toInt = 247) g6) ?_
  by_cases g7 : 768 ≤ c.toInt ∧ c.toInt ≤ 879
  · rw [if_pos (by omega)]
    refine t4_64 hgo ?_
    refine t4_65 hgo ?_
    refine t4_68 hgo ?_
    refine res_of (u4_71 hgo) ?_
    simp only [eq_self, and_self, true_and, and_true, not_true_eq_false, not_false_eq_true, if_true, if_false, reduceIte, Option.bind_some, List.getElem?_cons_zero, List.getElem?_cons_succ, Nat.reduceAdd, Nat.reduceSub, Nat.reduceLT, Nat.reduceLeDiff, Nat.le_refl, Nat.zero_add, Nat.add_zero, List.length_cons, List.length_nil, Int32.reduceLT, Int32.reduceToNatClampNeg, Int32.reduceAdd, Int32.reduceSub, Int32.reduceMul, decide_true, aCall, aRecv, aObj, obj, List.take_succ_cons, List.take_zero, List.drop_succ_cons, List.drop_zero, List.reverse_cons, List.reverse_nil, List.nil_append, List.cons_append, List.append_nil, List.map_cons, List.map_nil, List.sum_cons, List.sum_nil, cat_int, cat_long, cat_ref, cat_null, Option.toList_some, Option.toList_none, F3_y (by decide : (768 : Int32).toInt = 768) (by decide : (879 : Int32).toInt = 879) g7]
    refine t4_74f hgo (by decide) ?_
    refine t4_169 hgo ?_
    refine t4_170 hgo ?_
    refine t4_174 hgo ?_
    exact is_1
  refine t4_64 hgo ?_
  refine t4_65 hgo ?_
  refine t4_68 hgo ?_
  refine res_of (u4_71 hgo) ?_
  simp only [eq_self, and_self, true_and, and_true, not_true_eq_false, not_false_eq_true, if_true, if_false, reduceIte, Option.bind_some, List.getElem?_cons_zero, List.getElem?_cons_succ, Nat.reduceAdd, Nat.reduceSub, Nat.reduceLT, Nat.reduceLeDiff, Nat.le_refl, Nat.zero_add, Nat.add_zero, List.length_cons, List.length_nil, Int32.reduceLT, Int32.reduceToNatClampNeg, Int32.reduceAdd, Int32.reduceSub, Int32.reduceMul, decide_true, aCall, aRecv, aObj, obj, List.take_succ_cons, List.take_zero, List.drop_succ_cons, List.drop_zero, List.reverse_cons, List.reverse_nil, List.nil_append, List.cons_append, List.append_nil, List.map_cons, List.map_nil, List.sum_cons, List.sum_nil, cat_int, cat_long, cat_ref, cat_null, Option.toList_some, Option.toList_none, F3_n (by decide : (768 : Int32).toInt = 768) (by decide : (879 : Int32).toInt = 879) g7]
  refine t4_74t hgo (by decide) ?_
  by_cases g8 : c.toInt = 894
  · rw [if_pos (by omega)]
    refine t4_77 hgo ?_
    refine t4_78 hgo ?_
    refine t4_81t hgo (eq_of rfl (by decide : (894 : Int32).toInt = 894) g8) ?_
    refine t4_169 hgo ?_
    refine t4_170 hgo ?_
    refine t4_174 hgo ?_
    exact is_1
  refine t4_77 hgo ?_
  refine t4_78 hgo ?_
  refine t4_81f hgo (neq_of rfl (by decide : (894 : Int32).toInt = 894) g8) ?_
  by_cases g9 : 8192 ≤ c.toInt ∧ c.toInt ≤ 8203
  · rw [if_pos (by omega)]
    refine t4_84 hgo ?_
    refine t4_85 hgo ?_
    refine t4_88 hgo ?_
    refine res_of (u4_91 hgo) ?_
    simp only [eq_self, and_self, true_and, and_true, not_true_eq_false, not_false_eq_true, if_true, if_false, reduceIte, Option.bind_some, List.getElem?_cons_zero, List.getElem?_cons_succ, Nat.reduceAdd, Nat.reduceSub, Nat.reduceLT, Nat.reduceLeDiff, Nat.le_refl, Nat.zero_add, Nat.add_zero, List.length_cons, List.length_nil, Int32.reduceLT, Int32.reduceToNatClampNeg, Int32.reduceAdd, Int32.reduceSub, Int32.reduceMul, decide_true, aCall, aRecv, aObj, obj, List.take_succ_cons, List.take_zero, List.drop_succ_cons, List.drop_zero, List.reverse_cons, List.reverse_nil, List.nil_append, List.cons_append, List.append_nil, List.map_cons, List.map_nil, List.sum_cons, List.sum_nil, cat_int, cat_long, cat_ref, cat_null, Option.toList_some, Option.toList_none, F3_y (by decide : (8192 : Int32).toInt = 8192) (by decide : (8203 : Int32).toInt = 8203) g9]
    refine t4_94f hgo (by decide) ?_
    refine t4_169 hgo ?_
    refine t4_170 hgo ?_
    refine t4_174 hgo ?_
    exact is_1
  refine t4_84 hgo ?_
  refine t4_85 hgo ?_
  refine t4_88 hgo ?_
  refine res_of (u4_91 hgo) ?_
  simp only [eq_self, and_self, true_and, and_true, not_true_eq_false, not_false_eq_true, if_true, if_false, reduceIte, Option.bind_some, List.getElem?_cons_zero, List.getElem?_cons_succ, Nat.reduceAdd, Nat.reduceSub, Nat.reduceLT, Nat.reduceLeDiff, Nat.le_refl, Nat.zero_add, Nat.add_zero, List.length_cons, List.length_nil, Int32.reduceLT, Int32.reduceToNatClampNeg, Int32.reduceAdd, Int32.reduceSub, Int32.reduceMul, decide_true, aCall, aRecv, aObj, obj, List.take_succ_cons, List.take_zero, List.drop_succ_cons, List.drop_zero, List.reverse_cons, List.reverse_nil, List.nil_append, List.cons_append, List.append_nil, List.map_cons, List.map_nil, List.sum_cons, List.sum_nil, cat_int, cat_long, cat_ref, cat_null, Option.toList_some, Option.toList_none, F3_n (by decide : (8192 : Int32).toInt = 8192) (by decide : (8203 : Int32).toInt = 8203) g9]
  refine t4_94t hgo (by decide) ?_
  by_cases g10 : 8206 ≤ c.toInt ∧ c.toInt ≤ 8303
  · rw [if_pos (by omega)]
    refine t4_97 hgo ?_
    refine t4_98 hgo ?_
    refine t4_101 hgo ?_
    refine res_of (u4_104 hgo) ?_
    simp only [eq_self, and_self, true_and, and_true, not_true_eq_false, not_false_eq_true, if_true, if_false, reduceIte, Option.bind_some, List.getElem?_cons_zero, List.getElem?_cons_succ, Nat.reduceAdd, Nat.reduceSub, Nat.reduceLT, Nat.reduceLeDiff, Nat.le_refl, Nat.zero_add, Nat.add_zero, List.length_cons, List.length_nil, Int32.reduceLT, Int32.reduceToNatClampNeg, Int32.reduceAdd, Int32.reduceSub, Int32.reduceMul, decide_true, aCall, aRecv, aObj, obj, List.take_succ_cons, List.take_zero, List.drop_succ_cons, List.drop_zero, List.reverse_cons, List.reverse_nil, List.nil_append, List.cons_append, List.append_nil, List.map_cons, List.map_nil, List.sum_cons, List.sum_nil, cat_int, cat_long, cat_ref, cat_null, Option.toList_some, Option.toList_none, F3_y (by decide : (8206 : Int32).toInt = 8206) (by decide : (8303 : Int32).toInt = 8303) g10]
    refine t4_107f hgo (by decide) ?_
    refine t4_169 hgo ?_
    refine t4_170 hgo ?_
    refine t4_174 hgo ?_
    exact is_1
  refine t4_97 hgo ?_
  refine t4_98 hgo ?_
  refine t4_101 hgo ?_
  refine res_of (u4_104 hgo) ?_
  simp only [eq_self, and_self, true_and, and_true, not_true_eq_false, not_false_eq_true, if_true, if_false, reduceIte, Option.bind_some, List.getElem?_cons_zero, List.getElem?_cons_succ, Nat.reduceAdd, Nat.reduceSub, Nat.reduceLT, Nat.reduceLeDiff, Nat.le_refl, Nat.zero_add, Nat.add_zero, List.length_cons, List.length_nil, Int32.reduceLT, Int32.reduceToNatClampNeg, Int32.reduceAdd, Int32.reduceSub, Int32.reduceMul, decide_true, aCall, aRecv, aObj, obj, List.take_succ_cons, List.take_zero, List.drop_succ_cons, List.drop_zero, List.reverse_cons, List.reverse_nil, List.nil_append, List.cons_append, List.append_nil, List.map_cons, List.map_nil, List.sum_cons, List.sum_nil, cat_int, cat_long, cat_ref, cat_null, Option.toList_some, Option.toList_none, F3_n (by decide : (8206 : Int32).toInt = 8206) (by decide : (8303 : Int32).toInt = 8303) g10]
  refine t4_107t hgo (by decide) ?_
  by_cases g11 : 8592 ≤ c.toInt ∧ c.toInt ≤ 11263
  · rw [if_pos (by omega)]
    refine t4_110 hgo ?_
    refine t4_111 hgo ?_
    refine t4_114 hgo ?_
    refine res_of (u4_117 hgo) ?_
    simp only [eq_self, and_self, true_and, and_true, not_true_eq_false, not_false_eq_true, if_true, if_false, reduceIte, Option.bind_some, List.getElem?_cons_zero, List.getElem?_cons_succ, Nat.reduceAdd, Nat.reduceSub, Nat.reduceLT, Nat.reduceLeDiff, Nat.le_refl, Nat.zero_add, Nat.add_zero, List.length_cons, List.length_nil, Int32.reduceLT, Int32.reduceToNatClampNeg, Int32.reduceAdd, Int32.reduceSub, Int32.reduceMul, decide_true, aCall, aRecv, aObj, obj, List.take_succ_cons, List.take_zero, List.drop_succ_cons, List.drop_zero, List.reverse_cons, List.reverse_nil, List.nil_append, List.cons_append, List.append_nil, List.map_cons, List.map_nil, List.sum_cons, List.sum_nil, cat_int, cat_long, cat_ref, cat_null, Option.toList_some, Option.toList_none, F3_y (by decide : (8592 : Int32).toInt = 8592) (by decide : (11263 : Int32).toInt = 11263) g11]
    refine t4_120f hgo (by decide) ?_
    refine t4_169 hgo ?_
    refine t4_170 hgo ?_
    refine t4_174 hgo ?_
    exact is_1
  refine t4_110 hgo ?_
  refine t4_111 hgo ?_
  refine t4_114 hgo ?_
  refine res_of (u4_117 hgo) ?_
  simp only [eq_self, and_self, true_and, and_true, not_true_eq_false, not_false_eq_true, if_true, if_false, reduceIte, Option.bind_some, List.getElem?_cons_zero, List.getElem?_cons_succ, Nat.reduceAdd, Nat.reduceSub, Nat.reduceLT, Nat.reduceLeDiff, Nat.le_refl, Nat.zero_add, Nat.add_zero, List.length_cons, List.length_nil, Int32.reduceLT, Int32.reduceToNatClampNeg, Int32.reduceAdd, Int32.reduceSub, Int32.reduceMul, decide_true, aCall, aRecv, aObj, obj, List.take_succ_cons, List.take_zero, List.drop_succ_cons, List.drop_zero, List.reverse_cons, List.reverse_nil, List.nil_append, List.cons_append, List.append_nil, List.map_cons, List.map_nil, List.sum_cons, List.sum_nil, cat_int, cat_long, cat_ref, cat_null, Option.toList_some, Option.toList_none, F3_n (by decide : (8592 : Int32).toInt = 8592) (by decide : (11263 : Int32).toInt = 11263) g11]
  refine t4_120t hgo (by decide) ?_
  by_cases g12 : 12272 ≤ c.toInt ∧ c.toInt ≤ 12288
  · rw [if_pos (by omega)]
    refine t4_123 hgo ?_
    refine t4_124 hgo ?_
    refine t4_127 hgo ?_
    refine res_of (u4_130 hgo) ?_
    simp only [eq_self, and_self, true_and, and_true, not_true_eq_false, not_false_eq_true, if_true, if_false, reduceIte, Option.bind_some, List.getElem?_cons_zero, List.getElem?_cons_succ, Nat.reduceAdd, Nat.reduceSub, Nat.reduceLT, Nat.reduceLeDiff, Nat.le_refl, Nat.zero_add, Nat.add_zero, List.length_cons, List.length_nil, Int32.reduceLT, Int32.reduceToNatClampNeg, Int32.reduceAdd, Int32.reduceSub, Int32.reduceMul, decide_true, aCall, aRecv, aObj, obj, List.take_succ_cons, List.take_zero, List.drop_succ_cons, List.drop_zero, List.reverse_cons, List.reverse_nil, List.nil_append, List.cons_append, List.append_nil, List.map_cons, List.map_nil, List.sum_cons, List.sum_nil, cat_int, cat_long, cat_ref, cat_null, Option.toList_some, Option.toList_none, F3_y (by decide : (12272 : Int32).toInt = 12272) (by decide : (12288 : Int32).toInt = 12288) g12]
    refine t4_133f hgo (by decide) ?_
    refine t4_169 hgo ?_
    refine t4_170 hgo ?_
    refine t4_174 hgo ?_
    exact is_1
  refine t4_123 hgo ?_
  refine t4_124 hgo ?_
  refine t4_127 hgo ?_
  refine res_of (u4_130 hgo) ?_
  simp only [eq_self, and_self, true_and, and_true, not_true_eq_false, not_false_eq_true, if_true, if_false, reduceIte, Option.bind_some, List.getElem?_cons_zero, List.getElem?_cons_succ, Nat.reduceAdd, Nat.reduceSub, Nat.reduceLT, Nat.reduceLeDiff, Nat.le_refl, Nat.zero_add, Nat.add_zero, List.length_cons, List.length_nil, Int32.reduceLT, Int32.reduceToNatClampNeg, Int32.reduceAdd, Int32.reduceSub, Int32.reduceMul, decide_true, aCall, aRecv, aObj, obj, List.take_succ_cons, List.take_zero, List.drop_succ_cons, List.drop_zero, List.reverse_cons, List.reverse_nil, List.nil_append, List.cons_append, List.append_nil, List.map_cons, List.map_nil, List.sum_cons, List.sum_nil, cat_int, cat_long, cat_ref, cat_null, Option.toList_some, Option.toList_none, F3_n (by decide : (12272 : Int32).toInt = 12272) (by decide : (12288 : Int32).toInt = 12288) g12]
  refine t4_133t hgo (by decide) ?_
  by_cases g13 : 55296 ≤ c.toInt ∧ c.toInt ≤ 63743
  · rw [if_pos (by omega)]
    refine t4_136 hgo ?_
    refine t4_137 hgo ?_
    refine t4_139 hgo ?_
    refine res_of (u4_141 hgo) ?_
    simp only [eq_self, and_self, true_and, and_true, not_true_eq_false, not_false_eq_true, if_true, if_false, reduceIte, Option.bind_some, List.getElem?_cons_zero, List.getElem?_cons_succ, Nat.reduceAdd, Nat.reduceSub, Nat.reduceLT, Nat.reduceLeDiff, Nat.le_refl, Nat.zero_add, Nat.add_zero, List.length_cons, List.length_nil, Int32.reduceLT, Int32.reduceToNatClampNeg, Int32.reduceAdd, Int32.reduceSub, Int32.reduceMul, decide_true, aCall, aRecv, aObj, obj, List.take_succ_cons, List.take_zero, List.drop_succ_cons, List.drop_zero, List.reverse_cons, List.reverse_nil, List.nil_append, List.cons_append, List.append_nil, List.map_cons, List.map_nil, List.sum_cons, List.sum_nil, cat_int, cat_long, cat_ref, cat_null, Option.toList_some, Option.toList_none, F3_y (by decide : (55296 : Int32).toInt = 55296) (by decide : (63743 : Int32).toInt = 63743) g13]
    refine t4_144f hgo (by decide) ?_
    refine t4_169 hgo ?_
    refine t4_170 hgo ?_
    refine t4_174 hgo ?_
    exact is_1
  refine t4_136 hgo ?_
  refine t4_137 hgo ?_
  refine t4_139 hgo ?_
  refine res_of (u4_141 hgo) ?_
  simp only [eq_self, and_self, true_and, and_true, not_true_eq_false, not_false_eq_true, if_true, if_false, reduceIte, Option.bind_some, List.getElem?_cons_zero, List.getElem?_cons_succ, Nat.reduceAdd, Nat.reduceSub, Nat.reduceLT, Nat.reduceLeDiff, Nat.le_refl, Nat.zero_add, Nat.add_zero, List.length_cons, List.length_nil, Int32.reduceLT, Int32.reduceToNatClampNeg, Int32.reduceAdd, Int32.reduceSub, Int32.reduceMul, decide_true, aCall, aRecv, aObj, obj, List.take_succ_cons, List.take_zero, List.drop_succ_cons, List.drop_zero, List.reverse_cons, List.reverse_nil, List.nil_append, List.cons_append, List.append_nil, List.map_cons, List.map_nil, List.sum_cons, List.sum_nil, cat_int, cat_long, cat_ref, cat_null, Option.toList_some, Option.toList_none, F3_n (by decide : (55296 : Int32).toInt = 55296) (by decide : (63743 : Int32).toInt = 63743) g13]
  refine t4_144t hgo (by decide) ?_
  by_cases g14 : 64976 ≤ c.toInt ∧ c.toInt ≤ 65007
  · rw [if_pos (by omega)]
    refine t4_147 hgo ?_
    refine t4_148 hgo ?_
    refine t4_150 hgo ?_
    refine res_of (u4_152 hgo) ?_
    simp only [eq_self, and_self, true_and, and_true, not_true_eq_false, not_false_eq_true, if_true, if_false, reduceIte, Option.bind_some, List.getElem?_cons_zero, List.getElem?_cons_succ, Nat.reduceAdd, Nat.reduceSub, Nat.reduceLT, Nat.reduceLeDiff, Nat.le_refl, Nat.zero_add, Nat.add_zero, List.length_cons, List.length_nil, Int32.reduceLT, Int32.reduceToNatClampNeg, Int32.reduceAdd, Int32.reduceSub, Int32.reduceMul, decide_true, aCall, aRecv, aObj, obj, List.take_succ_cons, List.take_zero, List.drop_succ_cons, List.drop_zero, List.reverse_cons, List.reverse_nil, List.nil_append, List.cons_append, List.append_nil, List.map_cons, List.map_nil, List.sum_cons, List.sum_nil, cat_int, cat_long, cat_ref, cat_null, Option.toList_some, Option.toList_none, F3_y (by decide : (64976 : Int32).toInt = 64976) (by decide : (65007 : Int32).toInt = 65007) g14]
    refine t4_155f hgo (by decide) ?_
    refine t4_169 hgo ?_
    refine t4_170 hgo ?_
    refine t4_174 hgo ?_
    exact is_1
  refine t4_147 hgo ?_
  refine t4_148 hgo ?_
  refine t4_150 hgo ?_
  refine res_of (u4_152 hgo) ?_
  simp only [eq_self, and_self, true_and, and_true, not_true_eq_false, not_false_eq_true, if_true, if_false, reduceIte, Option.bind_some, List.getElem?_cons_zero, List.getElem?_cons_succ, Nat.reduceAdd, Nat.reduceSub, Nat.reduceLT, Nat.reduceLeDiff, Nat.le_refl, Nat.zero_add, Nat.add_zero, List.length_cons, List.length_nil, Int32.reduceLT, Int32.reduceToNatClampNeg, Int32.reduceAdd, Int32.reduceSub, Int32.reduceMul, decide_true, aCall, aRecv, aObj, obj, List.take_succ_cons, List.take_zero, List.drop_succ_cons, List.drop_zero, List.reverse_cons, List.reverse_nil, List.nil_append, List.cons_append, List.append_nil, List.map_cons, List.map_nil, List.sum_cons, List.sum_nil, cat_int, cat_long, cat_ref, cat_null, Option.toList_some, Option.toList_none, F3_n (by decide : (64976 : Int32).toInt = 64976) (by decide : (65007 : Int32).toInt = 65007) g14]
  refine t4_155t hgo (by decide) ?_
  by_cases g15 : 65534 ≤ c.toInt ∧ c.toInt ≤ 65535
  · rw [if_pos (by omega)]
    refine t4_158 hgo ?_
    refine t4_159 hgo ?_
    refine t4_161 hgo ?_
    refine res_of (u4_163 hgo) ?_
    simp only [eq_self, and_self, true_and, and_true, not_true_eq_false, not_false_eq_true, if_true, if_false, reduceIte, Option.bind_some, List.getElem?_cons_zero, List.getElem?_cons_succ, Nat.reduceAdd, Nat.reduceSub, Nat.reduceLT, Nat.reduceLeDiff, Nat.le_refl, Nat.zero_add, Nat.add_zero, List.length_cons, List.length_nil, Int32.reduceLT, Int32.reduceToNatClampNeg, Int32.reduceAdd, Int32.reduceSub, Int32.reduceMul, decide_true, aCall, aRecv, aObj, obj, List.take_succ_cons, List.take_zero, List.drop_succ_cons, List.drop_zero, List.reverse_cons, List.reverse_nil, List.nil_append, List.cons_append, List.append_nil, List.map_cons, List.map_nil, List.sum_cons, List.sum_nil, cat_int, cat_long, cat_ref, cat_null, Option.toList_some, Option.toList_none, F3_y (by decide : (65534 : Int32).toInt = 65534) (by decide : (65535 : Int32).toInt = 65535) g15]
    refine t4_166f hgo (by decide) ?_
    refine t4_169 hgo ?_
    refine t4_170 hgo ?_
    refine t4_174 hgo ?_
    exact is_1
  · rw [if_neg (by omega)]
    refine t4_158 hgo ?_
    refine t4_159 hgo ?_
    refine t4_161 hgo ?_
    refine res_of (u4_163 hgo) ?_
    simp only [eq_self, and_self, true_and, and_true, not_true_eq_false, not_false_eq_true, if_true, if_false, reduceIte, Option.bind_some, List.getElem?_cons_zero, List.getElem?_cons_succ, Nat.reduceAdd, Nat.reduceSub, Nat.reduceLT, Nat.reduceLeDiff, Nat.le_refl, Nat.zero_add, Nat.add_zero, List.length_cons, List.length_nil, Int32.reduceLT, Int32.reduceToNatClampNeg, Int32.reduceAdd, Int32.reduceSub, Int32.reduceMul, decide_true, aCall, aRecv, aObj, obj, List.take_succ_cons, List.take_zero, List.drop_succ_cons, List.drop_zero, List.reverse_cons, List.reverse_nil, List.nil_append, List.cons_append, List.append_nil, List.map_cons, List.map_nil, List.sum_cons, List.sum_nil, cat_int, cat_long, cat_ref, cat_null, Option.toList_some, Option.toList_none, F3_n (by decide : (65534 : Int32).toInt = 65534) (by decide : (65535 : Int32).toInt = 65535) g15]
    refine t4_166t hgo (by decide) ?_
    refine t4_173 hgo ?_
    refine t4_174 hgo ?_
    exact is_0
set_option maxRecDepth 65536 in
set_option maxHeartbeats 8000000 in
theorem F2_eq (c : Int32) (H : AH) : F2 [.int c] H = some (some (.int (if (c.toInt = 58 ∨ (65 ≤ c.toInt ∧ c.toInt ≤ 90) ∨ c.toInt = 95 ∨ (97 ≤ c.toInt ∧ c.toInt ≤ 122) ∨ (192 ≤ c.toInt ∧ c.toInt ≤ 214) ∨ (216 ≤ c.toInt ∧ c.toInt ≤ 246) ∨ (248 ≤ c.toInt ∧ c.toInt ≤ 767) ∨ (880 ≤ c.toInt ∧ c.toInt ≤ 893) ∨ (895 ≤ c.toInt ∧ c.toInt ≤ 8191) ∨ (8204 ≤ c.toInt ∧ c.toInt ≤ 8205) ∨ (8304 ≤ c.toInt ∧ c.toInt ≤ 8591) ∨ (11264 ≤ c.toInt ∧ c.toInt ≤ 12271) ∨ (12289 ≤ c.toInt ∧ c.toInt ≤ 55295) ∨ (63744 ≤ c.toInt ∧ c.toInt ≤ 64975) ∨ (65008 ≤ c.toInt ∧ c.toInt ≤ 65533) ∨ (65536 ≤ c.toInt ∧ c.toInt ≤ 983039)) then 1 else 0)), H) := by
  by_cases h : 0 ≤ c.toInt ∧ c.toInt ≤ 983039
  · by_cases g : ((0 ≤ c.toInt ∧ c.toInt ≤ 57) ∨ (59 ≤ c.toInt ∧ c.toInt ≤ 64) ∨ (91 ≤ c.toInt ∧ c.toInt ≤ 94) ∨ c.toInt = 96 ∨ (123 ≤ c.toInt ∧ c.toInt ≤ 191) ∨ c.toInt = 215 ∨ c.toInt = 247 ∨ (768 ≤ c.toInt ∧ c.toInt ≤ 879) ∨ c.toInt = 894 ∨ (8192 ≤ c.toInt ∧ c.toInt ≤ 8203) ∨ (8206 ≤ c.toInt ∧ c.toInt ≤ 8303) ∨ (8592 ≤ c.toInt ∧ c.toInt ≤ 11263) ∨ (12272 ≤ c.toInt ∧ c.toInt ≤ 12288) ∨ (55296 ≤ c.toInt ∧ c.toInt ≤ 63743) ∨ (64976 ≤ c.toInt ∧ c.toInt ≤ 65007) ∨ (65534 ≤ c.toInt ∧ c.toInt ≤ 65535))
    · have hF := F4_eq c H
      rw [if_pos g] at hF
      rw [if_neg (by omega)]
      refine is_of f2_in fun go hgo => ?_
      refine t2_0 hgo ?_
      refine t2_1 hgo ?_
      refine t2_2 hgo ?_
      refine res_of (u2_4 hgo) ?_
      simp only [eq_self, and_self, true_and, and_true, not_true_eq_false, not_false_eq_true, if_true, if_false, reduceIte, Option.bind_some, List.getElem?_cons_zero, List.getElem?_cons_succ, Nat.reduceAdd, Nat.reduceSub, Nat.reduceLT, Nat.reduceLeDiff, Nat.le_refl, Nat.zero_add, Nat.add_zero, List.length_cons, List.length_nil, Int32.reduceLT, Int32.reduceToNatClampNeg, Int32.reduceAdd, Int32.reduceSub, Int32.reduceMul, decide_true, aCall, aRecv, aObj, obj, List.take_succ_cons, List.take_zero, List.drop_succ_cons, List.drop_zero, List.reverse_cons, List.reverse_nil, List.nil_append, List.cons_append, List.append_nil, List.map_cons, List.map_nil, List.sum_cons, List.sum_nil, cat_int, cat_long, cat_ref, cat_null, Option.toList_some, Option.toList_none, F3_y (by decide : (0 : Int32).toInt = 0) (by decide : (983039 : Int32).toInt = 983039) h, hF]
      refine t2_7f hgo (by decide) ?_
      refine t2_10 hgo ?_
      refine res_of (u2_11 hgo) ?_
      simp only [eq_self, and_self, true_and, and_true, not_true_eq_false, not_false_eq_true, if_true, if_false, reduceIte, Option.bind_some, List.getElem?_cons_zero, List.getElem?_cons_succ, Nat.reduceAdd, Nat.reduceSub, Nat.reduceLT, Nat.reduceLeDiff, Nat.le_refl, Nat.zero_add, Nat.add_zero, List.length_cons, List.length_nil, Int32.reduceLT, Int32.reduceToNatClampNeg, Int32.reduceAdd, Int32.reduceSub, Int32.reduceMul, decide_true, aCall, aRecv, aObj, obj, List.take_succ_cons, List.take_zero, List.drop_succ_cons, List.drop_zero, List.reverse_cons, List.reverse_nil, List.nil_append, List.cons_append, List.append_nil, List.map_cons, List.map_nil, List.sum_cons, List.sum_nil, cat_int, cat_long, cat_ref, cat_null, Option.toList_some, Option.toList_none, F3_y (by decide : (0 : Int32).toInt = 0) (by decide : (983039 : Int32).toInt = 983039) h, hF]
      refine t2_14f hgo (by decide) ?_
      refine t2_21 hgo ?_
      refine t2_22 hgo ?_
      exact is_0
    · have hF := F4_eq c H
      rw [if_neg g] at hF
      rw [if_pos (by omega)]
      refine is_of f2_in fun go hgo => ?_
      refine t2_0 hgo ?_
      refine t2_1 hgo ?_
      refine t2_2 hgo ?_
      refine res_of (u2_4 hgo) ?_
      simp only [eq_self, and_self, true_and, and_true, not_true_eq_false, not_false_eq_true, if_true, if_false, reduceIte, Option.bind_some, List.getElem?_cons_zero, List.getElem?_cons_succ, Nat.reduceAdd, Nat.reduceSub, Nat.reduceLT, Nat.reduceLeDiff, Nat.le_refl, Nat.zero_add, Nat.add_zero, List.length_cons, List.length_nil, Int32.reduceLT, Int32.reduceToNatClampNeg, Int32.reduceAdd, Int32.reduceSub, Int32.reduceMul, decide_true, aCall, aRecv, aObj, obj, List.take_succ_cons, List.take_zero, List.drop_succ_cons, List.drop_zero, List.reverse_cons, List.reverse_nil, List.nil_append, List.cons_append, List.append_nil, List.map_cons, List.map_nil, List.sum_cons, List.sum_nil, cat_int, cat_long, cat_ref, cat_null, Option.toList_some, Option.toList_none, F3_y (by decide : (0 : Int32).toInt = 0) (by decide : (983039 : Int32).toInt = 983039) h, hF]
      refine t2_7f hgo (by decide) ?_
      refine t2_10 hgo ?_
      refine res_of (u2_11 hgo) ?_
      simp only [eq_self, and_self, true_and, and_true, not_true_eq_false, not_false_eq_true, if_true, if_false, reduceIte, Option.bind_some, List.getElem?_cons_zero, List.getElem?_cons_succ, Nat.reduceAdd, Nat.reduceSub, Nat.reduceLT, Nat.reduceLeDiff, Nat.le_refl, Nat.zero_add, Nat.add_zero, List.length_cons, List.length_nil, Int32.reduceLT, Int32.reduceToNatClampNeg, Int32.reduceAdd, Int32.reduceSub, Int32.reduceMul, decide_true, aCall, aRecv, aObj, obj, List.take_succ_cons, List.take_zero, List.drop_succ_cons, List.drop_zero, List.reverse_cons, List.reverse_nil, List.nil_append, List.cons_append, List.append_nil, List.map_cons, List.map_nil, List.sum_cons, List.sum_nil, cat_int, cat_long, cat_ref, cat_null, Option.toList_some, Option.toList_none, F3_y (by decide : (0 : Int32).toInt = 0) (by decide : (983039 : Int32).toInt = 983039) h, hF]
      refine t2_14t hgo (by decide) ?_
      refine t2_17 hgo ?_
      refine t2_18 hgo ?_
      refine t2_22 hgo ?_
      exact is_1
  · skip
    rw [if_neg (by omega)]
    refine is_of f2_in fun go hgo => ?_
    refine t2_0 hgo ?_
    refine t2_1 hgo ?_
    refine t2_2 hgo ?_
    refine res_of (u2_4 hgo) ?_
    simp only [eq_self, and_self, true_and, and_true, not_true_eq_false, not_false_eq_true, if_true, if_false, reduceIte, Option.bind_some, List.getElem?_cons_zero, List.getElem?_cons_succ, Nat.reduceAdd, Nat.reduceSub, Nat.reduceLT, Nat.reduceLeDiff, Nat.le_refl, Nat.zero_add, Nat.add_zero, List.length_cons, List.length_nil, Int32.reduceLT, Int32.reduceToNatClampNeg, Int32.reduceAdd, Int32.reduceSub, Int32.reduceMul, decide_true, aCall, aRecv, aObj, obj, List.take_succ_cons, List.take_zero, List.drop_succ_cons, List.drop_zero, List.reverse_cons, List.reverse_nil, List.nil_append, List.cons_append, List.append_nil, List.map_cons, List.map_nil, List.sum_cons, List.sum_nil, cat_int, cat_long, cat_ref, cat_null, Option.toList_some, Option.toList_none, F3_n (by decide : (0 : Int32).toInt = 0) (by decide : (983039 : Int32).toInt = 983039) h]
    refine t2_7t hgo (by decide) ?_
    refine t2_21 hgo ?_
    refine t2_22 hgo ?_
    exact is_0
theorem own_b (k : Nat) (h : k < 35) : ∃ w : Int32, ([.int 0, .int 58, .int 65, .int 90, .int 95, .int 97, .int 122, .int 127, .int 128, .int 192, .int 214, .int 216, .int 246, .int 248, .int 767, .int 880, .int 893, .int 895, .int 8191, .int 8204, .int 8205, .int 8304, .int 8591, .int 11264, .int 12271, .int 12289, .int 55295, .int 63744, .int 64975, .int 65008, .int 65533, .int 65536, .int 983039, .int (-2147483646), .int 2147483645] : List Value)[k]? = some (Value.int w) := by
  match k, h with
  | 0, _ => exact ⟨_, rfl⟩
  | 1, _ => exact ⟨_, rfl⟩
  | 2, _ => exact ⟨_, rfl⟩
  | 3, _ => exact ⟨_, rfl⟩
  | 4, _ => exact ⟨_, rfl⟩
  | 5, _ => exact ⟨_, rfl⟩
  | 6, _ => exact ⟨_, rfl⟩
  | 7, _ => exact ⟨_, rfl⟩
  | 8, _ => exact ⟨_, rfl⟩
  | 9, _ => exact ⟨_, rfl⟩
  | 10, _ => exact ⟨_, rfl⟩
  | 11, _ => exact ⟨_, rfl⟩
  | 12, _ => exact ⟨_, rfl⟩
  | 13, _ => exact ⟨_, rfl⟩
  | 14, _ => exact ⟨_, rfl⟩
  | 15, _ => exact ⟨_, rfl⟩
  | 16, _ => exact ⟨_, rfl⟩
  | 17, _ => exact ⟨_, rfl⟩
  | 18, _ => exact ⟨_, rfl⟩
  | 19, _ => exact ⟨_, rfl⟩
  | 20, _ => exact ⟨_, rfl⟩
  | 21, _ => exact ⟨_, rfl⟩
  | 22, _ => exact ⟨_, rfl⟩
  | 23, _ => exact ⟨_, rfl⟩
  | 24, _ => exact ⟨_, rfl⟩
  | 25, _ => exact ⟨_, rfl⟩
  | 26, _ => exact ⟨_, rfl⟩
  | 27, _ => exact ⟨_, rfl⟩
  | 28, _ => exact ⟨_, rfl⟩
  | 29, _ => exact ⟨_, rfl⟩
  | 30, _ => exact ⟨_, rfl⟩
  | 31, _ => exact ⟨_, rfl⟩
  | 32, _ => exact ⟨_, rfl⟩
  | 33, _ => exact ⟨_, rfl⟩
  | 34, _ => exact ⟨_, rfl⟩
  | k + 35, h => exact absurd h (by omega)
set_option maxRecDepth 65536 in
set_option maxHeartbeats 8000000 in
theorem law_val (v0 v1 v2 v3 : Int32) (vs : List Value) (hV : ∀ k, k < 128 → vs[k]? = some (Value.int (own_ns k))) : ∃ H', F0 [.int v0, .int v1, .int v2, .int v3] [.inr (.boolean, vs)] = some (some (.int 1), H') := by
  have h1 := c_and v1 2147483647 (by decide)
  have h2 := (c_irem (v1 &&& 2147483647) 35 35 (by decide)).1 h1.1
  have hj : ¬ (v1 &&& 2147483647) % 35 < 0 := by
    rw [Int32.lt_iff_toInt_lt, Int32.toInt_zero]; omega
  obtain ⟨w, hw⟩ := own_b ((v1 &&& 2147483647) % 35).toNatClampNeg (by show ((v1 &&& 2147483647) % 35).toInt.toNat < 35; omega)
  refine one_of f0_in fun go hgo => ?_
  refine t0_0 hgo ?_
  refine res_of (u0_2 hgo) ?_
  simp only [eq_self, and_self, true_and, and_true, not_true_eq_false, not_false_eq_true, if_true, if_false, reduceIte, Option.bind_some, List.getElem?_cons_zero, List.getElem?_cons_succ, Nat.reduceAdd, Nat.reduceSub, Nat.reduceLT, Nat.reduceLeDiff, Nat.le_refl, Nat.zero_add, Nat.add_zero, List.length_cons, List.length_nil, Int32.reduceLT, Int32.reduceToNatClampNeg, Int32.reduceAdd, Int32.reduceSub, Int32.reduceMul, decide_true, aArr, List.nil_append, List.cons_append, List.replicate_zero, List.replicate_succ, defaultValue]
  refine t0_4 hgo rfl ?_
  refine t0_5 hgo ?_
  refine t0_6 hgo ?_
  refine res_of (u0_7 hgo) ?_
  simp only [eq_self, and_self, true_and, and_true, not_true_eq_false, not_false_eq_true, if_true, if_false, reduceIte, Option.bind_some, List.getElem?_cons_zero, List.getElem?_cons_succ, Nat.reduceAdd, Nat.reduceSub, Nat.reduceLT, Nat.reduceLeDiff, Nat.le_refl, Nat.zero_add, Nat.add_zero, List.length_cons, List.length_nil, Int32.reduceLT, Int32.reduceToNatClampNeg, Int32.reduceAdd, Int32.reduceSub, Int32.reduceMul, decide_true, ex_iastore, ast, astL, pI_int, pL_long, pR_ref, arr, isT, isBZ, nar, List.set_cons_zero, List.set_cons_succ]
  refine t0_8 hgo rfl ?_
  refine t0_9 hgo ?_
  refine t0_10 hgo ?_
  refine res_of (u0_12 hgo) ?_
  simp only [eq_self, and_self, true_and, and_true, not_true_eq_false, not_false_eq_true, if_true, if_false, reduceIte, Option.bind_some, List.getElem?_cons_zero, List.getElem?_cons_succ, Nat.reduceAdd, Nat.reduceSub, Nat.reduceLT, Nat.reduceLeDiff, Nat.le_refl, Nat.zero_add, Nat.add_zero, List.length_cons, List.length_nil, Int32.reduceLT, Int32.reduceToNatClampNeg, Int32.reduceAdd, Int32.reduceSub, Int32.reduceMul, decide_true, ex_iastore, ast, astL, pI_int, pL_long, pR_ref, arr, isT, isBZ, nar, List.set_cons_zero, List.set_cons_succ]
  refine t0_13 hgo rfl ?_
  refine t0_14 hgo ?_
  refine t0_15 hgo ?_
  refine res_of (u0_17 hgo) ?_
  simp only [eq_self, and_self, true_and, and_true, not_true_eq_false, not_false_eq_true, if_true, if_false, reduceIte, Option.bind_some, List.getElem?_cons_zero, List.getElem?_cons_succ, Nat.reduceAdd, Nat.reduceSub, Nat.reduceLT, Nat.reduceLeDiff, Nat.le_refl, Nat.zero_add, Nat.add_zero, List.length_cons, List.length_nil, Int32.reduceLT, Int32.reduceToNatClampNeg, Int32.reduceAdd, Int32.reduceSub, Int32.reduceMul, decide_true, ex_iastore, ast, astL, pI_int, pL_long, pR_ref, arr, isT, isBZ, nar, List.set_cons_zero, List.set_cons_succ]
  refine t0_18 hgo rfl ?_
  refine t0_19 hgo ?_
  refine t0_20 hgo ?_
  refine res_of (u0_22 hgo) ?_
  simp only [eq_self, and_self, true_and, and_true, not_true_eq_false, not_false_eq_true, if_true, if_false, reduceIte, Option.bind_some, List.getElem?_cons_zero, List.getElem?_cons_succ, Nat.reduceAdd, Nat.reduceSub, Nat.reduceLT, Nat.reduceLeDiff, Nat.le_refl, Nat.zero_add, Nat.add_zero, List.length_cons, List.length_nil, Int32.reduceLT, Int32.reduceToNatClampNeg, Int32.reduceAdd, Int32.reduceSub, Int32.reduceMul, decide_true, ex_iastore, ast, astL, pI_int, pL_long, pR_ref, arr, isT, isBZ, nar, List.set_cons_zero, List.set_cons_succ]
  refine t0_23 hgo rfl ?_
  refine t0_24 hgo ?_
  refine t0_25 hgo ?_
  refine res_of (u0_27 hgo) ?_
  simp only [eq_self, and_self, true_and, and_true, not_true_eq_false, not_false_eq_true, if_true, if_false, reduceIte, Option.bind_some, List.getElem?_cons_zero, List.getElem?_cons_succ, Nat.reduceAdd, Nat.reduceSub, Nat.reduceLT, Nat.reduceLeDiff, Nat.le_refl, Nat.zero_add, Nat.add_zero, List.length_cons, List.length_nil, Int32.reduceLT, Int32.reduceToNatClampNeg, Int32.reduceAdd, Int32.reduceSub, Int32.reduceMul, decide_true, ex_iastore, ast, astL, pI_int, pL_long, pR_ref, arr, isT, isBZ, nar, List.set_cons_zero, List.set_cons_succ]
  refine t0_28 hgo rfl ?_
  refine t0_29 hgo ?_
  refine t0_30 hgo ?_
  refine res_of (u0_32 hgo) ?_
  simp only [eq_self, and_self, true_and, and_true, not_true_eq_false, not_false_eq_true, if_true, if_false, reduceIte, Option.bind_some, List.getElem?_cons_zero, List.getElem?_cons_succ, Nat.reduceAdd, Nat.reduceSub, Nat.reduceLT, Nat.reduceLeDiff, Nat.le_refl, Nat.zero_add, Nat.add_zero, List.length_cons, List.length_nil, Int32.reduceLT, Int32.reduceToNatClampNeg, Int32.reduceAdd, Int32.reduceSub, Int32.reduceMul, decide_true, ex_iastore, ast, astL, pI_int, pL_long, pR_ref, arr, isT, isBZ, nar, List.set_cons_zero, List.set_cons_succ]
  refine t0_33 hgo rfl ?_
  refine t0_34 hgo ?_
  refine t0_36 hgo ?_
  refine res_of (u0_38 hgo) ?_
  simp only [eq_self, and_self, true_and, and_true, not_true_eq_false, not_false_eq_true, if_true, if_false, reduceIte, Option.bind_some, List.getElem?_cons_zero, List.getElem?_cons_succ, Nat.reduceAdd, Nat.reduceSub, Nat.reduceLT, Nat.reduceLeDiff, Nat.le_refl, Nat.zero_add, Nat.add_zero, List.length_cons, List.length_nil, Int32.reduceLT, Int32.reduceToNatClampNeg, Int32.reduceAdd, Int32.reduceSub, Int32.reduceMul, decide_true, ex_iastore, ast, astL, pI_int, pL_long, pR_ref, arr, isT, isBZ, nar, List.set_cons_zero, List.set_cons_succ]
  refine t0_39 hgo rfl ?_
  refine t0_40 hgo ?_
  refine t0_42 hgo ?_
  refine res_of (u0_44 hgo) ?_
  simp only [eq_self, and_self, true_and, and_true, not_true_eq_false, not_false_eq_true, if_true, if_false, reduceIte, Option.bind_some, List.getElem?_cons_zero, List.getElem?_cons_succ, Nat.reduceAdd, Nat.reduceSub, Nat.reduceLT, Nat.reduceLeDiff, Nat.le_refl, Nat.zero_add, Nat.add_zero, List.length_cons, List.length_nil, Int32.reduceLT, Int32.reduceToNatClampNeg, Int32.reduceAdd, Int32.reduceSub, Int32.reduceMul, decide_true, ex_iastore, ast, astL, pI_int, pL_long, pR_ref, arr, isT, isBZ, nar, List.set_cons_zero, List.set_cons_succ]
  refine t0_45 hgo rfl ?_
  refine t0_46 hgo ?_
  refine t0_48 hgo ?_
  refine res_of (u0_51 hgo) ?_
  simp only [eq_self, and_self, true_and, and_true, not_true_eq_false, not_false_eq_true, if_true, if_false, reduceIte, Option.bind_some, List.getElem?_cons_zero, List.getElem?_cons_succ, Nat.reduceAdd, Nat.reduceSub, Nat.reduceLT, Nat.reduceLeDiff, Nat.le_refl, Nat.zero_add, Nat.add_zero, List.length_cons, List.length_nil, Int32.reduceLT, Int32.reduceToNatClampNeg, Int32.reduceAdd, Int32.reduceSub, Int32.reduceMul, decide_true, ex_iastore, ast, astL, pI_int, pL_long, pR_ref, arr, isT, isBZ, nar, List.set_cons_zero, List.set_cons_succ]
  refine t0_52 hgo rfl ?_
  refine t0_53 hgo ?_
  refine t0_55 hgo ?_
  refine res_of (u0_58 hgo) ?_
  simp only [eq_self, and_self, true_and, and_true, not_true_eq_false, not_false_eq_true, if_true, if_false, reduceIte, Option.bind_some, List.getElem?_cons_zero, List.getElem?_cons_succ, Nat.reduceAdd, Nat.reduceSub, Nat.reduceLT, Nat.reduceLeDiff, Nat.le_refl, Nat.zero_add, Nat.add_zero, List.length_cons, List.length_nil, Int32.reduceLT, Int32.reduceToNatClampNeg, Int32.reduceAdd, Int32.reduceSub, Int32.reduceMul, decide_true, ex_iastore, ast, astL, pI_int, pL_long, pR_ref, arr, isT, isBZ, nar, List.set_cons_zero, List.set_cons_succ]
  refine t0_59 hgo rfl ?_
  refine t0_60 hgo ?_
  refine t0_62 hgo ?_
  refine res_of (u0_65 hgo) ?_
  simp only [eq_self, and_self, true_and, and_true, not_true_eq_false, not_false_eq_true, if_true, if_false, reduceIte, Option.bind_some, List.getElem?_cons_zero, List.getElem?_cons_succ, Nat.reduceAdd, Nat.reduceSub, Nat.reduceLT, Nat.reduceLeDiff, Nat.le_refl, Nat.zero_add, Nat.add_zero, List.length_cons, List.length_nil, Int32.reduceLT, Int32.reduceToNatClampNeg, Int32.reduceAdd, Int32.reduceSub, Int32.reduceMul, decide_true, ex_iastore, ast, astL, pI_int, pL_long, pR_ref, arr, isT, isBZ, nar, List.set_cons_zero, List.set_cons_succ]
  refine t0_66 hgo rfl ?_
  refine t0_67 hgo ?_
  refine t0_69 hgo ?_
  refine res_of (u0_72 hgo) ?_
  simp only [eq_self, and_self, true_and, and_true, not_true_eq_false, not_false_eq_true, if_true, if_false, reduceIte, Option.bind_some, List.getElem?_cons_zero, List.getElem?_cons_succ, Nat.reduceAdd, Nat.reduceSub, Nat.reduceLT, Nat.reduceLeDiff, Nat.le_refl, Nat.zero_add, Nat.add_zero, List.length_cons, List.length_nil, Int32.reduceLT, Int32.reduceToNatClampNeg, Int32.reduceAdd, Int32.reduceSub, Int32.reduceMul, decide_true, ex_iastore, ast, astL, pI_int, pL_long, pR_ref, arr, isT, isBZ, nar, List.set_cons_zero, List.set_cons_succ]
  refine t0_73 hgo rfl ?_
  refine t0_74 hgo ?_
  refine t0_76 hgo ?_
  refine res_of (u0_79 hgo) ?_
  simp only [eq_self, and_self, true_and, and_true, not_true_eq_false, not_false_eq_true, if_true, if_false, reduceIte, Option.bind_some, List.getElem?_cons_zero, List.getElem?_cons_succ, Nat.reduceAdd, Nat.reduceSub, Nat.reduceLT, Nat.reduceLeDiff, Nat.le_refl, Nat.zero_add, Nat.add_zero, List.length_cons, List.length_nil, Int32.reduceLT, Int32.reduceToNatClampNeg, Int32.reduceAdd, Int32.reduceSub, Int32.reduceMul, decide_true, ex_iastore, ast, astL, pI_int, pL_long, pR_ref, arr, isT, isBZ, nar, List.set_cons_zero, List.set_cons_succ]
  refine t0_80 hgo rfl ?_
  refine t0_81 hgo ?_
  refine t0_83 hgo ?_
  refine res_of (u0_86 hgo) ?_
  simp only [eq_self, and_self, true_and, and_true, not_true_eq_false, not_false_eq_true, if_true, if_false, reduceIte, Option.bind_some, List.getElem?_cons_zero, List.getElem?_cons_succ, Nat.reduceAdd, Nat.reduceSub, Nat.reduceLT, Nat.reduceLeDiff, Nat.le_refl, Nat.zero_add, Nat.add_zero, List.length_cons, List.length_nil, Int32.reduceLT, Int32.reduceToNatClampNeg, Int32.reduceAdd, Int32.reduceSub, Int32.reduceMul, decide_true, ex_iastore, ast, astL, pI_int, pL_long, pR_ref, arr, isT, isBZ, nar, List.set_cons_zero, List.set_cons_succ]
  refine t0_87 hgo rfl ?_
  refine t0_88 hgo ?_
  refine t0_90 hgo ?_
  refine res_of (u0_93 hgo) ?_
  simp only [eq_self, and_self, true_and, and_true, not_true_eq_false, not_false_eq_true, if_true, if_false, reduceIte, Option.bind_some, List.getElem?_cons_zero, List.getElem?_cons_succ, Nat.reduceAdd, Nat.reduceSub, Nat.reduceLT, Nat.reduceLeDiff, Nat.le_refl, Nat.zero_add, Nat.add_zero, List.length_cons, List.length_nil, Int32.reduceLT, Int32.reduceToNatClampNeg, Int32.reduceAdd, Int32.reduceSub, Int32.reduceMul, decide_true, ex_iastore, ast, astL, pI_int, pL_long, pR_ref, arr, isT, isBZ, nar, List.set_cons_zero, List.set_cons_succ]
  refine t0_94 hgo rfl ?_
  refine t0_95 hgo ?_
  refine t0_97 hgo ?_
  refine res_of (u0_100 hgo) ?_
  simp only [eq_self, and_self, true_and, and_true, not_true_eq_false, not_false_eq_true, if_true, if_false, reduceIte, Option.bind_some, List.getElem?_cons_zero, List.getElem?_cons_succ, Nat.reduceAdd, Nat.reduceSub, Nat.reduceLT, Nat.reduceLeDiff, Nat.le_refl, Nat.zero_add, Nat.add_zero, List.length_cons, List.length_nil, Int32.reduceLT, Int32.reduceToNatClampNeg, Int32.reduceAdd, Int32.reduceSub, Int32.reduceMul, decide_true, ex_iastore, ast, astL, pI_int, pL_long, pR_ref, arr, isT, isBZ, nar, List.set_cons_zero, List.set_cons_succ]
  refine t0_101 hgo rfl ?_
  refine t0_102 hgo ?_
  refine t0_104 hgo ?_
  refine res_of (u0_107 hgo) ?_
  simp only [eq_self, and_self, true_and, and_true, not_true_eq_false, not_false_eq_true, if_true, if_false, reduceIte, Option.bind_some, List.getElem?_cons_zero, List.getElem?_cons_succ, Nat.reduceAdd, Nat.reduceSub, Nat.reduceLT, Nat.reduceLeDiff, Nat.le_refl, Nat.zero_add, Nat.add_zero, List.length_cons, List.length_nil, Int32.reduceLT, Int32.reduceToNatClampNeg, Int32.reduceAdd, Int32.reduceSub, Int32.reduceMul, decide_true, ex_iastore, ast, astL, pI_int, pL_long, pR_ref, arr, isT, isBZ, nar, List.set_cons_zero, List.set_cons_succ]
  refine t0_108 hgo rfl ?_
  refine t0_109 hgo ?_
  refine t0_111 hgo ?_
  refine res_of (u0_114 hgo) ?_
  simp only [eq_self, and_self, true_and, and_true, not_true_eq_false, not_false_eq_true, if_true, if_false, reduceIte, Option.bind_some, List.getElem?_cons_zero, List.getElem?_cons_succ, Nat.reduceAdd, Nat.reduceSub, Nat.reduceLT, Nat.reduceLeDiff, Nat.le_refl, Nat.zero_add, Nat.add_zero, List.length_cons, List.length_nil, Int32.reduceLT, Int32.reduceToNatClampNeg, Int32.reduceAdd, Int32.reduceSub, Int32.reduceMul, decide_true, ex_iastore, ast, astL, pI_int, pL_long, pR_ref, arr, isT, isBZ, nar, List.set_cons_zero, List.set_cons_succ]
  refine t0_115 hgo rfl ?_
  refine t0_116 hgo ?_
  refine t0_118 hgo ?_
  refine res_of (u0_121 hgo) ?_
  simp only [eq_self, and_self, true_and, and_true, not_true_eq_false, not_false_eq_true, if_true, if_false, reduceIte, Option.bind_some, List.getElem?_cons_zero, List.getElem?_cons_succ, Nat.reduceAdd, Nat.reduceSub, Nat.reduceLT, Nat.reduceLeDiff, Nat.le_refl, Nat.zero_add, Nat.add_zero, List.length_cons, List.length_nil, Int32.reduceLT, Int32.reduceToNatClampNeg, Int32.reduceAdd, Int32.reduceSub, Int32.reduceMul, decide_true, ex_iastore, ast, astL, pI_int, pL_long, pR_ref, arr, isT, isBZ, nar, List.set_cons_zero, List.set_cons_succ]
  refine t0_122 hgo rfl ?_
  refine t0_123 hgo ?_
  refine t0_125 hgo ?_
  refine res_of (u0_128 hgo) ?_
  simp only [eq_self, and_self, true_and, and_true, not_true_eq_false, not_false_eq_true, if_true, if_false, reduceIte, Option.bind_some, List.getElem?_cons_zero, List.getElem?_cons_succ, Nat.reduceAdd, Nat.reduceSub, Nat.reduceLT, Nat.reduceLeDiff, Nat.le_refl, Nat.zero_add, Nat.add_zero, List.length_cons, List.length_nil, Int32.reduceLT, Int32.reduceToNatClampNeg, Int32.reduceAdd, Int32.reduceSub, Int32.reduceMul, decide_true, ex_iastore, ast, astL, pI_int, pL_long, pR_ref, arr, isT, isBZ, nar, List.set_cons_zero, List.set_cons_succ]
  refine t0_129 hgo rfl ?_
  refine t0_130 hgo ?_
  refine t0_132 hgo ?_
  refine res_of (u0_135 hgo) ?_
  simp only [eq_self, and_self, true_and, and_true, not_true_eq_false, not_false_eq_true, if_true, if_false, reduceIte, Option.bind_some, List.getElem?_cons_zero, List.getElem?_cons_succ, Nat.reduceAdd, Nat.reduceSub, Nat.reduceLT, Nat.reduceLeDiff, Nat.le_refl, Nat.zero_add, Nat.add_zero, List.length_cons, List.length_nil, Int32.reduceLT, Int32.reduceToNatClampNeg, Int32.reduceAdd, Int32.reduceSub, Int32.reduceMul, decide_true, ex_iastore, ast, astL, pI_int, pL_long, pR_ref, arr, isT, isBZ, nar, List.set_cons_zero, List.set_cons_succ]
  refine t0_136 hgo rfl ?_
  refine t0_137 hgo ?_
  refine t0_139 hgo ?_
  refine res_of (u0_142 hgo) ?_
  simp only [eq_self, and_self, true_and, and_true, not_true_eq_false, not_false_eq_true, if_true, if_false, reduceIte, Option.bind_some, List.getElem?_cons_zero, List.getElem?_cons_succ, Nat.reduceAdd, Nat.reduceSub, Nat.reduceLT, Nat.reduceLeDiff, Nat.le_refl, Nat.zero_add, Nat.add_zero, List.length_cons, List.length_nil, Int32.reduceLT, Int32.reduceToNatClampNeg, Int32.reduceAdd, Int32.reduceSub, Int32.reduceMul, decide_true, ex_iastore, ast, astL, pI_int, pL_long, pR_ref, arr, isT, isBZ, nar, List.set_cons_zero, List.set_cons_succ]
  refine t0_143 hgo rfl ?_
  refine t0_144 hgo ?_
  refine t0_146 hgo ?_
  refine res_of (u0_149 hgo) ?_
  simp only [eq_self, and_self, true_and, and_true, not_true_eq_false, not_false_eq_true, if_true, if_false, reduceIte, Option.bind_some, List.getElem?_cons_zero, List.getElem?_cons_succ, Nat.reduceAdd, Nat.reduceSub, Nat.reduceLT, Nat.reduceLeDiff, Nat.le_refl, Nat.zero_add, Nat.add_zero, List.length_cons, List.length_nil, Int32.reduceLT, Int32.reduceToNatClampNeg, Int32.reduceAdd, Int32.reduceSub, Int32.reduceMul, decide_true, ex_iastore, ast, astL, pI_int, pL_long, pR_ref, arr, isT, isBZ, nar, List.set_cons_zero, List.set_cons_succ]
  refine t0_150 hgo rfl ?_
  refine t0_151 hgo ?_
  refine t0_153 hgo ?_
  refine res_of (u0_156 hgo) ?_
  simp only [eq_self, and_self, true_and, and_true, not_true_eq_false, not_false_eq_true, if_true, if_false, reduceIte, Option.bind_some, List.getElem?_cons_zero, List.getElem?_cons_succ, Nat.reduceAdd, Nat.reduceSub, Nat.reduceLT, Nat.reduceLeDiff, Nat.le_refl, Nat.zero_add, Nat.add_zero, List.length_cons, List.length_nil, Int32.reduceLT, Int32.reduceToNatClampNeg, Int32.reduceAdd, Int32.reduceSub, Int32.reduceMul, decide_true, ex_iastore, ast, astL, pI_int, pL_long, pR_ref, arr, isT, isBZ, nar, List.set_cons_zero, List.set_cons_succ]
  refine t0_157 hgo rfl ?_
  refine t0_158 hgo ?_
  refine t0_160 hgo ?_
  refine res_of (u0_163 hgo) ?_
  simp only [eq_self, and_self, true_and, and_true, not_true_eq_false, not_false_eq_true, if_true, if_false, reduceIte, Option.bind_some, List.getElem?_cons_zero, List.getElem?_cons_succ, Nat.reduceAdd, Nat.reduceSub, Nat.reduceLT, Nat.reduceLeDiff, Nat.le_refl, Nat.zero_add, Nat.add_zero, List.length_cons, List.length_nil, Int32.reduceLT, Int32.reduceToNatClampNeg, Int32.reduceAdd, Int32.reduceSub, Int32.reduceMul, decide_true, ex_iastore, ast, astL, pI_int, pL_long, pR_ref, arr, isT, isBZ, nar, List.set_cons_zero, List.set_cons_succ]
  refine t0_164 hgo rfl ?_
  refine t0_165 hgo ?_
  refine t0_167 hgo ?_
  refine res_of (u0_170 hgo) ?_
  simp only [eq_self, and_self, true_and, and_true, not_true_eq_false, not_false_eq_true, if_true, if_false, reduceIte, Option.bind_some, List.getElem?_cons_zero, List.getElem?_cons_succ, Nat.reduceAdd, Nat.reduceSub, Nat.reduceLT, Nat.reduceLeDiff, Nat.le_refl, Nat.zero_add, Nat.add_zero, List.length_cons, List.length_nil, Int32.reduceLT, Int32.reduceToNatClampNeg, Int32.reduceAdd, Int32.reduceSub, Int32.reduceMul, decide_true, ex_iastore, ast, astL, pI_int, pL_long, pR_ref, arr, isT, isBZ, nar, List.set_cons_zero, List.set_cons_succ]
  refine t0_171 hgo rfl ?_
  refine t0_172 hgo ?_
  refine t0_174 hgo ?_
  refine res_of (u0_176 hgo) ?_
  simp only [eq_self, and_self, true_and, and_true, not_true_eq_false, not_false_eq_true, if_true, if_false, reduceIte, Option.bind_some, List.getElem?_cons_zero, List.getElem?_cons_succ, Nat.reduceAdd, Nat.reduceSub, Nat.reduceLT, Nat.reduceLeDiff, Nat.le_refl, Nat.zero_add, Nat.add_zero, List.length_cons, List.length_nil, Int32.reduceLT, Int32.reduceToNatClampNeg, Int32.reduceAdd, Int32.reduceSub, Int32.reduceMul, decide_true, ex_iastore, ast, astL, pI_int, pL_long, pR_ref, arr, isT, isBZ, nar, List.set_cons_zero, List.set_cons_succ]
  refine t0_177 hgo rfl ?_
  refine t0_178 hgo ?_
  refine t0_180 hgo ?_
  refine res_of (u0_182 hgo) ?_
  simp only [eq_self, and_self, true_and, and_true, not_true_eq_false, not_false_eq_true, if_true, if_false, reduceIte, Option.bind_some, List.getElem?_cons_zero, List.getElem?_cons_succ, Nat.reduceAdd, Nat.reduceSub, Nat.reduceLT, Nat.reduceLeDiff, Nat.le_refl, Nat.zero_add, Nat.add_zero, List.length_cons, List.length_nil, Int32.reduceLT, Int32.reduceToNatClampNeg, Int32.reduceAdd, Int32.reduceSub, Int32.reduceMul, decide_true, ex_iastore, ast, astL, pI_int, pL_long, pR_ref, arr, isT, isBZ, nar, List.set_cons_zero, List.set_cons_succ]
  refine t0_183 hgo rfl ?_
  refine t0_184 hgo ?_
  refine t0_186 hgo ?_
  refine res_of (u0_188 hgo) ?_
  simp only [eq_self, and_self, true_and, and_true, not_true_eq_false, not_false_eq_true, if_true, if_false, reduceIte, Option.bind_some, List.getElem?_cons_zero, List.getElem?_cons_succ, Nat.reduceAdd, Nat.reduceSub, Nat.reduceLT, Nat.reduceLeDiff, Nat.le_refl, Nat.zero_add, Nat.add_zero, List.length_cons, List.length_nil, Int32.reduceLT, Int32.reduceToNatClampNeg, Int32.reduceAdd, Int32.reduceSub, Int32.reduceMul, decide_true, ex_iastore, ast, astL, pI_int, pL_long, pR_ref, arr, isT, isBZ, nar, List.set_cons_zero, List.set_cons_succ]
  refine t0_189 hgo rfl ?_
  refine t0_190 hgo ?_
  refine t0_192 hgo ?_
  refine res_of (u0_194 hgo) ?_
  simp only [eq_self, and_self, true_and, and_true, not_true_eq_false, not_false_eq_true, if_true, if_false, reduceIte, Option.bind_some, List.getElem?_cons_zero, List.getElem?_cons_succ, Nat.reduceAdd, Nat.reduceSub, Nat.reduceLT, Nat.reduceLeDiff, Nat.le_refl, Nat.zero_add, Nat.add_zero, List.length_cons, List.length_nil, Int32.reduceLT, Int32.reduceToNatClampNeg, Int32.reduceAdd, Int32.reduceSub, Int32.reduceMul, decide_true, ex_iastore, ast, astL, pI_int, pL_long, pR_ref, arr, isT, isBZ, nar, List.set_cons_zero, List.set_cons_succ]
  refine t0_195 hgo rfl ?_
  refine t0_196 hgo ?_
  refine t0_198 hgo ?_
  refine res_of (u0_200 hgo) ?_
  simp only [eq_self, and_self, true_and, and_true, not_true_eq_false, not_false_eq_true, if_true, if_false, reduceIte, Option.bind_some, List.getElem?_cons_zero, List.getElem?_cons_succ, Nat.reduceAdd, Nat.reduceSub, Nat.reduceLT, Nat.reduceLeDiff, Nat.le_refl, Nat.zero_add, Nat.add_zero, List.length_cons, List.length_nil, Int32.reduceLT, Int32.reduceToNatClampNeg, Int32.reduceAdd, Int32.reduceSub, Int32.reduceMul, decide_true, ex_iastore, ast, astL, pI_int, pL_long, pR_ref, arr, isT, isBZ, nar, List.set_cons_zero, List.set_cons_succ]
  refine t0_201 hgo rfl ?_
  refine t0_202 hgo ?_
  refine t0_204 hgo ?_
  refine res_of (u0_206 hgo) ?_
  simp only [eq_self, and_self, true_and, and_true, not_true_eq_false, not_false_eq_true, if_true, if_false, reduceIte, Option.bind_some, List.getElem?_cons_zero, List.getElem?_cons_succ, Nat.reduceAdd, Nat.reduceSub, Nat.reduceLT, Nat.reduceLeDiff, Nat.le_refl, Nat.zero_add, Nat.add_zero, List.length_cons, List.length_nil, Int32.reduceLT, Int32.reduceToNatClampNeg, Int32.reduceAdd, Int32.reduceSub, Int32.reduceMul, decide_true, ex_iastore, ast, astL, pI_int, pL_long, pR_ref, arr, isT, isBZ, nar, List.set_cons_zero, List.set_cons_succ]
  refine t0_207 hgo rfl ?_
  refine t0_208 hgo ?_
  refine t0_210 hgo ?_
  refine res_of (u0_212 hgo) ?_
  simp only [eq_self, and_self, true_and, and_true, not_true_eq_false, not_false_eq_true, if_true, if_false, reduceIte, Option.bind_some, List.getElem?_cons_zero, List.getElem?_cons_succ, Nat.reduceAdd, Nat.reduceSub, Nat.reduceLT, Nat.reduceLeDiff, Nat.le_refl, Nat.zero_add, Nat.add_zero, List.length_cons, List.length_nil, Int32.reduceLT, Int32.reduceToNatClampNeg, Int32.reduceAdd, Int32.reduceSub, Int32.reduceMul, decide_true, ex_iastore, ast, astL, pI_int, pL_long, pR_ref, arr, isT, isBZ, nar, List.set_cons_zero, List.set_cons_succ]
  refine t0_213 hgo rfl ?_
  refine t0_214 hgo ?_
  refine t0_216 hgo ?_
  refine res_of (u0_218 hgo) ?_
  simp only [eq_self, and_self, true_and, and_true, not_true_eq_false, not_false_eq_true, if_true, if_false, reduceIte, Option.bind_some, List.getElem?_cons_zero, List.getElem?_cons_succ, Nat.reduceAdd, Nat.reduceSub, Nat.reduceLT, Nat.reduceLeDiff, Nat.le_refl, Nat.zero_add, Nat.add_zero, List.length_cons, List.length_nil, Int32.reduceLT, Int32.reduceToNatClampNeg, Int32.reduceAdd, Int32.reduceSub, Int32.reduceMul, decide_true, ex_iastore, ast, astL, pI_int, pL_long, pR_ref, arr, isT, isBZ, nar, List.set_cons_zero, List.set_cons_succ]
  refine t0_219 hgo rfl ?_
  refine t0_220 hgo ?_
  refine t0_222 hgo ?_
  refine res_of (u0_224 hgo) ?_
  simp only [eq_self, and_self, true_and, and_true, not_true_eq_false, not_false_eq_true, if_true, if_false, reduceIte, Option.bind_some, List.getElem?_cons_zero, List.getElem?_cons_succ, Nat.reduceAdd, Nat.reduceSub, Nat.reduceLT, Nat.reduceLeDiff, Nat.le_refl, Nat.zero_add, Nat.add_zero, List.length_cons, List.length_nil, Int32.reduceLT, Int32.reduceToNatClampNeg, Int32.reduceAdd, Int32.reduceSub, Int32.reduceMul, decide_true, ex_iastore, ast, astL, pI_int, pL_long, pR_ref, arr, isT, isBZ, nar, List.set_cons_zero, List.set_cons_succ]
  refine t0_225 hgo rfl rfl ?_
  by_cases hs : v3 &&& 1 = 0
  · skip
    refine t0_227 hgo ?_
    refine t0_228 hgo ?_
    refine t0_229 hgo ?_
    refine t0_230t hgo hs ?_
    refine t0_239 hgo ?_
    refine t0_240 hgo ?_
    refine t0_242 hgo ?_
    refine t0_243 hgo rfl ?_
    refine res_of (u0_245 hgo) ?_
    simp only [eq_self, and_self, true_and, and_true, not_true_eq_false, not_false_eq_true, if_true, if_false, reduceIte, Option.bind_some, List.getElem?_cons_zero, List.getElem?_cons_succ, Nat.reduceAdd, Nat.reduceSub, Nat.reduceLT, Nat.reduceLeDiff, Nat.le_refl, Nat.zero_add, Nat.add_zero, List.length_cons, List.length_nil, Int32.reduceLT, Int32.reduceToNatClampNeg, Int32.reduceAdd, Int32.reduceSub, Int32.reduceMul, decide_true, pR_ref, arr, ln0, ln1, ln2, ln3, ln4, ln5, ln6, ln7, ln8, ln9, ln10, ln11, ln12, ln13, ln14, ln15, ln16, ln17, ln18, ln19, ln20, ln21, ln22, ln23, ln24, ln25, ln26, ln27, ln28, ln29, ln30, ln31, ln32, ln33, ln34, ln35, ln36, hj, hw, F1_eq hV, F2_eq]
    refine t0_246 hgo (by decide) ?_
    refine t0_247 hgo rfl ?_
    refine t0_249 hgo ?_
    refine t0_250 hgo ?_
    refine t0_252 hgo ?_
    refine t0_253 hgo ?_
    refine t0_254 hgo (by decide) ?_
    refine t0_255 hgo ?_
    refine t0_256 hgo ?_
    refine t0_257 hgo rfl ?_
    refine t0_259 hgo rfl ?_
    refine t0_261 hgo ?_
    refine res_of (u0_263 hgo) ?_
    simp only [eq_self, and_self, true_and, and_true, not_true_eq_false, not_false_eq_true, if_true, if_false, reduceIte, Option.bind_some, List.getElem?_cons_zero, List.getElem?_cons_succ, Nat.reduceAdd, Nat.reduceSub, Nat.reduceLT, Nat.reduceLeDiff, Nat.le_refl, Nat.zero_add, Nat.add_zero, List.length_cons, List.length_nil, Int32.reduceLT, Int32.reduceToNatClampNeg, Int32.reduceAdd, Int32.reduceSub, Int32.reduceMul, decide_true, ex_iaload, ald, pI_int, pR_ref, arr, isT, isBZ, hj, hw, F1_eq hV, F2_eq]
    refine t0_264 hgo ?_
    refine t0_266 hgo ?_
    refine t0_267 hgo rfl ?_
    refine t0_269 hgo ?_
    refine res_of (u0_271 hgo) ?_
    simp only [eq_self, and_self, true_and, and_true, not_true_eq_false, not_false_eq_true, if_true, if_false, reduceIte, Option.bind_some, List.getElem?_cons_zero, List.getElem?_cons_succ, Nat.reduceAdd, Nat.reduceSub, Nat.reduceLT, Nat.reduceLeDiff, Nat.le_refl, Nat.zero_add, Nat.add_zero, List.length_cons, List.length_nil, Int32.reduceLT, Int32.reduceToNatClampNeg, Int32.reduceAdd, Int32.reduceSub, Int32.reduceMul, decide_true, aCall, aRecv, aObj, obj, List.take_succ_cons, List.take_zero, List.drop_succ_cons, List.drop_zero, List.reverse_cons, List.reverse_nil, List.nil_append, List.cons_append, List.append_nil, List.map_cons, List.map_nil, List.sum_cons, List.sum_nil, cat_int, cat_long, cat_ref, cat_null, Option.toList_some, Option.toList_none, hj, hw, F1_eq hV, F2_eq]
    refine t0_274 hgo ?_
    refine res_of (u0_276 hgo) ?_
    simp only [eq_self, and_self, true_and, and_true, not_true_eq_false, not_false_eq_true, if_true, if_false, reduceIte, Option.bind_some, List.getElem?_cons_zero, List.getElem?_cons_succ, Nat.reduceAdd, Nat.reduceSub, Nat.reduceLT, Nat.reduceLeDiff, Nat.le_refl, Nat.zero_add, Nat.add_zero, List.length_cons, List.length_nil, Int32.reduceLT, Int32.reduceToNatClampNeg, Int32.reduceAdd, Int32.reduceSub, Int32.reduceMul, decide_true, aCall, aRecv, aObj, obj, List.take_succ_cons, List.take_zero, List.drop_succ_cons, List.drop_zero, List.reverse_cons, List.reverse_nil, List.nil_append, List.cons_append, List.append_nil, List.map_cons, List.map_nil, List.sum_cons, List.sum_nil, cat_int, cat_long, cat_ref, cat_null, Option.toList_some, Option.toList_none, hj, hw, F1_eq hV, F2_eq]
    refine t0_279t hgo rfl ?_
    refine t0_282 hgo ?_
    refine t0_283 hgo ?_
    refine t0_287 hgo ?_
    exact one_b
  · skip
    refine t0_227 hgo ?_
    refine t0_228 hgo ?_
    refine t0_229 hgo ?_
    refine t0_230f hgo hs ?_
    refine t0_233 hgo ?_
    refine t0_234 hgo rfl ?_
    refine t0_236 hgo ?_
    refine t0_269 hgo ?_
    refine res_of (u0_271 hgo) ?_
    simp only [eq_self, and_self, true_and, and_true, not_true_eq_false, not_false_eq_true, if_true, if_false, reduceIte, Option.bind_some, List.getElem?_cons_zero, List.getElem?_cons_succ, Nat.reduceAdd, Nat.reduceSub, Nat.reduceLT, Nat.reduceLeDiff, Nat.le_refl, Nat.zero_add, Nat.add_zero, List.length_cons, List.length_nil, Int32.reduceLT, Int32.reduceToNatClampNeg, Int32.reduceAdd, Int32.reduceSub, Int32.reduceMul, decide_true, aCall, aRecv, aObj, obj, List.take_succ_cons, List.take_zero, List.drop_succ_cons, List.drop_zero, List.reverse_cons, List.reverse_nil, List.nil_append, List.cons_append, List.append_nil, List.map_cons, List.map_nil, List.sum_cons, List.sum_nil, cat_int, cat_long, cat_ref, cat_null, Option.toList_some, Option.toList_none, hj, hw, F1_eq hV, F2_eq]
    refine t0_274 hgo ?_
    refine res_of (u0_276 hgo) ?_
    simp only [eq_self, and_self, true_and, and_true, not_true_eq_false, not_false_eq_true, if_true, if_false, reduceIte, Option.bind_some, List.getElem?_cons_zero, List.getElem?_cons_succ, Nat.reduceAdd, Nat.reduceSub, Nat.reduceLT, Nat.reduceLeDiff, Nat.le_refl, Nat.zero_add, Nat.add_zero, List.length_cons, List.length_nil, Int32.reduceLT, Int32.reduceToNatClampNeg, Int32.reduceAdd, Int32.reduceSub, Int32.reduceMul, decide_true, aCall, aRecv, aObj, obj, List.take_succ_cons, List.take_zero, List.drop_succ_cons, List.drop_zero, List.reverse_cons, List.reverse_nil, List.nil_append, List.cons_append, List.append_nil, List.map_cons, List.map_nil, List.sum_cons, List.sum_nil, cat_int, cat_long, cat_ref, cat_null, Option.toList_some, Option.toList_none, hj, hw, F1_eq hV, F2_eq]
    refine t0_279t hgo rfl ?_
    refine t0_282 hgo ?_
    refine t0_283 hgo ?_
    refine t0_287 hgo ?_
    exact one_b
set_option maxRecDepth 65536 in
set_option maxHeartbeats 40000000 in
theorem comes_1 {Post : Tables → Env → Array Value → State → Outcome → State → Prop} (hpost : ∀ tb e args s v u, (limb_1_1.after args s (.returned v) u = true ∧ limb_1_2.after args s (.returned v) u = true ∧ True) → FrameEnd s (.returned v) u (Jvm.fieldLocs frame_1_writes args s ++ Jvm.arrayLocs frame_1_arrays args s ++ Jvm.staticLocs frame_1_statics s) 16 192 → Post tb e args s (.returned v) u) :
    ArmFor flags0 classFile x code maxLocals ret World_1 tables_1 room_1 Calls_1 rest_1 Pre_1 Post := by
  intro l hfl _ _ p e ha hc hk s m args below hf hA hF happ hP
  obtain ⟨hcalls, hrest, hpre⟩ := hP
  obtain ⟨-, -, -, hnamed, -, -, -, hat⟩ := (Spec.applies_iff hf).mp happ
  obtain ⟨hg, hn⟩ := and_e (Cond.before_iff.mp (show (Jvm.Cond.and given_1 narrow_1).before args s = true from hpre))
  obtain ⟨g0, g1⟩ := and_e hg
  obtain ⟨i1, g2⟩ := and_e g1
  obtain ⟨i2, g3⟩ := and_e g2
  obtain ⟨i3, g4⟩ := and_e g3
  obtain ⟨w0, w1, w2, w3, rfl⟩ : ∃ w0 w1 w2 w3 : Value, args = #[w0, w1, w2, w3] := by
    have hs : args.size = 4 := by simpa [Cond.value, given_1] using g0
    obtain ⟨L⟩ := args
    match L, hs with
    | [w0, w1, w2, w3], _ => exact ⟨w0, w1, w2, w3, rfl⟩
  have hw := fun d (hd : d ∈ tables_1) => atoms_spec (ws := Jvm.Cond.code x code maxLocals ret :: tables_1) hat d (List.mem_cons_of_mem _ hd)
  obtain ⟨v0, e0⟩ := is_v i1
  obtain rfl : w0 = (.int v0) := Option.some.inj e0
  obtain ⟨v1, e1⟩ := is_v i2
  obtain rfl : w1 = (.int v1) := Option.some.inj e1
  obtain ⟨v2, e2⟩ := is_v i3
  obtain rfl : w2 = (.int v2) := Option.some.inj e2
  obtain ⟨v3, e3⟩ := is_v g4
  obtain rfl : w3 = (.int v3) := Option.some.inj e3
  obtain ⟨nA, hn⟩ := and_e hn
  obtain ⟨nL, hn⟩ := and_e hn
  obtain ⟨z1, hn⟩ := and_e hn
  obtain ⟨o58, hn⟩ := and_e hn
  obtain ⟨z2, hn⟩ := and_e hn
  obtain ⟨u1, hn⟩ := and_e hn
  obtain ⟨z3, hn⟩ := and_e hn
  obtain ⟨o95, hn⟩ := and_e hn
  obtain ⟨o96, hn⟩ := and_e hn
  obtain ⟨u2, hn⟩ := and_e hn
  obtain ⟨ax, ex⟩ := arr_v nA
  have et := fun (idx : List Nat) => (show (Term.static "com/example/tariffwire/tariffwire/xml/XmlChars" "ASCII_NAME_START" "[Z").eval #[Value.int v0, Value.int v1, Value.int v2, Value.int v3] s none idx s = some (.ref ax) from ex)
  obtain ⟨cl, A⟩ := Arr.start ex nA
  have hcl : s.arrayAt? ax = some cl := A.fin (Vm.Alike.refl _)
  obtain ⟨q, e128⟩ := len_el (eqv_i (Term.int_eval 128) nL) ex hcl
  have hsz : cl.slots.size = 128 := by
    have := len_toInt q
    rw [e128] at this
    have e : (128 : Int32).toInt = 128 := by decide
    omega
  have hV' : ∀ k, k < 128 → cl.slots[k]? = some (Value.int (own_ns k)) := by
    intro k hk
    have ej : (Nat.toInt32 k).toInt = (k : Int) := len_toInt (by omega)
    have hj : ¬ Nat.toInt32 k < 0 := by rw [Int32.lt_iff_toInt_lt, ej, Int32.toInt_zero]; omega
    have en : (Nat.toInt32 k).toNatClampNeg = k := by
      show (Nat.toInt32 k).toInt.toNat = k
      omega
    have hs : (Nat.toInt32 k).toNatClampNeg < cl.slots.size := by rw [en, hsz]; exact hk
    by_cases c1 : k < 58
    · have r := seg_lo et hcl z1 hj hs (lt_of ej (by decide : (58 : Int32).toInt = 58) (by omega))
      rw [en] at r; rw [r]; unfold own_ns; rw [if_neg (by omega)]
    by_cases c2 : k = 58
    · subst c2; exact elem_1 et hcl o58 (by decide)
    by_cases c3 : k < 65
    · have r := seg_in et hcl z2 hj hs (nlt_of ej (by decide : (59 : Int32).toInt = 59) (by omega)) (lt_of ej (by decide : (65 : Int32).toInt = 65) (by omega))
      rw [en] at r; rw [r]; unfold own_ns; rw [if_neg (by omega)]
    by_cases c4 : k < 91
    · have r := seg_in et hcl u1 hj hs (nlt_of ej (by decide : (65 : Int32).toInt = 65) (by omega)) (lt_of ej (by decide : (91 : Int32).toInt = 91) (by omega))
      rw [en] at r; rw [r]; unfold own_ns; rw [if_pos (by omega)]
    by_cases c5 : k < 95
    · have r := seg_in et hcl z3 hj hs (nlt_of ej (by decide : (91 : Int32).toInt = 91) (by omega)) (lt_of ej (by decide : (95 : Int32).toInt = 95) (by omega))
      rw [en] at r; rw [r]; unfold own_ns; rw [if_neg (by omega)]
    by_cases c6 : k = 95
    · subst c6; exact elem_1 et hcl o95 (by decide)
    by_cases c7 : k = 96
    · subst c7; exact elem_1 et hcl o96 (by decide)
    by_cases c8 : k < 123
    · have r := seg_in et hcl u2 hj hs (nlt_of ej (by decide : (97 : Int32).toInt = 97) (by omega)) (lt_of ej (by decide : (123 : Int32).toInt = 123) (by omega))
      rw [en] at r; rw [r]; unfold own_ns; rw [if_pos (by omega)]
    · have r := seg_hi et hcl hn hj hs (nlt_of ej (by decide : (123 : Int32).toInt = 123) (by omega))
      rw [en] at r; rw [r]; unfold own_ns; rw [if_neg (by omega)]
  have hV : ∀ k, k < 128 → cl.slots.toList[k]? = some (Value.int (own_ns k)) := fun k hk => by rw [Array.getElem?_toList]; exact hV' k hk
  have tA := Sta.start ex (Or.inr ⟨(hw _ (List.mem_of_getElem? (i := 12) rfl)), (hw _ (List.mem_of_getElem? (i := 15) rfl))⟩)
  have hst : OwnSta s (sgx [ax] s.heap.size) := tA
  have hsg : Sg (sgx [ax] s.heap.size) 1 s.heap.size := sgx_ok (by
    intro a ha
    simp only [List.mem_cons, List.not_mem_nil, or_false] at ha
    subst ha
    exact arr_lt A) (by simp)
  have hrep : Rep s (sgx [ax] s.heap.size) 1 s.heap.size K s.heap [.inr (.boolean, cl.slots.toList)] := rep_x rfl (by
    intro k o h
    match k, h with
    | 0, h =>
      cases h
      refine repo_arr A q (fun k hk => ⟨own_ns k, hV' k (by omega), ?_⟩)
      unfold own_ns; split <;> rfl
    | k + 1, h => cases h)
  obtain ⟨H', hv⟩ := law_val v0 v1 v2 v3 cl.slots.toList hV
  obtain ⟨n, o, h1, h2, h3, _, L, rfl, ⟨rfl, -, N⟩, hq⟩ := says0 l (Z := s) (σ := sgx [ax] s.heap.size) (n0 := s.heap.size) hsg hw hst _ _ _ s.heap hv hrep p e ha hc hk s m _ below hf ((Spec.applies_iff_loose hf).mp happ).1 ⟨rfl, State.Warmed39.refl s, rfl⟩ trivial
  refine ⟨n, _, h1, h2, h3, hpost _ _ _ _ _ _ ⟨Cond.after_iff.mpr rfl, Cond.after_iff.mpr (eq_i res_at (Term.int_eval (1)) rfl), trivial⟩ ⟨hq.1, hq.2.1, (hq.2.2.sift fun y hy => Or.inr (N y hy)).mono (by decide) (by decide)⟩⟩
theorem main_1_1 : Claimed_1_1 := comes_1 fun _ _ _ _ _ _ h hF => ⟨h.1, hF⟩
theorem main_1_2 : Claimed_1_2 := comes_1 fun _ _ _ _ _ _ h hF => ⟨h.2.1, hF⟩
end Jvm.Pilot.@@N@@
namespace Jvm.Pilot.@@N@@
open Jvm Jvm.ClassFile Sem Op Lib Jvm.Free Jvm.Stand Jvm.Pilot.@@N@@.Jvm.D
/-! MADE BY PROGRAM (witnessworld.py) out of the Statement's table words and the real class files: 11 classes; the members and pool entries that the words name. The judged class is class 1, her method 4. -/
namespace start1
open Jvm.ClassFile
def u (s : String) : CpInfo := .utf8 (stringToUtf16 s)
/-- a pool by its gaps: so many unusable entries, then the entry; so many at the end -/
def gap : Nat → List CpInfo → List CpInfo
  | 0, r => r
  | n + 1, r => .unusable :: gap n r
def poolList (es : List (Nat × CpInfo)) (last : Nat) : List CpInfo := es.foldr (fun e r => gap e.1 (e.2 :: r)) (gap last [])
def pool (es : List (Nat × CpInfo)) (last : Nat) : Array CpInfo := ⟨poolList es last⟩
def fileOf (pool : Array CpInfo) (this : Nat) (attrs : Array Attribute := #[]) (ms : Array MethodInfo := #[]) (fl : Nat := 33) (sup : Nat := 0) (ifs : Array Nat := #[]) (fds : Array FieldInfo := #[]) : ClassFile where
  minorVersion := 0
  majorVersion := 65
  constantPool := pool
  accessFlags := fl
  thisClass := this
  superClass := sup
  interfaces := ifs
  fields := fds
  methods := ms
  attributes := attrs
def plain (name : String) (sup : Option ClassId) : Class where
  name := name
  kind := .ordinary
  loader := none
  accessFlags := 33
  super := sup
  interfaces := #[]
  cf := none
  fields := #[]
  methods := #[]
  instanceTypes := #[]
  staticTypes := #[]
  resolved := #[]
  callSites := []
  init := .initialized
  statics := none
  mirror := none

def pool0 : Array CpInfo := pool [(5, u "<init>"), (0, u "()V"), (1, .class_ 10), (1, u "java/lang/Object")] 113

def k0m0 : Method := { name := "<init>", desc := "()V", sig := { parameters := [], returnType := none }, accessFlags := 1, code := none }
/-- java/lang/Object -/
def k0 : Class := { plain "java/lang/Object" none with
  accessFlags := 33
  interfaces := #[]
  cf := some (fileOf pool0 8 #[] #[{ accessFlags := 1, nameIndex := 5, descriptorIndex := 6, attributes := #[] }] 33 0 #[] #[])
  fields := #[]
  methods := #[k0m0]
  instanceTypes := #[]
  staticTypes := #[]
  resolved := Array.replicate 124 none
  statics := none }

def pool1 : Array CpInfo := pool [(2, .class_ 4), (1, u "java/lang/Object"), (0, u "<init>"), (0, u "()V"), (0, .methodref 8 9), (0, .class_ 10), (0, .nameAndType 11 12), (0, u "com/example/tariffwire/tariffwire/xml/XmlCharsIsNameStartPinLaw"), (0, u "in"), (0, u "(III)Z"), (0, .integer 55296), (0, .integer 63743), (0, .integer 64976), (0, .integer 65007), (0, .integer 65534), (0, .integer 65535), (0, .integer 983039), (0, .methodref 8 21), (0, .nameAndType 22 23), (0, u "gap"), (0, u "(I)Z"), (0, .integer 55295), (0, .integer 63744), (0, .integer 64975), (0, .integer 65008), (0, .integer 65533), (0, .integer 65536), (2, .integer 2147483650), (0, .integer 2147483645), (0, .integer 2147483647), (0, .methodref 36 37), (0, .class_ 38), (0, .nameAndType 39 23), (0, u "com/example/tariffwire/tariffwire/xml/XmlChars"), (0, u "isNameStart"), (0, .methodref 8 41), (0, .nameAndType 42 23), (0, u "reference"), (3, u "law"), (0, u "(IIII)Z")] 4

def k1m0 : Method := { name := "<init>", desc := "()V", sig := { parameters := [], returnType := none }, accessFlags := 2, code := none }
def k1c1 : Code := { maxStack := 2, maxLocals := 3, code := method_2_code, exceptionTable := #[], attributes := #[] }
def k1m1 : Method := { name := "in", desc := "(III)Z", sig := { parameters := [.int, .int, .int], returnType := some .boolean }, accessFlags := 10, code := some k1c1 }
def k1c2 : Code := { maxStack := 3, maxLocals := 1, code := method_3_code, exceptionTable := #[], attributes := #[] }
def k1m2 : Method := { name := "gap", desc := "(I)Z", sig := { parameters := [.int], returnType := some .boolean }, accessFlags := 10, code := some k1c2 }
def k1c3 : Code := { maxStack := 3, maxLocals := 1, code := method_4_code, exceptionTable := #[], attributes := #[] }
def k1m3 : Method := { name := "reference", desc := "(I)Z", sig := { parameters := [.int], returnType := some .boolean }, accessFlags := 10, code := some k1c3 }
def k1c4 : Code := { maxStack := 4, maxLocals := 8, code := code, exceptionTable := #[], attributes := #[] }
def k1m4 : Method := { name := "law", desc := "(IIII)Z", sig := { parameters := [.int, .int, .int, .int], returnType := some .boolean }, accessFlags := 9, code := some k1c4 }
/-- com/example/tariffwire/tariffwire/xml/XmlCharsIsNameStartPinLaw -/
def k1 : Class := { plain "com/example/tariffwire/tariffwire/xml/XmlCharsIsNameStartPinLaw" (some 0) with
  accessFlags := 49
  interfaces := #[]
  cf := some (fileOf pool1 8 #[] #[{ accessFlags := 2, nameIndex := 5, descriptorIndex := 6, attributes := #[] }, { accessFlags := 10, nameIndex := 11, descriptorIndex := 12, attributes := #[] }, { accessFlags := 10, nameIndex := 22, descriptorIndex := 23, attributes := #[] }, { accessFlags := 10, nameIndex := 42, descriptorIndex := 23, attributes := #[] }, { accessFlags := 9, nameIndex := 46, descriptorIndex := 47, attributes := #[] }] 49 2 #[] #[])
  fields := #[]
  methods := #[k1m0, k1m1, k1m2, k1m3, k1m4]
  instanceTypes := #[]
  staticTypes := #[]
  resolved := Array.replicate 52 none
  statics := none }

def pool2 : Array CpInfo := pool [(2, .class_ 4), (1, u "java/lang/Object"), (0, u "<init>"), (0, u "()V"), (0, .fieldref 8 9), (0, .class_ 10), (0, .nameAndType 11 12), (0, u "com/example/tariffwire/tariffwire/xml/XmlChars"), (0, u "ASCII_NAME_START"), (0, u "[Z"), (2, u "ASCII_NAME"), (0, .integer 55295), (1, .integer 65533), (0, .integer 65536), (1, .integer 63744), (0, .integer 64975), (0, .integer 65008), (0, .integer 983039), (2, u "isNameStart"), (0, u "(I)Z")] 12

def k2m0 : Method := { name := "<init>", desc := "()V", sig := { parameters := [], returnType := none }, accessFlags := 2, code := none }
def k2c1 : Code := { maxStack := 2, maxLocals := 2, code := prog_114_method_5_code, exceptionTable := #[], attributes := #[] }
def k2m1 : Method := { name := "isNameStart", desc := "(I)Z", sig := { parameters := [.int], returnType := some .boolean }, accessFlags := 8, code := some k2c1 }
/-- com/example/tariffwire/tariffwire/xml/XmlChars -/
def k2 : Class := { plain "com/example/tariffwire/tariffwire/xml/XmlChars" (some 0) with
  accessFlags := 48
  interfaces := #[]
  cf := some (fileOf pool2 8 #[] #[{ accessFlags := 2, nameIndex := 5, descriptorIndex := 6, attributes := #[] }, { accessFlags := 8, nameIndex := 27, descriptorIndex := 28, attributes := #[] }] 48 2 #[] #[{ accessFlags := 26, nameIndex := 11, descriptorIndex := 12, attributes := #[] }, { accessFlags := 26, nameIndex := 15, descriptorIndex := 12, attributes := #[] }])
  fields := #[{ name := "ASCII_NAME_START", type := (.array .boolean), accessFlags := 26, slot := 0, constantValue := 0 }, { name := "ASCII_NAME", type := (.array .boolean), accessFlags := 26, slot := 1, constantValue := 0 }]
  methods := #[k2m0, k2m1]
  instanceTypes := #[]
  staticTypes := #[(.array .boolean), (.array .boolean)]
  resolved := Array.replicate 41 none
  statics := some 0 }

def pool3 : Array CpInfo := pool [(1, u "java/lang/Cloneable"), (0, .class_ 1), (0, u "java/lang/Object"), (0, .class_ 3)] 3

/-- java/lang/Cloneable -/
def k3 : Class := { plain "java/lang/Cloneable" (some 0) with
  accessFlags := 1537
  interfaces := #[]
  cf := some (fileOf pool3 2 #[] #[] 1537 4 #[] #[])
  fields := #[]
  methods := #[]
  instanceTypes := #[]
  staticTypes := #[]
  resolved := Array.replicate 8 none
  statics := none }

def pool4 : Array CpInfo := pool [(1, u "java/io/Serializable"), (0, .class_ 1), (0, u "java/lang/Object"), (0, .class_ 3)] 3

/-- java/io/Serializable -/
def k4 : Class := { plain "java/io/Serializable" (some 0) with
  accessFlags := 1537
  interfaces := #[]
  cf := some (fileOf pool4 2 #[] #[] 1537 4 #[] #[])
  fields := #[]
  methods := #[]
  instanceTypes := #[]
  staticTypes := #[]
  resolved := Array.replicate 8 none
  statics := none }

/-- the primitive boolean -/
def k5 : Class := { plain "boolean" none with kind := .primitive 'Z', accessFlags := 0x411 }
/-- [Z -/
def k6 : Class := { plain "[Z" (some 0) with kind := .array 5 .boolean, interfaces := #[3, 4], accessFlags := 1041 }

/-- the primitive byte -/
def k7 : Class := { plain "byte" none with kind := .primitive 'B', accessFlags := 0x411 }
/-- [B -/
def k8 : Class := { plain "[B" (some 0) with kind := .array 7 .byte, interfaces := #[3, 4], accessFlags := 1041 }

/-- the primitive int -/
def k9 : Class := { plain "int" none with kind := .primitive 'I', accessFlags := 0x411 }
/-- [I -/
def k10 : Class := { plain "[I" (some 0) with kind := .array 9 .int, interfaces := #[3, 4], accessFlags := 1041 }

def heap : Heap := #[{ cls := 2, slots := #[.ref 1, .null], vm := .statics 2 },
  { cls := 6, slots := #[.int 0, .int 0, .int 0, .int 0, .int 0, .int 0, .int 0, .int 0, .int 0, .int 0, .int 0, .int 0, .int 0, .int 0, .int 0, .int 0, .int 0, .int 0, .int 0, .int 0, .int 0, .int 0, .int 0, .int 0, .int 0, .int 0, .int 0, .int 0, .int 0, .int 0, .int 0, .int 0, .int 0, .int 0, .int 0, .int 0, .int 0, .int 0, .int 0, .int 0, .int 0, .int 0, .int 0, .int 0, .int 0, .int 0, .int 0, .int 0, .int 0, .int 0, .int 0, .int 0, .int 0, .int 0, .int 0, .int 0, .int 0, .int 0, .int 1, .int 0, .int 0, .int 0, .int 0, .int 0, .int 0, .int 1, .int 1, .int 1, .int 1, .int 1, .int 1, .int 1, .int 1, .int 1, .int 1, .int 1, .int 1, .int 1, .int 1, .int 1, .int 1, .int 1, .int 1, .int 1, .int 1, .int 1, .int 1, .int 1, .int 1, .int 1, .int 1, .int 0, .int 0, .int 0, .int 0, .int 1, .int 0, .int 1, .int 1, .int 1, .int 1, .int 1, .int 1, .int 1, .int 1, .int 1, .int 1, .int 1, .int 1, .int 1, .int 1, .int 1, .int 1, .int 1, .int 1, .int 1, .int 1, .int 1, .int 1, .int 1, .int 1, .int 1, .int 1, .int 0, .int 0, .int 0, .int 0, .int 0], vm := .none }]
def classes : Array Class := #[k0, k1, k2, k3, k4, k5, k6, k7, k8, k9, k10]
def interned : List (Array UInt16 × Addr) := []
def slotsUsed : Nat := 130
def theMethod : MethodId := ⟨1, 4⟩
def args0 : Array Value := #[.int 5, .int 3, .int 2, .int 1]
def aboutOver (below : List Frame) : State where
  vm := { classes := classes, interned := interned.toArray }
  heap := heap
  slotsUsed := slotsUsed
  threads := #[{ frames := .invoking theMethod args0 :: below }]
def below0 : List Frame := [.native { method := ⟨0, 0⟩, args := #[] }]
def about1 : State := aboutOver below0
def p0 : Program := .bare "" "" ""
def e0 : Env := launch0.env 0 0 0
theorem w_frames : about1.frames = Frame.invoking theMethod args0 :: below0 := rfl
set_option maxRecDepth 65536 in
theorem w_args : argsFit about1.vm theMethod args0 = true := by decide +kernel
set_option maxRecDepth 65536 in
theorem w_heap : heapFits about1 = true := by decide +kernel
set_option maxRecDepth 65536 in
theorem w_runnable : about1.curStatus? = some .runnable := by decide +kernel
set_option maxRecDepth 65536 in
theorem w_alone : about1.alone = true := by decide +kernel
set_option maxRecDepth 65536 in
theorem w_named : about1.methodNamed? x = some theMethod := by decide +kernel
set_option maxRecDepth 65536 in
theorem w_hears : about1.hears theMethod below0 = true := by decide +kernel
set_option maxRecDepth 65536 in
theorem w_ripe : about1.ripe theMethod args0 below0 = true := by decide +kernel
theorem w_running : about1.status = .running := rfl
set_option maxRecDepth 65536 in
theorem w_room : about1.hasRoom e0.platform room_1 = true :=
  launch0.hasRoom_least _ room_1 (by decide +kernel) (by decide +kernel) (by decide +kernel) (by decide +kernel) (by decide +kernel) (by decide +kernel)
theorem allAtoms_all (ts : List Jvm.Cond) (a : Array Jvm.Value) (st : Jvm.State) : (allAtoms ts).before a st = ts.all (fun c => c.before a st) := by
  induction ts with
  | nil => rfl
  | cons c t ih =>
    show (Jvm.Cond.and c (allAtoms t)).before a st = _
    rw [Jvm.Cond.before_and, ih, List.all_cons]
def words1 : List Jvm.Cond := Jvm.Cond.code x code maxLocals ret :: tables_1
/-- a 'code' word, met by the world's own term for the bytes: nothing is compared byte by byte -/
theorem code_word {y : MethodName} {bytes : ByteArray} {mx : Nat} {rt : Option FieldType} {a : Array Value} {s : State} {m : MethodId} {meth : Method} {c : Code} (h1 : s.methodNamed? y = some m) (h2 : s.vm.method? m = some meth) (h3 : meth.code = some c) (h4 : c.code = bytes)
    (h5 : (c.maxLocals == mx && c.exceptionTable.isEmpty && decide (c.maxStack ≤ mostOperands) && decide (meth.sig.returnType = rt) && !meth.locks && decide (parseMethodDescriptor y.desc = some meth.sig)) = true) : (Jvm.Cond.code y bytes mx rt).before a s = true := by
  simp only [Bool.and_eq_true, beq_iff_eq, Bool.not_eq_true', decide_eq_true_eq] at h5
  obtain ⟨⟨⟨⟨⟨g1, g2⟩, g3⟩, g4⟩, g5⟩, g6⟩ := h5
  simp [Cond.before, Cond.holds, Cond.value, h1, h2, h3, h4, g1, g2, g3, g4, g5, g6]
def isCode : Jvm.Cond → Bool
  | .code _ _ _ _ => true
  | _ => false
theorem all_split {L : List Jvm.Cond} {P : Jvm.Cond → Bool} (h1 : L.all (fun c => isCode c || P c) = true) (h2 : ∀ c ∈ L.filter isCode, P c = true) : L.all P = true := by
  refine List.all_eq_true.mpr fun c hc => ?_
  have h := List.all_eq_true.mp h1 c hc
  rcases Bool.eq_false_or_eq_true (isCode c) with hi | hi
  · exact h2 c (List.mem_filter.mpr ⟨hc, hi⟩)
  · simpa [hi] using h
set_option maxRecDepth 65536 in
theorem w_c0 : (Jvm.Cond.code x code maxLocals ret).before args0 about1 = true := code_word (m := ⟨1, 4⟩) (meth := k1m4) (c := k1c4) (by decide +kernel) rfl rfl rfl (by decide +kernel)
set_option maxRecDepth 65536 in
theorem w_c1 : (Jvm.Cond.code ({ cls := "com/example/tariffwire/tariffwire/xml/XmlChars", name := "isNameStart", desc := "(I)Z" } : Jvm.MethodName) prog_114_method_5_code (2 : Nat) (Option.some Jvm.ClassFile.FieldType.boolean)).before args0 about1 = true := code_word (m := ⟨2, 1⟩) (meth := k2m1) (c := k2c1) (by decide +kernel) rfl rfl rfl (by decide +kernel)
set_option maxRecDepth 65536 in
theorem w_c2 : (Jvm.Cond.code ({ cls := "com/example/tariffwire/tariffwire/xml/XmlCharsIsNameStartPinLaw", name := "reference", desc := "(I)Z" } : Jvm.MethodName) method_4_code (1 : Nat) (Option.some Jvm.ClassFile.FieldType.boolean)).before args0 about1 = true := code_word (m := ⟨1, 3⟩) (meth := k1m3) (c := k1c3) (by decide +kernel) rfl rfl rfl (by decide +kernel)
set_option maxRecDepth 65536 in
theorem w_c3 : (Jvm.Cond.code ({ cls := "com/example/tariffwire/tariffwire/xml/XmlCharsIsNameStartPinLaw", name := "in", desc := "(III)Z" } : Jvm.MethodName) method_2_code (3 : Nat) (Option.some Jvm.ClassFile.FieldType.boolean)).before args0 about1 = true := code_word (m := ⟨1, 1⟩) (meth := k1m1) (c := k1c1) (by decide +kernel) rfl rfl rfl (by decide +kernel)
set_option maxRecDepth 65536 in
theorem w_c4 : (Jvm.Cond.code ({ cls := "com/example/tariffwire/tariffwire/xml/XmlCharsIsNameStartPinLaw", name := "gap", desc := "(I)Z" } : Jvm.MethodName) method_3_code (1 : Nat) (Option.some Jvm.ClassFile.FieldType.boolean)).before args0 about1 = true := code_word (m := ⟨1, 2⟩) (meth := k1m2) (c := k1c2) (by decide +kernel) rfl rfl rfl (by decide +kernel)
def codes1 : List Jvm.Cond := [Jvm.Cond.code x code maxLocals ret, Jvm.Cond.code ({ cls := "com/example/tariffwire/tariffwire/xml/XmlChars", name := "isNameStart", desc := "(I)Z" } : Jvm.MethodName) prog_114_method_5_code (2 : Nat) (Option.some Jvm.ClassFile.FieldType.boolean), Jvm.Cond.code ({ cls := "com/example/tariffwire/tariffwire/xml/XmlCharsIsNameStartPinLaw", name := "reference", desc := "(I)Z" } : Jvm.MethodName) method_4_code (1 : Nat) (Option.some Jvm.ClassFile.FieldType.boolean), Jvm.Cond.code ({ cls := "com/example/tariffwire/tariffwire/xml/XmlCharsIsNameStartPinLaw", name := "in", desc := "(III)Z" } : Jvm.MethodName) method_2_code (3 : Nat) (Option.some Jvm.ClassFile.FieldType.boolean), Jvm.Cond.code ({ cls := "com/example/tariffwire/tariffwire/xml/XmlCharsIsNameStartPinLaw", name := "gap", desc := "(I)Z" } : Jvm.MethodName) method_3_code (1 : Nat) (Option.some Jvm.ClassFile.FieldType.boolean)]
set_option maxRecDepth 65536 in
theorem codes_eq : words1.filter isCode = codes1 := rfl
theorem w_codes : ∀ c ∈ words1.filter isCode, c.before args0 about1 = true := by
  rw [codes_eq]
  intro c hc
  simp only [codes1, List.mem_cons, List.not_mem_nil, or_false] at hc
  rcases hc with rfl | rfl | rfl | rfl | rfl
  · exact w_c0
  · exact w_c1
  · exact w_c2
  · exact w_c3
  · exact w_c4
set_option maxRecDepth 65536 in
theorem w_t1 : (words1.take 24).all (fun c => isCode c || c.before args0 about1) = true := by decide +kernel
set_option maxRecDepth 65536 in
theorem w_t2 : (words1.drop 24).all (fun c => isCode c || c.before args0 about1) = true := by decide +kernel
theorem w_tables : (allAtoms (Jvm.Cond.code x code maxLocals ret :: tables_1)).before args0 about1 = true := by
  rw [allAtoms_all]
  show words1.all (fun c => c.before args0 about1) = true
  refine all_split ?_ w_codes
  rw [← List.take_append_drop 24 words1, List.all_append, w_t1, w_t2]
  rfl
set_option maxRecDepth 65536 in
theorem w_case : (Jvm.Cond.and given_1 narrow_1).before args0 about1 = true := by decide +kernel
theorem w_applies : (headSpec (Jvm.Cond.code x code maxLocals ret :: tables_1) room_1).applies x e0.platform about1 = true :=
  (Spec.applies_iff w_frames).mpr ⟨w_running, w_runnable, w_alone, w_named, w_hears, w_ripe, w_room, w_tables⟩
theorem atStart : AtStart classFile x code maxLocals ret World_1 tables_1 room_1 Calls_1 rest_1 Pre_1 launch0 p0 e0 about1 theMethod args0 below0 :=
  ⟨lists_1, trivial, launch0.admits_env _ _ _, launch0.least_env, fairChoices_fair.cas, fairChoices_fair.clock, w_frames, w_args, w_heap, w_applies, trivial, trivial, w_case⟩
end start1
theorem witness_1 : WitnessClaimed_1 := ⟨start1.p0, start1.e0, start1.about1, start1.theMethod, start1.args0, start1.below0, start1.atStart⟩
end Jvm.Pilot.@@N@@
