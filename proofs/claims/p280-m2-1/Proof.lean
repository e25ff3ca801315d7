import JvmDerived
import JvmDerived.Pilot.@@N@@Statement
import JvmDerived.Pilot.@@N@@Code
set_option linter.unusedVariables false
set_option linter.unusedSimpArgs false
namespace Jvm.Own
open Sem ClassFile Op Lib Jvm.Stand Jvm.Free Jvm.LawKit Jvm.RoadKit
/-! ## 1. A machine over abstract states: refs are numbers of objects -/
abbrev Ob := Sum (Nat × List Value) (FieldType × List Value)
abbrev AH := List Ob
abbrev Act := List Value → AH → Nat → Nat → Option (List Value × AH × Nat × Nat)
abbrev St := Nat × List Slot × List Value × AH × Nat × Nat
abbrev ORes := Option Value × AH
def il : Instr → Nat
  | .aload _ | .astore _ | .iload _ | .istore _ | .lload _ | .lstore _ | .dload _ | .dstore _ | .bipush _ | .ldc _ | .newarray _ => 2
  | .sipush _ | .iinc _ _ | .goto _ | .if_icmp _ _ | .ifCond _ _ | .if_acmp _ _ | .ifnull _ | .ifnonnull _ | .ldc_w _ | .ldc2_w _ | .getfield _ | .putfield _ | .getstatic _ | .putstatic _ | .new _ | .anewarray _ | .checkcast _ | .instanceof _ | .invokestatic _ | .invokespecial _ | .invokevirtual _ => 3
  | .invokeinterface _ _ => 5
  | _ => 1
def dec (code : ByteArray) (pc : Nat) : Option Instr :=
  match decode code pc with
  | .ok (i, len) => if len = il i then some i else none
  | .error _ => none
theorem dec_spec {code : ByteArray} {pc : Nat} {i : Instr} (h : dec code pc = some i) : decode code pc = .ok (i, il i) := by
  unfold dec at h
  split at h
  · rename_i j len hd
    split at h
    · rename_i hl; cases h; rw [hd, hl]
    · cases h
  · cases h
def gI (L : List Slot) (k : Nat) : Option Int32 := match L[k]? with | some (.val (.int v)) => some v | _ => none
def gL (L : List Slot) (k : Nat) : Option Int64 := match L[k]? with | some (.val (.long v)) => some v | _ => none
def gA (L : List Slot) (k : Nat) : Option Value := match L[k]? with | some (.val (.ref a)) => some (.ref a) | some (.val .null) => some .null | _ => none
def st1 (L : List Slot) (k : Nat) (v : Value) : Option (List Slot) := match L[k]? with
  | some .unset => some (L.set k (.val v))
  | some (.val (.int _)) => some (L.set k (.val v))
  | some (.val (.ref _)) => some (L.set k (.val v))
  | some (.val .null) => some (L.set k (.val v))
  | _ => none
def st2 (L : List Slot) (k : Nat) (x : Int64) : Option (List Slot) := match L[k]?, L[k + 1]? with
  | some .unset, some .unset => some ((L.set k (.val (.long x))).set (k + 1) .second)
  | some (.val (.long _)), some .second => some ((L.set k (.val (.long x))).set (k + 1) .second)
  | _, _ => none
def gD (L : List Slot) (k : Nat) : Option UInt64 := match L[k]? with | some (.val (.double v)) => some v | _ => none
def st2D (L : List Slot) (k : Nat) (x : UInt64) : Option (List Slot) := match L[k]?, L[k + 1]? with
  | some .unset, some .unset => some ((L.set k (.val (.double x))).set (k + 1) .second)
  | some (.val (.double _)), some .second => some ((L.set k (.val (.double x))).set (k + 1) .second)
  | _, _ => none
def pD : List Value → (UInt64 → List Value → Option ORes) → Option ORes | .double x :: r, f => f x r | _, _ => none
def dcv (c : Fin 2) : UInt64 := if c = 0 then FP.dconst0 else FP.dconst1
def rD (rt : Option FieldType) (S : List Value) (H : AH) : Option ORes := pD S fun z _ => match rt with | some .double => some (some (.double z), H) | _ => none
def nNaN (x : UInt64) : Bool := decide (x &&& 0x7fffffffffffffff ≤ 0x7ff0000000000000)
theorem nNaN_ok {x : UInt64} (h : nNaN x = true) : x &&& 0x7fffffffffffffff ≤ 0x7ff0000000000000 := of_decide_eq_true h
theorem nNaN_of {x : UInt64} (h : x &&& 0x7fffffffffffffff ≤ 0x7ff0000000000000) : nNaN x = true := decide_eq_true h
def pI : List Value → (Int32 → List Value → Option ORes) → Option ORes | .int x :: r, f => f x r | _, _ => none
def pL : List Value → (Int64 → List Value → Option ORes) → Option ORes | .long x :: r, f => f x r | _, _ => none
def pA : List Value → (Value → List Value → Option ORes) → Option ORes | .ref a :: r, f => f (.ref a) r | .null :: r, f => f .null r | _, _ => none
def pR : List Value → (Nat → List Value → Option ORes) → Option ORes | .ref a :: r, f => f a r | _, _ => none
def p1 : List Value → (Value → List Value → Option ORes) → Option ORes | .int a :: r, f => f (.int a) r | .ref a :: r, f => f (.ref a) r | .null :: r, f => f .null r | _, _ => none
def br (b : Bool) (pc : Nat) (o : Int) (f : Nat → Option ORes) : Option ORes := if 0 ≤ (pc : Int) + o then (bif b then f ((pc : Int) + o).toNat else f (pc + 3)) else none
def arr (H : AH) (k : Nat) : Option (FieldType × List Value) := match H[k]? with | some (.inr q) => some q | _ => none
def ald (ok : FieldType → Bool) (S : List Value) (H : AH) (f : Value → List Value → Option ORes) : Option ORes :=
  pI S fun j S => pR S fun a r => (arr H a).bind fun q => if ok q.1 = true ∧ ¬ j < 0 then (q.2[j.toNatClampNeg]?).bind fun v => f v r else none
def ast (ok : FieldType → Bool) (x0 : Nat) (S : List Value) (H : AH) (f : List Value → AH → Option ORes) : Option ORes :=
  pI S fun x S => pI S fun j S => pR S fun a r => (arr H a).bind fun q => if ok q.1 = true ∧ ¬ j < 0 ∧ j.toNatClampNeg < q.2.length ∧ x0 ≤ a then f r (H.set a (.inr (q.1, q.2.set j.toNatClampNeg (.int (nar q.1 x))))) else none
def astL (x0 : Nat) (S : List Value) (H : AH) (f : List Value → AH → Option ORes) : Option ORes :=
  pL S fun x S => pI S fun j S => pR S fun a r => (arr H a).bind fun q => if q.1 = .long ∧ ¬ j < 0 ∧ j.toNatClampNeg < q.2.length ∧ x0 ≤ a then f r (H.set a (.inr (q.1, q.2.set j.toNatClampNeg (.long x)))) else none
def isT (t u : FieldType) : Bool := decide (u = t)
def isBZ : FieldType → Bool | .byte => true | .boolean => true | _ => false
def rI (rt : Option FieldType) (S : List Value) (H : AH) : Option ORes := pI S fun z _ => match rt with
  | some .int => some (some (.int z), H)
  | some .boolean => some (some (.int (z &&& 1)), H)
  | some .byte => some (some (.int z.toInt8.toInt32), H)
  | some .char => some (some (.int z.toUInt32.toUInt16.toUInt32.toInt32), H)
  | some .short => some (some (.int z.toInt16.toInt32), H)
  | _ => none
def rL (rt : Option FieldType) (S : List Value) (H : AH) : Option ORes := pL S fun z _ => match rt with | some .long => some (some (.long z), H) | _ => none
def rA (rt : Option FieldType) (S : List Value) (H : AH) : Option ORes := pA S fun z _ => match rt with | some (.object _) => some (some z, H) | some (.array _) => some (some z, H) | _ => none
def rV (rt : Option FieldType) (S : List Value) (H : AH) : Option ORes := match rt, S with | none, [] => some (none, H) | _, _ => none
def look (q i : Nat) : List (Nat × Nat × Act) → Option Act
  | [] => none
  | x :: r => if x.1 = q ∧ x.2.1 = i then some x.2.2 else look q i r
def spc (E : List (Nat × Nat × Act)) (q i : Nat) (S : List Value) (H : AH) (cs ss : Nat) (f : List Value → AH → Nat → Nat → Option ORes) : Option ORes :=
  (look q i E).bind fun act => (act S H cs ss).bind fun r => f r.1 r.2.1 r.2.2.1 r.2.2.2
def atn : ArrayType → Nat | .boolean => 0 | .char => 1 | .float => 2 | .double => 3 | .byte => 4 | .short => 5 | .int => 6 | .long => 7
def aty : Nat → ArrayType | 0 => .boolean | 1 => .char | 2 => .float | 3 => .double | 4 => .byte | 5 => .short | 6 => .int | _ => .long
def insOf (q i : Nat) : Instr := match q with
  | 0 => .ldc i | 1 => .ldc_w i | 2 => .ldc2_w i | 3 => .getfield i | 4 => .putfield i | 5 => .getstatic i | 6 => .new i | 7 => .invokestatic i | 8 => .invokespecial i | 9 => .invokevirtual i
  | 10 => .checkcast i | 11 => .instanceof i | 12 => .anewarray i | 13 => .newarray (aty i) | _ => .putstatic i
def refEq : Value → Value → Bool | .ref a, .ref b => decide (a = b) | .null, .null => true | _, _ => false
def ex (rt : Option FieldType) (E : List (Nat × Nat × Act)) (x0 : Nat) (k : St → Option ORes) (i : Instr) (pc : Nat) (L : List Slot) (S : List Value) (H : AH) (cs ss : Nat) : Option ORes := match i with
  | .iload n => (gI L n).bind fun v => k (pc + 2, L, .int v :: S, H, cs, ss)
  | .iload_n n => (gI L n.val).bind fun v => k (pc + 1, L, .int v :: S, H, cs, ss)
  | .lload n => (gL L n).bind fun v => k (pc + 2, L, .long v :: S, H, cs, ss)
  | .lload_n n => (gL L n.val).bind fun v => k (pc + 1, L, .long v :: S, H, cs, ss)
  | .aload n => (gA L n).bind fun v => k (pc + 2, L, v :: S, H, cs, ss)
  | .aload_n n => (gA L n.val).bind fun v => k (pc + 1, L, v :: S, H, cs, ss)
  | .istore n => pI S fun x r => (st1 L n (.int x)).bind fun L' => k (pc + 2, L', r, H, cs, ss)
  | .istore_n n => pI S fun x r => (st1 L n.val (.int x)).bind fun L' => k (pc + 1, L', r, H, cs, ss)
  | .lstore n => pL S fun x r => (st2 L n x).bind fun L' => k (pc + 2, L', r, H, cs, ss)
  | .lstore_n n => pL S fun x r => (st2 L n.val x).bind fun L' => k (pc + 1, L', r, H, cs, ss)
  | .astore n => pA S fun x r => (st1 L n x).bind fun L' => k (pc + 2, L', r, H, cs, ss)
  | .astore_n n => pA S fun x r => (st1 L n.val x).bind fun L' => k (pc + 1, L', r, H, cs, ss)
  | .iinc n c => (gI L n).bind fun v => (st1 L n (.int (v + Int32.ofInt c))).bind fun L' => k (pc + 3, L', S, H, cs, ss)
  | .iconst c => k (pc + 1, L, .int (Int32.ofInt c) :: S, H, cs, ss)
  | .bipush c => k (pc + 2, L, .int (Int8.ofInt c).toInt32 :: S, H, cs, ss)
  | .sipush c => k (pc + 3, L, .int (Int16.ofInt c).toInt32 :: S, H, cs, ss)
  | .lconst c => k (pc + 1, L, .long (Int64.ofNat c) :: S, H, cs, ss)
  | .aconst_null => k (pc + 1, L, .null :: S, H, cs, ss)
  | .iadd => pI S fun y S => pI S fun x r => k (pc + 1, L, .int (x + y) :: r, H, cs, ss)
  | .isub => pI S fun y S => pI S fun x r => k (pc + 1, L, .int (x - y) :: r, H, cs, ss)
  | .imul => pI S fun y S => pI S fun x r => k (pc + 1, L, .int (x * y) :: r, H, cs, ss)
  | .iand => pI S fun y S => pI S fun x r => k (pc + 1, L, .int (x &&& y) :: r, H, cs, ss)
  | .ior => pI S fun y S => pI S fun x r => k (pc + 1, L, .int (x ||| y) :: r, H, cs, ss)
  | .ixor => pI S fun y S => pI S fun x r => k (pc + 1, L, .int (x ^^^ y) :: r, H, cs, ss)
  | .ishl => pI S fun y S => pI S fun x r => k (pc + 1, L, .int (x <<< (y &&& 31)) :: r, H, cs, ss)
  | .ishr => pI S fun y S => pI S fun x r => k (pc + 1, L, .int (x >>> (y &&& 31)) :: r, H, cs, ss)
  | .iushr => pI S fun y S => pI S fun x r => k (pc + 1, L, .int ((x.toUInt32 >>> (y &&& 31).toUInt32).toInt32) :: r, H, cs, ss)
  | .idiv => pI S fun y S => pI S fun x r => if y = 0 then none else k (pc + 1, L, .int (x / y) :: r, H, cs, ss)
  | .irem => pI S fun y S => pI S fun x r => if y = 0 then none else k (pc + 1, L, .int (x % y) :: r, H, cs, ss)
  | .ineg => pI S fun x r => k (pc + 1, L, .int (-x) :: r, H, cs, ss)
  | .i2b => pI S fun x r => k (pc + 1, L, .int x.toInt8.toInt32 :: r, H, cs, ss)
  | .i2c => pI S fun x r => k (pc + 1, L, .int x.toUInt32.toUInt16.toUInt32.toInt32 :: r, H, cs, ss)
  | .i2s => pI S fun x r => k (pc + 1, L, .int x.toInt16.toInt32 :: r, H, cs, ss)
  | .i2l => pI S fun x r => k (pc + 1, L, .long x.toInt64 :: r, H, cs, ss)
  | .l2i => pL S fun x r => k (pc + 1, L, .int x.toInt32 :: r, H, cs, ss)
  | .lneg => pL S fun x r => k (pc + 1, L, .long (-x) :: r, H, cs, ss)
  | .ladd => pL S fun y S => pL S fun x r => k (pc + 1, L, .long (x + y) :: r, H, cs, ss)
  | .lsub => pL S fun y S => pL S fun x r => k (pc + 1, L, .long (x - y) :: r, H, cs, ss)
  | .lmul => pL S fun y S => pL S fun x r => k (pc + 1, L, .long (x * y) :: r, H, cs, ss)
  | .land => pL S fun y S => pL S fun x r => k (pc + 1, L, .long (x &&& y) :: r, H, cs, ss)
  | .lor => pL S fun y S => pL S fun x r => k (pc + 1, L, .long (x ||| y) :: r, H, cs, ss)
  | .lxor => pL S fun y S => pL S fun x r => k (pc + 1, L, .long (x ^^^ y) :: r, H, cs, ss)
  | .lshl => pI S fun y S => pL S fun x r => k (pc + 1, L, .long (x <<< (y &&& 0x3f).toInt64) :: r, H, cs, ss)
  | .lshr => pI S fun y S => pL S fun x r => k (pc + 1, L, .long (x >>> (y &&& 0x3f).toInt64) :: r, H, cs, ss)
  | .lushr => pI S fun y S => pL S fun x r => k (pc + 1, L, .long ((x.toUInt64 >>> (y &&& 0x3f).toInt64.toUInt64).toInt64) :: r, H, cs, ss)
  | .ldiv => pL S fun y S => pL S fun x r => if y = 0 then none else k (pc + 1, L, .long (x / y) :: r, H, cs, ss)
  | .lrem => pL S fun y S => pL S fun x r => if y = 0 then none else k (pc + 1, L, .long (x % y) :: r, H, cs, ss)
  | .lcmp => pL S fun y S => pL S fun x r => k (pc + 1, L, .int (lcmpW x y) :: r, H, cs, ss)
  | .dup => p1 S fun v r => k (pc + 1, L, v :: v :: r, H, cs, ss)
  | .pop => p1 S fun _ r => k (pc + 1, L, r, H, cs, ss)
  | .dup_x1 => p1 S fun x S => p1 S fun y r => k (pc + 1, L, x :: y :: x :: r, H, cs, ss)
  | .dup2 => p1 S fun x S => p1 S fun y r => k (pc + 1, L, x :: y :: x :: y :: r, H, cs, ss)
  | .goto o => if 0 ≤ (pc : Int) + o then k (((pc : Int) + o).toNat, L, S, H, cs, ss) else none
  | .ifCond cd o => pI S fun x r => br (ifCond.holds cd x) pc o fun q => k (q, L, r, H, cs, ss)
  | .if_icmp cd o => pI S fun y S => pI S fun x r => br (if_icmp.holds cd x y) pc o fun q => k (q, L, r, H, cs, ss)
  | .ifnull o => pA S fun v r => br (refEq v .null) pc o fun q => k (q, L, r, H, cs, ss)
  | .ifnonnull o => pA S fun v r => br (!refEq v .null) pc o fun q => k (q, L, r, H, cs, ss)
  | .if_acmp cd o => pA S fun y S => pA S fun x r => br (acV cd (refEq x y)) pc o fun q => k (q, L, r, H, cs, ss)
  | .arraylength => pR S fun a r => (arr H a).bind fun q => k (pc + 1, L, .int q.2.length.toInt32 :: r, H, cs, ss)
  | .iaload => ald (isT .int) S H fun v r => k (pc + 1, L, v :: r, H, cs, ss)
  | .baload => ald isBZ S H fun v r => k (pc + 1, L, v :: r, H, cs, ss)
  | .caload => ald (isT .char) S H fun v r => k (pc + 1, L, v :: r, H, cs, ss)
  | .laload => ald (isT .long) S H fun v r => k (pc + 1, L, v :: r, H, cs, ss)
  | .aaload => ald FieldType.isReference S H fun v r => k (pc + 1, L, v :: r, H, cs, ss)
  | .iastore => ast (isT .int) x0 S H fun r H' => k (pc + 1, L, r, H', cs, ss)
  | .bastore => ast (isT .byte) x0 S H fun r H' => k (pc + 1, L, r, H', cs, ss)
  | .castore => ast (isT .char) x0 S H fun r H' => k (pc + 1, L, r, H', cs, ss)
  | .lastore => astL x0 S H fun r H' => k (pc + 1, L, r, H', cs, ss)
  | .ldc i => spc E 0 i S H cs ss fun S' H' cs' ss' => k (pc + 2, L, S', H', cs', ss')
  | .ldc_w i => spc E 1 i S H cs ss fun S' H' cs' ss' => k (pc + 3, L, S', H', cs', ss')
  | .ldc2_w i => spc E 2 i S H cs ss fun S' H' cs' ss' => k (pc + 3, L, S', H', cs', ss')
  | .getfield i => spc E 3 i S H cs ss fun S' H' cs' ss' => k (pc + 3, L, S', H', cs', ss')
  | .putfield i => spc E 4 i S H cs ss fun S' H' cs' ss' => k (pc + 3, L, S', H', cs', ss')
  | .getstatic i => spc E 5 i S H cs ss fun S' H' cs' ss' => k (pc + 3, L, S', H', cs', ss')
  | .new i => spc E 6 i S H cs ss fun S' H' cs' ss' => k (pc + 3, L, S', H', cs', ss')
  | .invokestatic i => spc E 7 i S H cs ss fun S' H' cs' ss' => k (pc + 3, L, S', H', cs', ss')
  | .invokespecial i => spc E 8 i S H cs ss fun S' H' cs' ss' => k (pc + 3, L, S', H', cs', ss')
  | .invokevirtual i => spc E 9 i S H cs ss fun S' H' cs' ss' => k (pc + 3, L, S', H', cs', ss')
  | .checkcast i => spc E 10 i S H cs ss fun S' H' cs' ss' => k (pc + 3, L, S', H', cs', ss')
  | .instanceof i => spc E 11 i S H cs ss fun S' H' cs' ss' => k (pc + 3, L, S', H', cs', ss')
  | .anewarray i => spc E 12 i S H cs ss fun S' H' cs' ss' => k (pc + 3, L, S', H', cs', ss')
  | .newarray t => spc E 13 (atn t) S H cs ss fun S' H' cs' ss' => k (pc + 2, L, S', H', cs', ss')
  | .dload n => (gD L n).bind fun v => k (pc + 2, L, .double v :: S, H, cs, ss)
  | .dstore n => pD S fun x r => (st2D L n x).bind fun L' => k (pc + 2, L', r, H, cs, ss)
  | .dconst c => k (pc + 1, L, .double (dcv c) :: S, H, cs, ss)
  | .l2d => pL S fun x r => k (pc + 1, L, .double (FP.l2d x) :: r, H, cs, ss)
  | .ddiv => pD S fun y S => pD S fun x r => if nNaN (FP.ddiv x y) = true then k (pc + 1, L, .double (FP.ddiv x y) :: r, H, cs, ss) else none
  | .dcmp o => pD S fun y S => pD S fun x r => k (pc + 1, L, .int (cmpValue (FP.dcmp x y) o) :: r, H, cs, ss)
  | .dreturn => rD rt S H
  | .ireturn => rI rt S H
  | .lreturn => rL rt S H
  | .areturn => rA rt S H
  | .return_ => rV rt S H
  | _ => none
def orun (code : ByteArray) (rt : Option FieldType) (E : List (Nat × Nat × Act)) (x0 : Nat) : Nat → St → Option ORes
  | 0, _ => none
  | n + 1, s => (dec code s.1).bind fun i => ex rt E x0 (orun code rt E x0 n) i s.1 s.2.1 s.2.2.1 s.2.2.2.1 s.2.2.2.2.1 s.2.2.2.2.2
theorem orun_succ {code : ByteArray} {rt : Option FieldType} {E : List (Nat × Nat × Act)} {x0 n pc : Nat} {L : List Slot} {S : List Value} {H : AH} {cs ss : Nat} :
    orun code rt E x0 (n + 1) (pc, L, S, H, cs, ss) = (dec code pc).bind fun i => ex rt E x0 (orun code rt E x0 n) i pc L S H cs ss := rfl
/-! ## 2. What an abstract state stands for -/
def cv (σ : Nat → Nat) : Value → Value | .ref k => .ref (σ k) | v => v
def csl (σ : Nat → Nat) : Slot → Slot | .val v => .val (cv σ v) | x => x
def cL (σ : Nat → Nat) (L : List Slot) : Array Slot := (L.map (csl σ)).toArray
abbrev CD := String × List (String × String × String)
def RepO (Z : State) (σ : Nat → Nat) (K : List CD) (h : Heap) (a : Addr) : Ob → Prop
  | .inl (c, vs) => ∃ C fs, K[c]? = some (C, fs) ∧ Exa Z h a C ∧ ∀ (j : Nat) (v : Value), vs[j]? = some v → ∃ O n d, fs[j]? = some (O, n, d) ∧ Fld Z h a O n d (cv σ v)
  | .inr (ty, vs) => ∃ cell : Cell, Arr Z h a cell ty ∧ cell.slots = (vs.map (cv σ)).toArray ∧ vs.length < 2 ^ 31 ∧ (∀ v ∈ vs, fits ty v = true) ∧ (Z.heap.size ≤ a → Exa Z h a ("[" ++ ty.toString))
def Rep (Z : State) (σ : Nat → Nat) (x0 n0 : Nat) (K : List CD) (h : Heap) (H : AH) : Prop :=
  h.size + x0 = n0 + H.length ∧ x0 ≤ H.length ∧ Old Z n0 h ∧ ∀ (k : Nat) (o : Ob), H[k]? = some o → RepO Z σ K h (σ k) o
def Sg (σ : Nat → Nat) (x0 n0 : Nat) : Prop := (∀ k, x0 ≤ k → σ k + x0 = n0 + k) ∧ (∀ i, i < x0 → σ i < n0) ∧ ∀ i j, i < x0 → j < x0 → σ i = σ j → i = j
theorem Sg.inj {σ : Nat → Nat} {x0 n0 i j : Nat} (h : Sg σ x0 n0) (e : σ i = σ j) : i = j := by
  obtain ⟨h1, h2, h3⟩ := h
  rcases Nat.lt_or_ge i x0 with a | a <;> rcases Nat.lt_or_ge j x0 with b | b
  · exact h3 i j a b e
  · have := h2 i a; have := h1 j b; omega
  · have := h2 j b; have := h1 i a; omega
  · have := h1 i a; have := h1 j b; omega
theorem Sg.new {σ : Nat → Nat} {x0 n0 k : Nat} (h : Sg σ x0 n0) (q : x0 ≤ k) : n0 ≤ σ k := by have := h.1 k q; omega
def KOk (Z : State) (a0 : Array Value) (K : List CD) : Prop := ∀ (c : Nat) (C : String) (fs : List (String × String × String)), K[c]? = some (C, fs) →
  (∃ kk, (Jvm.Cond.instantiable C kk).before a0 Z = true) ∧ (∀ (i : Nat) (f : String × String × String), fs[i]? = some f → Laid Z a0 C f.1 f.2.1 f.2.2 ∧ ∃ ty, parseFieldDescriptor f.2.2 = some ty) ∧
  ∀ (i j : Nat) (f g : String × String × String), fs[i]? = some f → fs[j]? = some g → f.2.1 = g.2.1 → i = j
section Reps
variable {Z : State} {σ : Nat → Nat} {x0 n0 : Nat} {K : List CD} {h h' : Heap} {H : AH} {a0 : Array Value}
theorem RepO.ext {a : Addr} {o : Ob} (E : Ext h h') (R : RepO Z σ K h a o) : RepO Z σ K h' a o := by
  rcases o with ⟨c, vs⟩ | ⟨ty, vs⟩
  · obtain ⟨C, fs, h1, h2, h3⟩ := R
    exact ⟨C, fs, h1, h2.ext E, fun j v q => by obtain ⟨O, n, d, q1, q2⟩ := h3 j v q; exact ⟨O, n, d, q1, q2.ext E⟩⟩
  · obtain ⟨cell, h1, h2, h3, h4, h5⟩ := R
    exact ⟨cell, h1.ext E, h2, h3, h4, fun q => (h5 q).ext E⟩
theorem RepO.other {a b : Addr} {o : Ob} {sl : Nat} {v : Value} (W : Wr h h' a sl v) (R : RepO Z σ K h b o) (ne : b ≠ a) : RepO Z σ K h' b o := by
  rcases o with ⟨c, vs⟩ | ⟨ty, vs⟩
  · obtain ⟨C, fs, h1, h2, h3⟩ := R
    exact ⟨C, fs, h1, h2.wr W, fun j v q => by obtain ⟨O, n, d, q1, q2⟩ := h3 j v q; exact ⟨O, n, d, q1, q2.other W (Or.inl ne)⟩⟩
  · obtain ⟨cell, h1, h2, h3, h4, h5⟩ := R
    exact ⟨cell, h1.other W ne, h2, h3, h4, fun q => (h5 q).wr W⟩
theorem Rep.push (R : Rep Z σ x0 n0 K h H) (E : Ext h h') (hs : h'.size = h.size + 1) {o : Ob} (ho : RepO Z σ K h' (σ H.length) o) : Rep Z σ x0 n0 K h' (H ++ [o]) := by
  obtain ⟨r1, r2, r3, r4⟩ := R
  refine ⟨by rw [hs]; simp; omega, by simp; omega, r3.ext E, fun k o' q => ?_⟩
  rcases Nat.lt_trichotomy k H.length with a | a | a
  · rw [List.getElem?_append_left a] at q; exact (r4 k o' q).ext E
  · subst a; simp at q; subst q; exact ho
  · rw [List.getElem?_append_right (Nat.le_of_lt a), List.getElem?_eq_none (by simp; omega)] at q; cases q
theorem Rep.addr (S : Sg σ x0 n0) (R : Rep Z σ x0 n0 K h H) : σ H.length = h.size := by have := S.1 H.length R.2.1; have := R.1; omega
theorem Rep.write (S : Sg σ x0 n0) (R : Rep Z σ x0 n0 K h H) {k sl : Nat} {v : Value} {o : Ob} (hk : x0 ≤ k) (W : Wr h h' (σ k) sl v) (ho : RepO Z σ K h' (σ k) o) : Rep Z σ x0 n0 K h' (H.set k o) := by
  obtain ⟨r1, r2, r3, r4⟩ := R
  refine ⟨by rw [W.size]; simpa using r1, by simpa using r2, r3.wr W (S.new hk), fun j o' q => ?_⟩
  by_cases e : k = j
  · subst e
    by_cases hl : k < H.length
    · rw [List.getElem?_set_self hl] at q; cases q; exact ho
    · rw [List.getElem?_eq_none (by simp; omega)] at q; cases q
  · rw [List.getElem?_set_ne e] at q
    exact (r4 j o' q).other W fun u => e (S.inj u).symm
theorem cv_fits (ty : FieldType) (v : Value) : fits ty (cv σ v) = fits ty v := by cases v <;> first | rfl | (cases ty <;> rfl)
theorem RepO.fld (KO : KOk Z a0 K) {a : Addr} {c j : Nat} {vs : List Value} {v : Value} {C O n d : String} {fs : List (String × String × String)} (hC : K[c]? = some (C, fs)) (hj : fs[j]? = some (O, n, d)) (R : RepO Z σ K h a (.inl (c, vs))) (W : Wr h h' a (Jvm.RoadKit.slotOf Z O n d) (cv σ v)) : RepO Z σ K h' a (.inl (c, vs.set j v)) := by
  obtain ⟨C', fs', h1, h2, h3⟩ := R
  cases hC.symm.trans h1
  obtain ⟨-, k2, k3⟩ := KO c C fs hC
  refine ⟨C, fs, hC, h2.wr W, fun i w q => ?_⟩
  by_cases e : j = i
  · subst e
    by_cases hl : j < vs.length
    · rw [List.getElem?_set_self hl] at q; cases q
      obtain ⟨O', n', d', q1, q2⟩ := h3 j _ (List.getElem?_eq_getElem hl)
      cases hj.symm.trans q1
      exact ⟨O, n, d, hj, q2.same W⟩
    · rw [List.getElem?_eq_none (by simp; omega)] at q; cases q
  · rw [List.getElem?_set_ne e] at q
    obtain ⟨O', n', d', q1, q2⟩ := h3 i w q
    obtain ⟨l1, t1, p1⟩ := k2 j _ hj
    obtain ⟨l2, t2, p2⟩ := k2 i _ q1
    exact ⟨O', n', d', q1, q2.other W (Or.inr (slot_ne l2 l1 (fun u => e (k3 j i _ _ hj q1 u.symm)) p2 p1))⟩
theorem RepO.arr {a : Addr} {i : Nat} {ty : FieldType} {vs : List Value} {v : Value} (R : RepO Z σ K h a (.inr (ty, vs))) (hf : fits ty v = true) (W : Wr h h' a i (cv σ v)) : RepO Z σ K h' a (.inr (ty, vs.set i v)) := by
  obtain ⟨cell, h1, h2, h3, h4, h5⟩ := R
  refine ⟨_, h1.same W, ?_, by simpa using h3, fun w hw => ?_, fun q => (h5 q).wr W⟩
  · simp [Cell.setSlot, h2]
  · rcases List.mem_or_eq_of_mem_set hw with q | rfl
    · exact h4 w q
    · exact hf
theorem arr_some {H : AH} {k : Nat} {q : FieldType × List Value} (e : arr H k = some q) : H[k]? = some (.inr q) := by
  unfold arr at e; split at e
  · rename_i q' hq; cases e; exact hq
  · cases e
end Reps
/-! ## 3. One step of the machine is a orun of the JVM -/
section Sound
def Good (p : Program) (l : Launch) (e : Env) (R : Room) (s : State) (m : MethodId) (args : Array Value) (below : List Frame) (meth : Method) (c : Code) (Z : State) (σ : Nat → Nat) (x0 n0 : Nat) (K : List CD) (i : Instr) (act : Act) : Prop :=
  ∀ (T : State) (locs : List Loc) (cs ss pc : Nat) (L : List Slot) (S : List Value) (H : AH) (S' : List Value) (H' : AH) (cs' ss' : Nat), Stand p l e R s m args below meth c T locs cs ss → decode c.code pc = .ok (i, il i) → L.length = c.maxLocals → Rep Z σ x0 n0 K T.heap H → Fr n0 locs → cs ≤ R.cells ∧ ss ≤ R.slots → act S H cs ss = some (S', H', cs', ss') →
    ∃ T' locs', Stand p l e R s m args below meth c T' locs' cs' ss' ∧ Rep Z σ x0 n0 K T'.heap H' ∧ Fr n0 locs' ∧ (cs' ≤ R.cells ∧ ss' ≤ R.slots) ∧ ∀ target, Steps p.tables e below (T'.setTop (mkF m (pc + il i) (cL σ L) (S'.map (cv σ)))) target → Steps p.tables e below (T.setTop (mkF m pc (cL σ L) (S.map (cv σ)))) target
def AllGood (p : Program) (l : Launch) (e : Env) (R : Room) (s : State) (m : MethodId) (args : Array Value) (below : List Frame) (meth : Method) (c : Code) (Z : State) (σ : Nat → Nat) (x0 n0 : Nat) (K : List CD) : List (Nat × Nat × Act) → Prop
  | [] => True
  | x :: r => Good p l e R s m args below meth c Z σ x0 n0 K (insOf x.1 x.2.1) x.2.2 ∧ AllGood p l e R s m args below meth c Z σ x0 n0 K r
/-- the end: it has returned v, over the heap H' -/
def Done (p : Program) (e : Env) (R : Room) (s : State) (below : List Frame) (Z : State) (σ : Nat → Nat) (x0 n0 : Nat) (K : List CD) (r : ORes) (T : State) (g : JFrame) : Prop :=
  ∃ t, Steps p.tables e below (T.setTop g) t ∧ t.status = .running ∧ Ended t below (.returned (r.1.map (cv σ))) ∧ Rep Z σ x0 n0 K t.heap r.2 ∧ ∃ L, Fr n0 L ∧ s.WarmedH t.vm ∧ s.sameButNew ({ t with vm := s.vm } : State) L R.cells R.slots
variable {p : Program} {l : Launch} {e : Env} {R : Room} {s : State} {m : MethodId} {args : Array Value} {below : List Frame} {meth : Method} {c : Code} {Z : State} {σ : Nat → Nat} {x0 n0 : Nat} {K : List CD}
theorem look_good {E : List (Nat × Nat × Act)} {q i : Nat} {act : Act} (h : AllGood p l e R s m args below meth c Z σ x0 n0 K E) (hl : look q i E = some act) : Good p l e R s m args below meth c Z σ x0 n0 K (insOf q i) act := by
  induction E with
  | nil => cases hl
  | cons x r ih =>
    unfold look at hl
    split at hl
    · rename_i hq; cases hl; obtain ⟨rfl, rfl⟩ := hq; exact h.1
    · exact ih h.2 hl
theorem Done.step {r : ORes} {T T' : State} {g g' : JFrame} (D : Done p e R s below Z σ x0 n0 K r T' g') (st : ∀ target, Steps p.tables e below (T'.setTop g') target → Steps p.tables e below (T.setTop g) target) : Done p e R s below Z σ x0 n0 K r T g := by
  obtain ⟨t, h1, h2⟩ := D; exact ⟨t, st _ h1, h2⟩
theorem gI_ok {L : List Slot} {k : Nat} {v : Int32} (h : gI L k = some v) : (cL σ L)[k]? = some (.val (.int v)) := by
  unfold gI at h; split at h
  · rename_i w hw; cases h; simp [cL, hw, csl, cv]
  · cases h
theorem gL_ok {L : List Slot} {k : Nat} {v : Int64} (h : gL L k = some v) : (cL σ L)[k]? = some (.val (.long v)) := by
  unfold gL at h; split at h
  · rename_i w hw; cases h; simp [cL, hw, csl, cv]
  · cases h
theorem gA_ok {L : List Slot} {k : Nat} {v : Value} (h : gA L k = some v) : (cL σ L)[k]? = some (.val (cv σ v)) ∧ (cv σ v).isRef = true := by
  unfold gA at h; split at h
  · rename_i w hw; cases h; simp [cL, hw, csl, cv, Value.isRef]
  · rename_i hw; cases h; simp [cL, hw, csl, cv, Value.isRef]
  · cases h
theorem st1_ok {L L' : List Slot} {k : Nat} {v : Value} (h : st1 L k v = some L') (hv : v.category = 1) : storeLocals (cL σ L) k (cv σ v) = some (cL σ L') ∧ L'.length = L.length := by
  have hv' : (cv σ v).category = 1 := by cases v <;> first | rfl | exact hv
  have key : ∀ o : Slot, L[k]? = some o → One (csl σ o) → L' = L.set k (.val v) → storeLocals (cL σ L) k (cv σ v) = some (cL σ L') ∧ L'.length = L.length := by
    intro o ho h1 e
    subst e
    refine ⟨?_, by simp⟩
    rw [XS.store1 (o := csl σ o) (by simp [cL, ho]) h1 hv']
    simp [cL, csl, List.map_set]
  unfold st1 at h; split at h <;> first | cases h | skip
  all_goals (rename_i ho; exact key _ ho (by first | exact One.u | exact One.val rfl) rfl)
theorem st2_ok {L L' : List Slot} {k : Nat} {x : Int64} (h : st2 L k x = some L') : storeLocals (cL σ L) k (.long x) = some (cL σ L') ∧ L'.length = L.length := by
  unfold st2 at h; split at h
  · rename_i h1 h2
    cases h
    refine ⟨?_, by simp⟩
    obtain ⟨b1, g1⟩ := List.getElem?_eq_some_iff.mp h1
    obtain ⟨b2, g2⟩ := List.getElem?_eq_some_iff.mp h2
    simp [storeLocals, storeSelf, setAt, cL, csl, cv, h1, h2, b1, b2, g1, g2, Value.category, List.map_set, List.getElem?_set]
  · rename_i y h1 h2
    cases h
    refine ⟨?_, by simp⟩
    obtain ⟨b1, g1⟩ := List.getElem?_eq_some_iff.mp h1
    obtain ⟨b2, g2⟩ := List.getElem?_eq_some_iff.mp h2
    simp [storeLocals, storeSelf, setAt, cL, csl, cv, h1, h2, b1, b2, g1, g2, Value.category, List.map_set, List.getElem?_set]
    rw [List.set_comm _ _ (show k + 1 ≠ k by omega), List.set_set]
  · cases h
theorem st2D_ok {L L' : List Slot} {k : Nat} {x : UInt64} (h : st2D L k x = some L') : storeLocals (cL σ L) k (.double x) = some (cL σ L') ∧ L'.length = L.length := by
  unfold st2D at h; split at h
  · rename_i h1 h2
    cases h
    refine ⟨?_, by simp⟩
    obtain ⟨b1, g1⟩ := List.getElem?_eq_some_iff.mp h1
    obtain ⟨b2, g2⟩ := List.getElem?_eq_some_iff.mp h2
    simp [storeLocals, storeSelf, setAt, cL, csl, cv, h1, h2, b1, b2, g1, g2, Value.category, List.map_set, List.getElem?_set]
  · rename_i y h1 h2
    cases h
    refine ⟨?_, by simp⟩
    obtain ⟨b1, g1⟩ := List.getElem?_eq_some_iff.mp h1
    obtain ⟨b2, g2⟩ := List.getElem?_eq_some_iff.mp h2
    simp [storeLocals, storeSelf, setAt, cL, csl, cv, h1, h2, b1, b2, g1, g2, Value.category, List.map_set, List.getElem?_set]
    rw [List.set_comm _ _ (show k + 1 ≠ k by omega), List.set_set]
  · cases h
theorem gD_ok {L : List Slot} {k : Nat} {v : UInt64} (h : gD L k = some v) : (cL σ L)[k]? = some (.val (.double v)) := by
  unfold gD at h; split at h
  · rename_i w hw; cases h; simp [cL, hw, csl, cv]
  · cases h
theorem pD_ok {S : List Value} {f : UInt64 → List Value → Option ORes} {r : ORes} (h : pD S f = some r) : ∃ x S', S = .double x :: S' ∧ f x S' = some r := by
  unfold pD at h; split at h
  · exact ⟨_, _, rfl, h⟩
  · cases h
theorem pI_ok {S : List Value} {f : Int32 → List Value → Option ORes} {r : ORes} (h : pI S f = some r) : ∃ x S', S = .int x :: S' ∧ f x S' = some r := by
  unfold pI at h; split at h
  · exact ⟨_, _, rfl, h⟩
  · cases h
theorem pL_ok {S : List Value} {f : Int64 → List Value → Option ORes} {r : ORes} (h : pL S f = some r) : ∃ x S', S = .long x :: S' ∧ f x S' = some r := by
  unfold pL at h; split at h
  · exact ⟨_, _, rfl, h⟩
  · cases h
theorem pR_ok {S : List Value} {f : Nat → List Value → Option ORes} {r : ORes} (h : pR S f = some r) : ∃ x S', S = .ref x :: S' ∧ f x S' = some r := by
  unfold pR at h; split at h
  · exact ⟨_, _, rfl, h⟩
  · cases h
theorem pA_ok {S : List Value} {f : Value → List Value → Option ORes} {r : ORes} (h : pA S f = some r) : ∃ x S', S = x :: S' ∧ f x S' = some r ∧ (x = .null ∨ ∃ a, x = .ref a) := by
  unfold pA at h; split at h
  · exact ⟨_, _, rfl, h, Or.inr ⟨_, rfl⟩⟩
  · exact ⟨_, _, rfl, h, Or.inl rfl⟩
  · cases h
theorem p1_ok {S : List Value} {f : Value → List Value → Option ORes} {r : ORes} (h : p1 S f = some r) : ∃ x S', S = x :: S' ∧ f x S' = some r ∧ (cv σ x).category = 1 := by
  unfold p1 at h; split at h
  · exact ⟨_, _, rfl, h, rfl⟩
  · exact ⟨_, _, rfl, h, rfl⟩
  · exact ⟨_, _, rfl, h, rfl⟩
  · cases h
theorem bind_ok {α : Type} {o : Option α} {f : α → Option ORes} {r : ORes} (h : o.bind f = some r) : ∃ x, o = some x ∧ f x = some r := Option.bind_eq_some_iff.mp h
theorem br_ok {b : Bool} {pc : Nat} {o : Int} {f : Nat → Option ORes} {r : ORes} (h : br b pc o f = some r) : 0 ≤ (pc : Int) + o ∧ ((b = true ∧ f ((pc : Int) + o).toNat = some r) ∨ (b = false ∧ f (pc + 3) = some r)) := by
  unfold br at h; split at h
  · rename_i q; cases b
    · exact ⟨q, Or.inr ⟨rfl, h⟩⟩
    · exact ⟨q, Or.inl ⟨rfl, h⟩⟩
  · cases h
theorem ref_of {x : Value} (h : x = .null ∨ ∃ a, x = .ref a) : (cv σ x).isRef = true ∧ x.category = 1 := by rcases h with rfl | ⟨a, rfl⟩ <;> exact ⟨rfl, rfl⟩
theorem refEq_ok (hsg : Sg σ x0 n0) {x y : Value} (hx : x = .null ∨ ∃ a, x = .ref a) (hy : y = .null ∨ ∃ a, y = .ref a) : decide (cv σ x = cv σ y) = refEq x y := by
  rcases hx with rfl | ⟨a, rfl⟩ <;> rcases hy with rfl | ⟨b, rfl⟩ <;> simp [cv, refEq]
  exact ⟨fun h => hsg.inj h, fun h => by rw [h]⟩
theorem size_cL {L : List Slot} : (cL σ L).size = L.length := by simp [cL]
theorem inB {cell : Cell} {j : Int32} {v : Value} (h : ¬ j < 0) (hv : cell.slots[j.toNatClampNeg]? = some v) : ¬ (j < 0 ∨ cell.slots.size ≤ j.toNatClampNeg) := fun q => q.elim h fun q => by rw [Array.getElem?_eq_none q] at hv; cases hv
set_option maxHeartbeats 4000000 in
theorem ex_sound {rt : Option FieldType} {E : List (Nat × Nat × Act)} {k : St → Option ORes} {res : ORes} (hx : p.tables.exec = Jvm.exec) (hZ : Z.Warmed39 s.vm) (hsg : Sg σ x0 n0) (hrt : meth.sig.returnType = rt) (hlk : meth.locks = false) (hE : AllGood p l e R s m args below meth c Z σ x0 n0 K E)
    (hk : ∀ (T : State) (locs : List Loc) (cs ss pc : Nat) (L : List Slot) (S : List Value) (H : AH), Stand p l e R s m args below meth c T locs cs ss → L.length = c.maxLocals → Rep Z σ x0 n0 K T.heap H → Fr n0 locs → cs ≤ R.cells ∧ ss ≤ R.slots → k (pc, L, S, H, cs, ss) = some res → Done p e R s below Z σ x0 n0 K res T (mkF m pc (cL σ L) (S.map (cv σ))))
    {T : State} {locs : List Loc} {cs ss pc : Nat} {i : Instr} {L : List Slot} {S : List Value} {H : AH} (X : Stand p l e R s m args below meth c T locs cs ss) (hd : decode c.code pc = .ok (i, il i)) (hL : L.length = c.maxLocals) (hR : Rep Z σ x0 n0 K T.heap H) (hF : Fr n0 locs) (hB : cs ≤ R.cells ∧ ss ≤ R.slots)
    (h : ex rt E x0 k i pc L S H cs ss = some res) : Done p e R s below Z σ x0 n0 K res T (mkF m pc (cL σ L) (S.map (cv σ))) := by
  cases i with
  | iload n =>
    dsimp only [ex] at h
    replace h := bind_ok h
    obtain ⟨v, h1, h⟩ := h
    exact (hk _ _ _ _ _ _ _ _ X hL hR hF hB h).step fun t q => XS.iload X.here hx rfl hd (gI_ok h1) q
  | iload_n n =>
    dsimp only [ex] at h
    replace h := bind_ok h
    obtain ⟨v, h1, h⟩ := h
    exact (hk _ _ _ _ _ _ _ _ X hL hR hF hB h).step fun t q => XS.iloadN X.here hx rfl hd (gI_ok h1) q
  | lload n =>
    dsimp only [ex] at h
    replace h := bind_ok h
    obtain ⟨v, h1, h⟩ := h
    exact (hk _ _ _ _ _ _ _ _ X hL hR hF hB h).step fun t q => XS.lload X.here hx rfl hd (gL_ok h1) q
  | lload_n n =>
    dsimp only [ex] at h
    replace h := bind_ok h
    obtain ⟨v, h1, h⟩ := h
    exact (hk _ _ _ _ _ _ _ _ X hL hR hF hB h).step fun t q => XS.lloadN X.here hx rfl hd (gL_ok h1) q
  | aload n =>
    dsimp only [ex] at h
    replace h := bind_ok h
    obtain ⟨v, h1, h⟩ := h
    exact (hk _ _ _ _ _ _ _ _ X hL hR hF hB h).step fun t q => XS.aload X.here hx rfl hd (gA_ok h1).1 (gA_ok (σ := σ) h1).2 q
  | aload_n n =>
    dsimp only [ex] at h
    replace h := bind_ok h
    obtain ⟨v, h1, h⟩ := h
    exact (hk _ _ _ _ _ _ _ _ X hL hR hF hB h).step fun t q => XS.aloadN X.here hx rfl hd (gA_ok h1).1 (gA_ok (σ := σ) h1).2 q
  | istore n =>
    dsimp only [ex] at h
    replace h := pI_ok h
    obtain ⟨x, S1, rfl, h⟩ := h
    replace h := bind_ok h
    obtain ⟨L1, h1, h⟩ := h
    have h2 := st1_ok (σ := σ) h1 rfl
    exact (hk _ _ _ _ _ _ _ _ X (h2.2.trans hL) hR hF hB h).step fun t q => XS.istore X.here hx rfl hd rfl h2.1 q
  | istore_n n =>
    dsimp only [ex] at h
    replace h := pI_ok h
    obtain ⟨x, S1, rfl, h⟩ := h
    replace h := bind_ok h
    obtain ⟨L1, h1, h⟩ := h
    have h2 := st1_ok (σ := σ) h1 rfl
    exact (hk _ _ _ _ _ _ _ _ X (h2.2.trans hL) hR hF hB h).step fun t q => XS.istoreN X.here hx rfl hd rfl h2.1 q
  | lstore n =>
    dsimp only [ex] at h
    replace h := pL_ok h
    obtain ⟨x, S1, rfl, h⟩ := h
    replace h := bind_ok h
    obtain ⟨L1, h1, h⟩ := h
    have h2 := st2_ok (σ := σ) h1
    exact (hk _ _ _ _ _ _ _ _ X (h2.2.trans hL) hR hF hB h).step fun t q => XS.lstore X.here hx rfl hd rfl h2.1 q
  | lstore_n n =>
    dsimp only [ex] at h
    replace h := pL_ok h
    obtain ⟨x, S1, rfl, h⟩ := h
    replace h := bind_ok h
    obtain ⟨L1, h1, h⟩ := h
    have h2 := st2_ok (σ := σ) h1
    exact (hk _ _ _ _ _ _ _ _ X (h2.2.trans hL) hR hF hB h).step fun t q => XS.lstoreN X.here hx rfl hd rfl h2.1 q
  | astore n =>
    dsimp only [ex] at h
    replace h := pA_ok h
    obtain ⟨x, S1, rfl, h, hr⟩ := h
    replace h := bind_ok h
    obtain ⟨L1, h1, h⟩ := h
    have h2 := st1_ok (σ := σ) h1 (ref_of (σ := σ) hr).2
    exact (hk _ _ _ _ _ _ _ _ X (h2.2.trans hL) hR hF hB h).step fun t q => XS.astore X.here hx rfl hd rfl (ref_of hr).1 h2.1 q
  | astore_n n =>
    dsimp only [ex] at h
    replace h := pA_ok h
    obtain ⟨x, S1, rfl, h, hr⟩ := h
    replace h := bind_ok h
    obtain ⟨L1, h1, h⟩ := h
    have h2 := st1_ok (σ := σ) h1 (ref_of (σ := σ) hr).2
    exact (hk _ _ _ _ _ _ _ _ X (h2.2.trans hL) hR hF hB h).step fun t q => XS.astoreN X.here hx rfl hd rfl (ref_of hr).1 h2.1 q
  | iinc n cst =>
    dsimp only [ex] at h
    replace h := bind_ok h
    obtain ⟨v, h1, h⟩ := h
    replace h := bind_ok h
    obtain ⟨L1, h2, h⟩ := h
    have h2 := st1_ok (σ := σ) h2 rfl
    exact (hk _ _ _ _ _ _ _ _ X (h2.2.trans hL) hR hF hB h).step fun t q => XS.iinc X.here hx rfl hd (gI_ok h1) h2.1 q
  | iconst cst =>
    dsimp only [ex] at h
    exact (hk _ _ _ _ _ _ _ _ X hL hR hF hB h).step fun t q => XS.iconst X.here hx rfl hd q
  | bipush cst =>
    dsimp only [ex] at h
    exact (hk _ _ _ _ _ _ _ _ X hL hR hF hB h).step fun t q => XS.bipush X.here hx rfl hd q
  | sipush cst =>
    dsimp only [ex] at h
    exact (hk _ _ _ _ _ _ _ _ X hL hR hF hB h).step fun t q => XS.sipush X.here hx rfl hd q
  | lconst cst =>
    dsimp only [ex] at h
    exact (hk _ _ _ _ _ _ _ _ X hL hR hF hB h).step fun t q => XS.lconst X.here hx rfl hd q
  | aconst_null =>
    dsimp only [ex] at h
    exact (hk _ _ _ _ _ _ _ _ X hL hR hF hB h).step fun t q => XS.aconstNull X.here hx rfl hd q
  | iadd =>
    dsimp only [ex] at h
    replace h := pI_ok h
    obtain ⟨y, S1, rfl, h⟩ := h
    replace h := pI_ok h
    obtain ⟨x, S2, rfl, h⟩ := h
    exact (hk _ _ _ _ _ _ _ _ X hL hR hF hB h).step fun t q => XS.iadd X.here hx rfl hd rfl q
  | isub =>
    dsimp only [ex] at h
    replace h := pI_ok h
    obtain ⟨y, S1, rfl, h⟩ := h
    replace h := pI_ok h
    obtain ⟨x, S2, rfl, h⟩ := h
    exact (hk _ _ _ _ _ _ _ _ X hL hR hF hB h).step fun t q => XS.isub X.here hx rfl hd rfl q
  | imul =>
    dsimp only [ex] at h
    replace h := pI_ok h
    obtain ⟨y, S1, rfl, h⟩ := h
    replace h := pI_ok h
    obtain ⟨x, S2, rfl, h⟩ := h
    exact (hk _ _ _ _ _ _ _ _ X hL hR hF hB h).step fun t q => XS.imul X.here hx rfl hd rfl q
  | iand =>
    dsimp only [ex] at h
    replace h := pI_ok h
    obtain ⟨y, S1, rfl, h⟩ := h
    replace h := pI_ok h
    obtain ⟨x, S2, rfl, h⟩ := h
    exact (hk _ _ _ _ _ _ _ _ X hL hR hF hB h).step fun t q => XS.iand X.here hx rfl hd rfl q
  | ior =>
    dsimp only [ex] at h
    replace h := pI_ok h
    obtain ⟨y, S1, rfl, h⟩ := h
    replace h := pI_ok h
    obtain ⟨x, S2, rfl, h⟩ := h
    exact (hk _ _ _ _ _ _ _ _ X hL hR hF hB h).step fun t q => XS.ior X.here hx rfl hd rfl q
  | ixor =>
    dsimp only [ex] at h
    replace h := pI_ok h
    obtain ⟨y, S1, rfl, h⟩ := h
    replace h := pI_ok h
    obtain ⟨x, S2, rfl, h⟩ := h
    exact (hk _ _ _ _ _ _ _ _ X hL hR hF hB h).step fun t q => XS.ixor X.here hx rfl hd rfl q
  | ishl =>
    dsimp only [ex] at h
    replace h := pI_ok h
    obtain ⟨y, S1, rfl, h⟩ := h
    replace h := pI_ok h
    obtain ⟨x, S2, rfl, h⟩ := h
    exact (hk _ _ _ _ _ _ _ _ X hL hR hF hB h).step fun t q => XS.ishl X.here hx rfl hd rfl q
  | ishr =>
    dsimp only [ex] at h
    replace h := pI_ok h
    obtain ⟨y, S1, rfl, h⟩ := h
    replace h := pI_ok h
    obtain ⟨x, S2, rfl, h⟩ := h
    exact (hk _ _ _ _ _ _ _ _ X hL hR hF hB h).step fun t q => XS.ishr X.here hx rfl hd rfl q
  | iushr =>
    dsimp only [ex] at h
    replace h := pI_ok h
    obtain ⟨y, S1, rfl, h⟩ := h
    replace h := pI_ok h
    obtain ⟨x, S2, rfl, h⟩ := h
    exact (hk _ _ _ _ _ _ _ _ X hL hR hF hB h).step fun t q => XS.iushr X.here hx rfl hd rfl q
  | ladd =>
    dsimp only [ex] at h
    replace h := pL_ok h
    obtain ⟨y, S1, rfl, h⟩ := h
    replace h := pL_ok h
    obtain ⟨x, S2, rfl, h⟩ := h
    exact (hk _ _ _ _ _ _ _ _ X hL hR hF hB h).step fun t q => XS.ladd X.here hx rfl hd rfl q
  | lsub =>
    dsimp only [ex] at h
    replace h := pL_ok h
    obtain ⟨y, S1, rfl, h⟩ := h
    replace h := pL_ok h
    obtain ⟨x, S2, rfl, h⟩ := h
    exact (hk _ _ _ _ _ _ _ _ X hL hR hF hB h).step fun t q => XS.lsub X.here hx rfl hd rfl q
  | lmul =>
    dsimp only [ex] at h
    replace h := pL_ok h
    obtain ⟨y, S1, rfl, h⟩ := h
    replace h := pL_ok h
    obtain ⟨x, S2, rfl, h⟩ := h
    exact (hk _ _ _ _ _ _ _ _ X hL hR hF hB h).step fun t q => XS.lmul X.here hx rfl hd rfl q
  | land =>
    dsimp only [ex] at h
    replace h := pL_ok h
    obtain ⟨y, S1, rfl, h⟩ := h
    replace h := pL_ok h
    obtain ⟨x, S2, rfl, h⟩ := h
    exact (hk _ _ _ _ _ _ _ _ X hL hR hF hB h).step fun t q => XS.land X.here hx rfl hd rfl q
  | lor =>
    dsimp only [ex] at h
    replace h := pL_ok h
    obtain ⟨y, S1, rfl, h⟩ := h
    replace h := pL_ok h
    obtain ⟨x, S2, rfl, h⟩ := h
    exact (hk _ _ _ _ _ _ _ _ X hL hR hF hB h).step fun t q => XS.lor X.here hx rfl hd rfl q
  | lxor =>
    dsimp only [ex] at h
    replace h := pL_ok h
    obtain ⟨y, S1, rfl, h⟩ := h
    replace h := pL_ok h
    obtain ⟨x, S2, rfl, h⟩ := h
    exact (hk _ _ _ _ _ _ _ _ X hL hR hF hB h).step fun t q => XS.lxor X.here hx rfl hd rfl q
  | lcmp =>
    dsimp only [ex] at h
    replace h := pL_ok h
    obtain ⟨y, S1, rfl, h⟩ := h
    replace h := pL_ok h
    obtain ⟨x, S2, rfl, h⟩ := h
    exact (hk _ _ _ _ _ _ _ _ X hL hR hF hB h).step fun t q => XS.lcmp X.here hx rfl hd rfl q
  | lshl =>
    dsimp only [ex] at h
    replace h := pI_ok h
    obtain ⟨y, S1, rfl, h⟩ := h
    replace h := pL_ok h
    obtain ⟨x, S2, rfl, h⟩ := h
    exact (hk _ _ _ _ _ _ _ _ X hL hR hF hB h).step fun t q => XS.lshl X.here hx rfl hd rfl q
  | lshr =>
    dsimp only [ex] at h
    replace h := pI_ok h
    obtain ⟨y, S1, rfl, h⟩ := h
    replace h := pL_ok h
    obtain ⟨x, S2, rfl, h⟩ := h
    exact (hk _ _ _ _ _ _ _ _ X hL hR hF hB h).step fun t q => XS.lshr X.here hx rfl hd rfl q
  | lushr =>
    dsimp only [ex] at h
    replace h := pI_ok h
    obtain ⟨y, S1, rfl, h⟩ := h
    replace h := pL_ok h
    obtain ⟨x, S2, rfl, h⟩ := h
    exact (hk _ _ _ _ _ _ _ _ X hL hR hF hB h).step fun t q => XS.lushr X.here hx rfl hd rfl q
  | idiv =>
    dsimp only [ex] at h
    replace h := pI_ok h
    obtain ⟨y, S1, rfl, h⟩ := h
    replace h := pI_ok h
    obtain ⟨x, S2, rfl, h⟩ := h
    split at h
    · cases h
    · rename_i hy
      exact (hk _ _ _ _ _ _ _ _ X hL hR hF hB h).step fun t q => XS.idiv X.here hx rfl hd rfl hy q
  | irem =>
    dsimp only [ex] at h
    replace h := pI_ok h
    obtain ⟨y, S1, rfl, h⟩ := h
    replace h := pI_ok h
    obtain ⟨x, S2, rfl, h⟩ := h
    split at h
    · cases h
    · rename_i hy
      exact (hk _ _ _ _ _ _ _ _ X hL hR hF hB h).step fun t q => iremM X hx rfl hd rfl hy q
  | ldiv =>
    dsimp only [ex] at h
    replace h := pL_ok h
    obtain ⟨y, S1, rfl, h⟩ := h
    replace h := pL_ok h
    obtain ⟨x, S2, rfl, h⟩ := h
    split at h
    · cases h
    · rename_i hy
      exact (hk _ _ _ _ _ _ _ _ X hL hR hF hB h).step fun t q => XS.ldiv X.here hx rfl hd rfl hy q
  | lrem =>
    dsimp only [ex] at h
    replace h := pL_ok h
    obtain ⟨y, S1, rfl, h⟩ := h
    replace h := pL_ok h
    obtain ⟨x, S2, rfl, h⟩ := h
    split at h
    · cases h
    · rename_i hy
      exact (hk _ _ _ _ _ _ _ _ X hL hR hF hB h).step fun t q => XS.lrem X.here hx rfl hd rfl hy (by rw [lrem_mod]; exact q)
  | ineg =>
    dsimp only [ex] at h
    replace h := pI_ok h
    obtain ⟨x, S1, rfl, h⟩ := h
    exact (hk _ _ _ _ _ _ _ _ X hL hR hF hB h).step fun t q => XS.ineg X.here hx rfl hd rfl q
  | i2b =>
    dsimp only [ex] at h
    replace h := pI_ok h
    obtain ⟨x, S1, rfl, h⟩ := h
    exact (hk _ _ _ _ _ _ _ _ X hL hR hF hB h).step fun t q => XS.i2b X.here hx rfl hd rfl q
  | i2c =>
    dsimp only [ex] at h
    replace h := pI_ok h
    obtain ⟨x, S1, rfl, h⟩ := h
    exact (hk _ _ _ _ _ _ _ _ X hL hR hF hB h).step fun t q => XS.i2c X.here hx rfl hd rfl q
  | i2s =>
    dsimp only [ex] at h
    replace h := pI_ok h
    obtain ⟨x, S1, rfl, h⟩ := h
    exact (hk _ _ _ _ _ _ _ _ X hL hR hF hB h).step fun t q => XS.i2s X.here hx rfl hd rfl q
  | i2l =>
    dsimp only [ex] at h
    replace h := pI_ok h
    obtain ⟨x, S1, rfl, h⟩ := h
    exact (hk _ _ _ _ _ _ _ _ X hL hR hF hB h).step fun t q => XS.i2l X.here hx rfl hd rfl q
  | l2i =>
    dsimp only [ex] at h
    replace h := pL_ok h
    obtain ⟨x, S1, rfl, h⟩ := h
    exact (hk _ _ _ _ _ _ _ _ X hL hR hF hB h).step fun t q => XS.l2i X.here hx rfl hd rfl q
  | lneg =>
    dsimp only [ex] at h
    replace h := pL_ok h
    obtain ⟨x, S1, rfl, h⟩ := h
    exact (hk _ _ _ _ _ _ _ _ X hL hR hF hB h).step fun t q => XS.lneg X.here hx rfl hd rfl q
  | dup =>
    dsimp only [ex] at h
    replace h := p1_ok (σ := σ) h
    obtain ⟨x, S1, rfl, h, h1⟩ := h
    exact (hk _ _ _ _ _ _ _ _ X hL hR hF hB h).step fun t q => XS.dup X.here hx rfl hd rfl h1 q
  | pop =>
    dsimp only [ex] at h
    replace h := p1_ok (σ := σ) h
    obtain ⟨x, S1, rfl, h, h1⟩ := h
    exact (hk _ _ _ _ _ _ _ _ X hL hR hF hB h).step fun t q => XS.pop X.here hx rfl hd rfl h1 q
  | dup_x1 =>
    dsimp only [ex] at h
    replace h := p1_ok (σ := σ) h
    obtain ⟨x, S1, rfl, h, h1⟩ := h
    replace h := p1_ok (σ := σ) h
    obtain ⟨y, S2, rfl, h, h2⟩ := h
    exact (hk _ _ _ _ _ _ _ _ X hL hR hF hB h).step fun t q => XS.dupX1 X.here hx rfl hd rfl h1 h2 q
  | dup2 =>
    dsimp only [ex] at h
    replace h := p1_ok (σ := σ) h
    obtain ⟨x, S1, rfl, h, h1⟩ := h
    replace h := p1_ok (σ := σ) h
    obtain ⟨y, S2, rfl, h, h2⟩ := h
    exact (hk _ _ _ _ _ _ _ _ X hL hR hF hB h).step fun t q => XT.dup2 X.here hx rfl hd rfl h1 h2 q
  | goto o =>
    dsimp only [ex] at h
    split at h
    · rename_i ho
      exact (hk _ _ _ _ _ _ _ _ X hL hR hF hB h).step fun t q => XS.goto X.here hx rfl rfl hd ho rfl q
    · cases h
  | ifCond cd o =>
    dsimp only [ex] at h
    replace h := pI_ok h
    obtain ⟨x, S1, rfl, h⟩ := h
    replace h := br_ok h
    obtain ⟨ho, ⟨hc, h⟩ | ⟨hc, h⟩⟩ := h
    · exact (hk _ _ _ _ _ _ _ _ X hL hR hF hB h).step fun t q => XS.ifYes X.here hx rfl rfl hd rfl hc ho rfl q
    · exact (hk _ _ _ _ _ _ _ _ X hL hR hF hB h).step fun t q => XS.ifNo X.here hx rfl hd rfl hc q
  | if_icmp cd o =>
    dsimp only [ex] at h
    replace h := pI_ok h
    obtain ⟨y, S1, rfl, h⟩ := h
    replace h := pI_ok h
    obtain ⟨x, S2, rfl, h⟩ := h
    replace h := br_ok h
    obtain ⟨ho, ⟨hc, h⟩ | ⟨hc, h⟩⟩ := h
    · exact (hk _ _ _ _ _ _ _ _ X hL hR hF hB h).step fun t q => XS.icmpYes X.here hx rfl rfl hd rfl hc ho rfl q
    · exact (hk _ _ _ _ _ _ _ _ X hL hR hF hB h).step fun t q => XS.icmpNo X.here hx rfl hd rfl hc q
  | ifnull o =>
    dsimp only [ex] at h
    replace h := pA_ok h
    obtain ⟨x, S1, rfl, h, hr⟩ := h
    replace h := br_ok h
    obtain ⟨ho, ⟨hc, h⟩ | ⟨hc, h⟩⟩ := h
    · rcases hr with rfl | ⟨a, rfl⟩
      · exact (hk _ _ _ _ _ _ _ _ X hL hR hF hB h).step fun t q => XS.ifnullYes X.here hx rfl rfl hd rfl ho rfl q
      · cases hc
    · rcases hr with rfl | ⟨a, rfl⟩
      · cases hc
      · exact (hk _ _ _ _ _ _ _ _ X hL hR hF hB h).step fun t q => XS.ifnullNo X.here hx rfl hd rfl q
  | ifnonnull o =>
    dsimp only [ex] at h
    replace h := pA_ok h
    obtain ⟨x, S1, rfl, h, hr⟩ := h
    replace h := br_ok h
    obtain ⟨ho, ⟨hc, h⟩ | ⟨hc, h⟩⟩ := h
    · rcases hr with rfl | ⟨a, rfl⟩
      · cases hc
      · exact (hk _ _ _ _ _ _ _ _ X hL hR hF hB h).step fun t q => XS.ifnonnullYes X.here hx rfl rfl hd rfl ho rfl q
    · rcases hr with rfl | ⟨a, rfl⟩
      · exact (hk _ _ _ _ _ _ _ _ X hL hR hF hB h).step fun t q => XS.ifnonnullNo X.here hx rfl hd rfl q
      · cases hc
  | if_acmp cd o =>
    dsimp only [ex] at h
    replace h := pA_ok h
    obtain ⟨y, S1, rfl, h, hr⟩ := h
    replace h := pA_ok h
    obtain ⟨x, S2, rfl, h, hr'⟩ := h
    replace h := br_ok h
    obtain ⟨ho, ⟨hc, h⟩ | ⟨hc, h⟩⟩ := h
    · exact (hk _ _ _ _ _ _ _ _ X hL hR hF hB h).step fun t q => acmp X hx rfl (ref_of hr').1 (ref_of hr).1 (same := refEq x y) rfl hd rfl (refEq_ok hsg hr' hr) ho (by rw [if_pos hc]) q
    · exact (hk _ _ _ _ _ _ _ _ X hL hR hF hB h).step fun t q => acmp X hx rfl (ref_of hr').1 (ref_of hr).1 (same := refEq x y) rfl hd rfl (refEq_ok hsg hr' hr) ho (by rw [if_neg (by simp [hc])]) q
  | arraylength =>
    dsimp only [ex] at h
    replace h := pR_ok h
    obtain ⟨a, S1, rfl, h⟩ := h
    replace h := bind_ok h
    obtain ⟨⟨ty, vs⟩, h1, h⟩ := h
    obtain ⟨cell, A, hs, hl, hfi, -⟩ := hR.2.2.2 _ _ (arr_some h1)
    have hz : cell.slots.size.toInt32 = vs.length.toInt32 := by rw [hs]; simp
    have D := hk _ _ _ _ _ _ _ _ X hL hR hF hB h
    refine D.step fun t q => ?_
    refine X.arraylength hx (cell := cell) A.1 (State.isArrayOf_alike hZ.alike A.2.1) (g := mkF m pc (cL σ L) (.ref (σ a) :: S1.map (cv σ))) rfl rfl hd t ?_
    rw [hz]
    exact q
  | iaload =>
    dsimp only [ex, ald] at h
    replace h := pI_ok h
    obtain ⟨j, S1, rfl, h⟩ := h
    replace h := pR_ok h
    obtain ⟨a, S2, rfl, h⟩ := h
    replace h := bind_ok h
    obtain ⟨⟨ty, vs⟩, h1, h⟩ := h
    split at h
    · rename_i hq
      replace h := bind_ok h
      obtain ⟨v, h2, h⟩ := h
      obtain ⟨cell, A, hs, hl, hfi, -⟩ := hR.2.2.2 _ _ (arr_some h1)
      obtain rfl : ty = .int := of_decide_eq_true hq.1
      have hv : cell.slots[j.toNatClampNeg]? = some (cv σ v) := by rw [hs, List.getElem?_toArray, List.getElem?_map, h2]; rfl
      exact (hk _ _ _ _ _ _ _ _ X hL hR hF hB h).step fun t q => X.iaload hx (cell := cell) (j := j) (v := cv σ v) A.1 (State.isArrayOf_alike hZ.alike A.2.1) A.2.2 (inB hq.2 hv) hv (g := mkF m pc (cL σ L) (.int j :: .ref (σ a) :: S2.map (cv σ))) rfl rfl hd t q
    · cases h
  | baload =>
    dsimp only [ex, ald] at h
    replace h := pI_ok h
    obtain ⟨j, S1, rfl, h⟩ := h
    replace h := pR_ok h
    obtain ⟨a, S2, rfl, h⟩ := h
    replace h := bind_ok h
    obtain ⟨⟨ty, vs⟩, h1, h⟩ := h
    split at h
    · rename_i hq
      replace h := bind_ok h
      obtain ⟨v, h2, h⟩ := h
      obtain ⟨cell, A, hs, hl, hfi, -⟩ := hR.2.2.2 _ _ (arr_some h1)
      have hv : cell.slots[j.toNatClampNeg]? = some (cv σ v) := by rw [hs, List.getElem?_toArray, List.getElem?_map, h2]; rfl
      cases ty with
      | byte => exact (hk _ _ _ _ _ _ _ _ X hL hR hF hB h).step fun t q => X.baloadBytes hx (cell := cell) (j := j) (v := cv σ v) A.1 (State.isArrayOf_alike hZ.alike A.2.1) A.2.2 (inB hq.2 hv) hv (g := mkF m pc (cL σ L) (.int j :: .ref (σ a) :: S2.map (cv σ))) rfl rfl hd t q
      | boolean => exact (hk _ _ _ _ _ _ _ _ X hL hR hF hB h).step fun t q => X.baloadBooleans hx (cell := cell) (j := j) (v := cv σ v) A.1 (State.isArrayOf_alike hZ.alike A.2.1) A.2.2 (inB hq.2 hv) hv (g := mkF m pc (cL σ L) (.int j :: .ref (σ a) :: S2.map (cv σ))) rfl rfl hd t q
      | _ => exact nomatch (show false = true from hq.1)
    · cases h
  | caload =>
    dsimp only [ex, ald] at h
    replace h := pI_ok h
    obtain ⟨j, S1, rfl, h⟩ := h
    replace h := pR_ok h
    obtain ⟨a, S2, rfl, h⟩ := h
    replace h := bind_ok h
    obtain ⟨⟨ty, vs⟩, h1, h⟩ := h
    split at h
    · rename_i hq
      replace h := bind_ok h
      obtain ⟨v, h2, h⟩ := h
      obtain ⟨cell, A, hs, hl, hfi, -⟩ := hR.2.2.2 _ _ (arr_some h1)
      obtain rfl : ty = .char := of_decide_eq_true hq.1
      have hv : cell.slots[j.toNatClampNeg]? = some (cv σ v) := by rw [hs, List.getElem?_toArray, List.getElem?_map, h2]; rfl
      exact (hk _ _ _ _ _ _ _ _ X hL hR hF hB h).step fun t q => X.caload hx (cell := cell) (j := j) (v := cv σ v) A.1 (State.isArrayOf_alike hZ.alike A.2.1) A.2.2 (inB hq.2 hv) hv (g := mkF m pc (cL σ L) (.int j :: .ref (σ a) :: S2.map (cv σ))) rfl rfl hd t q
    · cases h
  | laload =>
    dsimp only [ex, ald] at h
    replace h := pI_ok h
    obtain ⟨j, S1, rfl, h⟩ := h
    replace h := pR_ok h
    obtain ⟨a, S2, rfl, h⟩ := h
    replace h := bind_ok h
    obtain ⟨⟨ty, vs⟩, h1, h⟩ := h
    split at h
    · rename_i hq
      replace h := bind_ok h
      obtain ⟨v, h2, h⟩ := h
      obtain ⟨cell, A, hs, hl, hfi, -⟩ := hR.2.2.2 _ _ (arr_some h1)
      obtain rfl : ty = .long := of_decide_eq_true hq.1
      have hv : cell.slots[j.toNatClampNeg]? = some (cv σ v) := by rw [hs, List.getElem?_toArray, List.getElem?_map, h2]; rfl
      exact (hk _ _ _ _ _ _ _ _ X hL hR hF hB h).step fun t q => X.laload hx (cell := cell) (j := j) (v := cv σ v) A.1 (State.isArrayOf_alike hZ.alike A.2.1) A.2.2 (inB hq.2 hv) hv (g := mkF m pc (cL σ L) (.int j :: .ref (σ a) :: S2.map (cv σ))) rfl rfl hd t q
    · cases h
  | aaload =>
    dsimp only [ex, ald] at h
    replace h := pI_ok h
    obtain ⟨j, S1, rfl, h⟩ := h
    replace h := pR_ok h
    obtain ⟨a, S2, rfl, h⟩ := h
    replace h := bind_ok h
    obtain ⟨⟨ty, vs⟩, h1, h⟩ := h
    split at h
    · rename_i hq
      replace h := bind_ok h
      obtain ⟨v, h2, h⟩ := h
      obtain ⟨cell, A, hs, hl, hfi, -⟩ := hR.2.2.2 _ _ (arr_some h1)
      have hv : cell.slots[j.toNatClampNeg]? = some (cv σ v) := by rw [hs, List.getElem?_toArray, List.getElem?_map, h2]; rfl
      exact (hk _ _ _ _ _ _ _ _ X hL hR hF hB h).step fun t q => X.aaload hx (cell := cell) (j := j) (v := cv σ v) A.1 (State.isArrayOf_alike hZ.alike A.2.1) hq.1 A.2.2 (inB hq.2 hv) hv (g := mkF m pc (cL σ L) (.int j :: .ref (σ a) :: S2.map (cv σ))) rfl rfl hd t q
    · cases h
  | iastore =>
    dsimp only [ex, ast] at h
    replace h := pI_ok h
    obtain ⟨x, S0, rfl, h⟩ := h
    replace h := pI_ok h
    obtain ⟨j, S1, rfl, h⟩ := h
    replace h := pR_ok h
    obtain ⟨a, S2, rfl, h⟩ := h
    replace h := bind_ok h
    obtain ⟨⟨ty, vs⟩, h1, h⟩ := h
    split at h
    · rename_i hq
      obtain rfl : ty = .int := of_decide_eq_true hq.1
      obtain ⟨cell, A, hs, hl, hfi, -⟩ := hR.2.2.2 _ _ (arr_some h1)
      obtain ⟨T', h', X', e', W, st⟩ := stI X hx hZ rfl A (j := j) (x := x) (by rw [hs]; simpa using And.intro hq.2.1 hq.2.2.1) (g := mkF m pc (cL σ L) _) rfl rfl hd
      refine (hk _ _ _ _ _ _ _ _ X' hL (e' ▸ hR.write hsg hq.2.2.2 W (RepO.arr (hR.2.2.2 _ _ (arr_some h1)) (v := .int _) (rfl) W)) (Fr.snoc X' hF (hsg.new hq.2.2.2)) hB h).step st
    · cases h
  | bastore =>
    dsimp only [ex, ast] at h
    replace h := pI_ok h
    obtain ⟨x, S0, rfl, h⟩ := h
    replace h := pI_ok h
    obtain ⟨j, S1, rfl, h⟩ := h
    replace h := pR_ok h
    obtain ⟨a, S2, rfl, h⟩ := h
    replace h := bind_ok h
    obtain ⟨⟨ty, vs⟩, h1, h⟩ := h
    split at h
    · rename_i hq
      obtain rfl : ty = .byte := of_decide_eq_true hq.1
      obtain ⟨cell, A, hs, hl, hfi, -⟩ := hR.2.2.2 _ _ (arr_some h1)
      obtain ⟨T', h', X', e', W, st⟩ := stB X hx hZ rfl A (j := j) (x := x) (by rw [hs]; simpa using And.intro hq.2.1 hq.2.2.1) (g := mkF m pc (cL σ L) _) rfl rfl hd
      refine (hk _ _ _ _ _ _ _ _ X' hL (e' ▸ hR.write hsg hq.2.2.2 W (RepO.arr (hR.2.2.2 _ _ (arr_some h1)) (v := .int _) (fits_nar_byte _) W)) (Fr.snoc X' hF (hsg.new hq.2.2.2)) hB h).step st
    · cases h
  | castore =>
    dsimp only [ex, ast] at h
    replace h := pI_ok h
    obtain ⟨x, S0, rfl, h⟩ := h
    replace h := pI_ok h
    obtain ⟨j, S1, rfl, h⟩ := h
    replace h := pR_ok h
    obtain ⟨a, S2, rfl, h⟩ := h
    replace h := bind_ok h
    obtain ⟨⟨ty, vs⟩, h1, h⟩ := h
    split at h
    · rename_i hq
      obtain rfl : ty = .char := of_decide_eq_true hq.1
      obtain ⟨cell, A, hs, hl, hfi, -⟩ := hR.2.2.2 _ _ (arr_some h1)
      obtain ⟨T', h', X', e', W, st⟩ := stC X hx hZ rfl A (j := j) (x := x) (by rw [hs]; simpa using And.intro hq.2.1 hq.2.2.1) (g := mkF m pc (cL σ L) _) rfl rfl hd
      refine (hk _ _ _ _ _ _ _ _ X' hL (e' ▸ hR.write hsg hq.2.2.2 W (RepO.arr (hR.2.2.2 _ _ (arr_some h1)) (v := .int _) (fits_nar_char _) W)) (Fr.snoc X' hF (hsg.new hq.2.2.2)) hB h).step st
    · cases h
  | lastore =>
    dsimp only [ex, astL] at h
    replace h := pL_ok h
    obtain ⟨x, S0, rfl, h⟩ := h
    replace h := pI_ok h
    obtain ⟨j, S1, rfl, h⟩ := h
    replace h := pR_ok h
    obtain ⟨a, S2, rfl, h⟩ := h
    replace h := bind_ok h
    obtain ⟨⟨ty, vs⟩, h1, h⟩ := h
    split at h
    · rename_i hq
      obtain rfl : ty = .long := hq.1
      obtain ⟨cell, A, hs, hl, hfi, -⟩ := hR.2.2.2 _ _ (arr_some h1)
      obtain ⟨T', h', X', e', W, st⟩ := stJ X hx hZ rfl A (j := j) (x := x) (by rw [hs]; simpa using And.intro hq.2.1 hq.2.2.1) (g := mkF m pc (cL σ L) _) rfl rfl hd
      refine (hk _ _ _ _ _ _ _ _ X' hL (e' ▸ hR.write hsg hq.2.2.2 W (RepO.arr (hR.2.2.2 _ _ (arr_some h1)) (v := .long _) rfl W)) (Fr.snoc X' hF (hsg.new hq.2.2.2)) hB h).step st
    · cases h
  | ldc i =>
    dsimp only [ex, spc] at h
    replace h := bind_ok h
    obtain ⟨act, h1, h⟩ := h
    replace h := bind_ok h
    obtain ⟨⟨S', H', cs', ss'⟩, h2, h⟩ := h
    obtain ⟨T', locs', X', hR', hF', hB', st⟩ := look_good (q := 0) hE h1 T locs cs ss pc L S H S' H' cs' ss' X hd hL hR hF hB h2
    exact (hk _ _ _ _ _ _ _ _ X' hL hR' hF' hB' h).step st
  | ldc_w i =>
    dsimp only [ex, spc] at h
    replace h := bind_ok h
    obtain ⟨act, h1, h⟩ := h
    replace h := bind_ok h
    obtain ⟨⟨S', H', cs', ss'⟩, h2, h⟩ := h
    obtain ⟨T', locs', X', hR', hF', hB', st⟩ := look_good (q := 1) hE h1 T locs cs ss pc L S H S' H' cs' ss' X hd hL hR hF hB h2
    exact (hk _ _ _ _ _ _ _ _ X' hL hR' hF' hB' h).step st
  | ldc2_w i =>
    dsimp only [ex, spc] at h
    replace h := bind_ok h
    obtain ⟨act, h1, h⟩ := h
    replace h := bind_ok h
    obtain ⟨⟨S', H', cs', ss'⟩, h2, h⟩ := h
    obtain ⟨T', locs', X', hR', hF', hB', st⟩ := look_good (q := 2) hE h1 T locs cs ss pc L S H S' H' cs' ss' X hd hL hR hF hB h2
    exact (hk _ _ _ _ _ _ _ _ X' hL hR' hF' hB' h).step st
  | getfield i =>
    dsimp only [ex, spc] at h
    replace h := bind_ok h
    obtain ⟨act, h1, h⟩ := h
    replace h := bind_ok h
    obtain ⟨⟨S', H', cs', ss'⟩, h2, h⟩ := h
    obtain ⟨T', locs', X', hR', hF', hB', st⟩ := look_good (q := 3) hE h1 T locs cs ss pc L S H S' H' cs' ss' X hd hL hR hF hB h2
    exact (hk _ _ _ _ _ _ _ _ X' hL hR' hF' hB' h).step st
  | putfield i =>
    dsimp only [ex, spc] at h
    replace h := bind_ok h
    obtain ⟨act, h1, h⟩ := h
    replace h := bind_ok h
    obtain ⟨⟨S', H', cs', ss'⟩, h2, h⟩ := h
    obtain ⟨T', locs', X', hR', hF', hB', st⟩ := look_good (q := 4) hE h1 T locs cs ss pc L S H S' H' cs' ss' X hd hL hR hF hB h2
    exact (hk _ _ _ _ _ _ _ _ X' hL hR' hF' hB' h).step st
  | getstatic i =>
    dsimp only [ex, spc] at h
    replace h := bind_ok h
    obtain ⟨act, h1, h⟩ := h
    replace h := bind_ok h
    obtain ⟨⟨S', H', cs', ss'⟩, h2, h⟩ := h
    obtain ⟨T', locs', X', hR', hF', hB', st⟩ := look_good (q := 5) hE h1 T locs cs ss pc L S H S' H' cs' ss' X hd hL hR hF hB h2
    exact (hk _ _ _ _ _ _ _ _ X' hL hR' hF' hB' h).step st
  | new i =>
    dsimp only [ex, spc] at h
    replace h := bind_ok h
    obtain ⟨act, h1, h⟩ := h
    replace h := bind_ok h
    obtain ⟨⟨S', H', cs', ss'⟩, h2, h⟩ := h
    obtain ⟨T', locs', X', hR', hF', hB', st⟩ := look_good (q := 6) hE h1 T locs cs ss pc L S H S' H' cs' ss' X hd hL hR hF hB h2
    exact (hk _ _ _ _ _ _ _ _ X' hL hR' hF' hB' h).step st
  | invokestatic i =>
    dsimp only [ex, spc] at h
    replace h := bind_ok h
    obtain ⟨act, h1, h⟩ := h
    replace h := bind_ok h
    obtain ⟨⟨S', H', cs', ss'⟩, h2, h⟩ := h
    obtain ⟨T', locs', X', hR', hF', hB', st⟩ := look_good (q := 7) hE h1 T locs cs ss pc L S H S' H' cs' ss' X hd hL hR hF hB h2
    exact (hk _ _ _ _ _ _ _ _ X' hL hR' hF' hB' h).step st
  | invokespecial i =>
    dsimp only [ex, spc] at h
    replace h := bind_ok h
    obtain ⟨act, h1, h⟩ := h
    replace h := bind_ok h
    obtain ⟨⟨S', H', cs', ss'⟩, h2, h⟩ := h
    obtain ⟨T', locs', X', hR', hF', hB', st⟩ := look_good (q := 8) hE h1 T locs cs ss pc L S H S' H' cs' ss' X hd hL hR hF hB h2
    exact (hk _ _ _ _ _ _ _ _ X' hL hR' hF' hB' h).step st
  | invokevirtual i =>
    dsimp only [ex, spc] at h
    replace h := bind_ok h
    obtain ⟨act, h1, h⟩ := h
    replace h := bind_ok h
    obtain ⟨⟨S', H', cs', ss'⟩, h2, h⟩ := h
    obtain ⟨T', locs', X', hR', hF', hB', st⟩ := look_good (q := 9) hE h1 T locs cs ss pc L S H S' H' cs' ss' X hd hL hR hF hB h2
    exact (hk _ _ _ _ _ _ _ _ X' hL hR' hF' hB' h).step st
  | checkcast i =>
    dsimp only [ex, spc] at h
    replace h := bind_ok h
    obtain ⟨act, h1, h⟩ := h
    replace h := bind_ok h
    obtain ⟨⟨S', H', cs', ss'⟩, h2, h⟩ := h
    obtain ⟨T', locs', X', hR', hF', hB', st⟩ := look_good (q := 10) hE h1 T locs cs ss pc L S H S' H' cs' ss' X hd hL hR hF hB h2
    exact (hk _ _ _ _ _ _ _ _ X' hL hR' hF' hB' h).step st
  | instanceof i =>
    dsimp only [ex, spc] at h
    replace h := bind_ok h
    obtain ⟨act, h1, h⟩ := h
    replace h := bind_ok h
    obtain ⟨⟨S', H', cs', ss'⟩, h2, h⟩ := h
    obtain ⟨T', locs', X', hR', hF', hB', st⟩ := look_good (q := 11) hE h1 T locs cs ss pc L S H S' H' cs' ss' X hd hL hR hF hB h2
    exact (hk _ _ _ _ _ _ _ _ X' hL hR' hF' hB' h).step st
  | anewarray i =>
    dsimp only [ex, spc] at h
    replace h := bind_ok h
    obtain ⟨act, h1, h⟩ := h
    replace h := bind_ok h
    obtain ⟨⟨S', H', cs', ss'⟩, h2, h⟩ := h
    obtain ⟨T', locs', X', hR', hF', hB', st⟩ := look_good (q := 12) hE h1 T locs cs ss pc L S H S' H' cs' ss' X hd hL hR hF hB h2
    exact (hk _ _ _ _ _ _ _ _ X' hL hR' hF' hB' h).step st
  | newarray ty =>
    dsimp only [ex, spc] at h
    replace h := bind_ok h
    obtain ⟨act, h1, h⟩ := h
    replace h := bind_ok h
    obtain ⟨⟨S', H', cs', ss'⟩, h2, h⟩ := h
    have g1 := look_good (q := 13) hE h1
    rw [show insOf 13 (atn ty) = .newarray ty from by cases ty <;> rfl] at g1
    obtain ⟨T', locs', X', hR', hF', hB', st⟩ := g1 T locs cs ss pc L S H S' H' cs' ss' X hd hL hR hF hB h2
    exact (hk _ _ _ _ _ _ _ _ X' hL hR' hF' hB' h).step st
  | ireturn =>
    dsimp only [ex, rI] at h
    replace h := pI_ok h
    obtain ⟨z, S1, rfl, h⟩ := h
    split at h
    · cases h
      obtain ⟨fs, hr, hrun, hended, hW, hsame⟩ := X.leave (v := some (.int z)) (fun q => by rw [hrt] at q; cases q) hlk
      exact ⟨_, retOut X hx hrt rfl (Or.inl ⟨rfl, Or.inl rfl, z, rfl⟩) hd hr, hrun, hended, hR, locs, hF, hW, hsame.mono hB.1 hB.2⟩
    · cases h
      obtain ⟨fs, hr, hrun, hended, hW, hsame⟩ := X.leave (v := some (.int (z &&& 1))) (fun q => by rw [hrt] at q; cases q) hlk
      exact ⟨_, retN X hx (t := .boolean) (z := z) hrt (by simp) hd hr, hrun, hended, hR, locs, hF, hW, hsame.mono hB.1 hB.2⟩
    · cases h
      obtain ⟨fs, hr, hrun, hended, hW, hsame⟩ := X.leave (v := some (.int z.toInt8.toInt32)) (fun q => by rw [hrt] at q; cases q) hlk
      exact ⟨_, retN X hx (t := .byte) (z := z) hrt (by simp) hd hr, hrun, hended, hR, locs, hF, hW, hsame.mono hB.1 hB.2⟩
    · cases h
      obtain ⟨fs, hr, hrun, hended, hW, hsame⟩ := X.leave (v := some (.int z.toUInt32.toUInt16.toUInt32.toInt32)) (fun q => by rw [hrt] at q; cases q) hlk
      exact ⟨_, retN X hx (t := .char) (z := z) hrt (by simp) hd hr, hrun, hended, hR, locs, hF, hW, hsame.mono hB.1 hB.2⟩
    · cases h
      obtain ⟨fs, hr, hrun, hended, hW, hsame⟩ := X.leave (v := some (.int z.toInt16.toInt32)) (fun q => by rw [hrt] at q; cases q) hlk
      exact ⟨_, retN X hx (t := .short) (z := z) hrt (by simp) hd hr, hrun, hended, hR, locs, hF, hW, hsame.mono hB.1 hB.2⟩
    · cases h
  | dload n =>
    dsimp only [ex] at h
    replace h := bind_ok h
    obtain ⟨v, h1, h⟩ := h
    exact (hk _ _ _ _ _ _ _ _ X hL hR hF hB h).step fun t q => XS.dload X.here hx rfl hd (gD_ok h1) q
  | dstore n =>
    dsimp only [ex] at h
    replace h := pD_ok h
    obtain ⟨x, S1, rfl, h⟩ := h
    replace h := bind_ok h
    obtain ⟨L1, h1, h⟩ := h
    have h2 := st2D_ok (σ := σ) h1
    exact (hk _ _ _ _ _ _ _ _ X (h2.2.trans hL) hR hF hB h).step fun t q => XS.dstore X.here hx rfl hd rfl h2.1 q
  | dconst cst =>
    dsimp only [ex] at h
    match cst, hd, h with
    | 0, hd, h => exact (hk _ _ _ _ _ _ _ _ X hL hR hF hB h).step fun t q => XS.dconst0 X.here hx rfl hd rfl q
    | 1, hd, h => exact (hk _ _ _ _ _ _ _ _ X hL hR hF hB h).step fun t q => XS.dconst1 X.here hx rfl hd rfl q
  | l2d =>
    dsimp only [ex] at h
    replace h := pL_ok h
    obtain ⟨x, S1, rfl, h⟩ := h
    exact (hk _ _ _ _ _ _ _ _ X hL hR hF hB h).step fun t q => XS.l2dS X.here hx rfl hd rfl rfl q
  | ddiv =>
    dsimp only [ex] at h
    replace h := pD_ok h
    obtain ⟨y, S1, rfl, h⟩ := h
    replace h := pD_ok h
    obtain ⟨x, S2, rfl, h⟩ := h
    split at h
    · rename_i hn
      exact (hk _ _ _ _ _ _ _ _ X hL hR hF hB h).step fun t q => XS.ddivS X.here hx rfl hd rfl (nNaN_ok hn) rfl q
    · cases h
  | dcmp o =>
    dsimp only [ex] at h
    replace h := pD_ok h
    obtain ⟨y, S1, rfl, h⟩ := h
    replace h := pD_ok h
    obtain ⟨x, S2, rfl, h⟩ := h
    exact (hk _ _ _ _ _ _ _ _ X hL hR hF hB h).step fun t q => XS.dcmpS X.here hx rfl hd rfl rfl q
  | dreturn =>
    dsimp only [ex, rD] at h
    replace h := pD_ok h
    obtain ⟨z, S1, rfl, h⟩ := h
    split at h
    · cases h
      obtain ⟨fs, hr, hrun, hended, hW, hsame⟩ := X.leave (v := some (.double z)) (fun q => by rw [hrt] at q; cases q) hlk
      exact ⟨_, retOut X hx hrt rfl (Or.inr (Or.inr (Or.inl ⟨rfl, rfl, z, rfl⟩))) hd hr, hrun, hended, hR, locs, hF, hW, hsame.mono hB.1 hB.2⟩
    · cases h
  | lreturn =>
    dsimp only [ex, rL] at h
    replace h := pL_ok h
    obtain ⟨z, S1, rfl, h⟩ := h
    split at h
    · cases h
      obtain ⟨fs, hr, hrun, hended, hW, hsame⟩ := X.leave (v := some (.long z)) (fun q => by rw [hrt] at q; cases q) hlk
      exact ⟨_, retOut X hx hrt rfl (Or.inr (Or.inl ⟨rfl, rfl, z, rfl⟩)) hd hr, hrun, hended, hR, locs, hF, hW, hsame.mono hB.1 hB.2⟩
    · cases h
  | areturn =>
    dsimp only [ex, rA] at h
    replace h := pA_ok h
    obtain ⟨z, S1, rfl, h, hq⟩ := h
    split at h
    · cases h
      obtain ⟨fs, hr, hrun, hended, hW, hsame⟩ := X.leave (v := some (cv σ z)) (fun q => by rw [hrt] at q; cases q) hlk
      exact ⟨_, retOut X hx hrt (by cases z <;> rfl) (Or.inr (Or.inr (Or.inr (Or.inr ⟨rfl, rfl, (ref_of hq).1⟩)))) hd hr, hrun, hended, hR, locs, hF, hW, hsame.mono hB.1 hB.2⟩
    · cases h
      obtain ⟨fs, hr, hrun, hended, hW, hsame⟩ := X.leave (v := some (cv σ z)) (fun q => by rw [hrt] at q; cases q) hlk
      exact ⟨_, retOut X hx hrt (by cases z <;> rfl) (Or.inr (Or.inr (Or.inr (Or.inr ⟨rfl, rfl, (ref_of hq).1⟩)))) hd hr, hrun, hended, hR, locs, hF, hW, hsame.mono hB.1 hB.2⟩
    · cases h
  | return_ =>
    dsimp only [ex, rV] at h
    split at h
    · cases h
      obtain ⟨fs, hr, hrun, hended, hW, hsame⟩ := X.leave (v := none) (fun _ => rfl) hlk
      exact ⟨_, X.returnOut hx hrt hd hr, hrun, hended, hR, locs, hF, hW, hsame.mono hB.1 hB.2⟩
    · cases h
  | _ => exact nomatch (show (none : Option ORes) = some res from h)
theorem run_sound {rt : Option FieldType} {E : List (Nat × Nat × Act)} {res : ORes} (hx : p.tables.exec = Jvm.exec) (hZ : Z.Warmed39 s.vm) (hsg : Sg σ x0 n0) (hrt : meth.sig.returnType = rt) (hlk : meth.locks = false) (hE : AllGood p l e R s m args below meth c Z σ x0 n0 K E) :
    ∀ (n : Nat) (T : State) (locs : List Loc) (cs ss pc : Nat) (L : List Slot) (S : List Value) (H : AH), Stand p l e R s m args below meth c T locs cs ss → L.length = c.maxLocals → Rep Z σ x0 n0 K T.heap H → Fr n0 locs → cs ≤ R.cells ∧ ss ≤ R.slots → orun c.code rt E x0 n (pc, L, S, H, cs, ss) = some res → Done p e R s below Z σ x0 n0 K res T (mkF m pc (cL σ L) (S.map (cv σ)))
  | 0, _, _, _, _, _, _, _, _, _, _, _, _, _, h => nomatch (show (none : Option ORes) = some res from h)
  | n + 1, T, locs, cs, ss, pc, L, S, H, X, hL, hR, hF, hB, h => by
    rw [orun_succ] at h
    replace h := bind_ok h
    obtain ⟨i, hi, h⟩ := h
    exact ex_sound hx hZ hsg hrt hlk hE (run_sound hx hZ hsg hrt hlk hE n) X (dec_spec hi) hL hR hF hB h
/-! ## 4. A method's contract off its orun -/
def oflat : List Value → List Slot
  | [] => []
  | v :: r => if v.category = 2 then .val v :: .second :: oflat r else .val v :: oflat r
def ent (as : List Value) (n : Nat) : List Slot := oflat as ++ List.replicate (n - (oflat as).length) .unset
theorem cat_cv (v : Value) : (cv σ v).category = v.category := by cases v <;> rfl
theorem oflat_ok (as : List Value) : ∀ acc : Array Slot, (as.map (cv σ)).foldl (fun acc v => if v.category = 2 then (acc.push (.val v)).push .second else acc.push (.val v)) acc = acc ++ ((oflat as).map (csl σ)).toArray := by
  induction as with
  | nil => intro acc; simp [oflat]
  | cons v r ih =>
    intro acc
    simp only [List.map_cons, List.foldl_cons, cat_cv, oflat]
    rw [ih]
    split <;> simp [csl]
theorem ent_ok (as : List Value) (n : Nat) : argsToLocals (as.map (cv σ)).toArray n = cL σ (ent as n) := by
  have h := oflat_ok (σ := σ) as #[]
  simp only [argsToLocals, List.foldl_toArray]
  rw [h]
  simp [cL, ent, csl]
/-- what a callee's function says of it -/
def Says (l : Launch) (Z : State) (σ : Nat → Nat) (x0 n0 : Nat) (K : List CD) (y : MethodName) (bytes : ByteArray) (maxL : Nat) (ret : Option FieldType) (ws : List Jvm.Cond) (rm : Room) (F : List Value → AH → Option ORes) : Prop :=
  ∀ (as : List Value) (H : AH) (r : ORes) (h : Heap), F as H = some r → Rep Z σ x0 n0 K h H →
    MetFree l y (head1 (Jvm.Cond.code y bytes maxL ret :: ws) rm) (fun a U => a = (as.map (cv σ)).toArray ∧ Z.Warmed39 U.vm ∧ U.heap = h) (fun _ _ _ _ _ => True) (fun _ U o U' => ∃ v L, o = .returned v ∧ (v = r.1.map (cv σ) ∧ Rep Z σ x0 n0 K U'.heap r.2 ∧ Fr n0 L) ∧ FrameEnd U o U' L rm.cells rm.slots)
def fn (bytes : ByteArray) (maxL : Nat) (ret : Option FieldType) (E : List (Nat × Nat × Act)) (x0 fuel : Nat) (as : List Value) (H : AH) : Option ORes :=
  if (ent as maxL).length = maxL then orun bytes ret E x0 fuel (0, ent as maxL, [], H, 0, 0) else none
theorem says_fn {l : Launch} {Z : State} {σ : Nat → Nat} {x0 n0 : Nat} {K : List CD} {y : MethodName} {bytes : ByteArray} {maxL : Nat} {ret : Option FieldType} {ws : List Jvm.Cond} {rm : Room} {E : List (Nat × Nat × Act)} {fuel : Nat} (hsg : Sg σ x0 n0) (hpl : plainFor y = true)
    (hE : ∀ (p : Program) (e : Env) (s : State) (m : MethodId) (args : Array Value) (below : List Frame) (meth : Method) (c : Code), p.tables.exec = Jvm.exec → c.code = bytes → c.maxLocals = maxL → Z.Warmed39 s.vm → s.vm.findClass y.cls = some m.cls → meth.name = y.name → AllGood p l e rm s m args below meth c Z σ x0 n0 K E) :
    Says l Z σ x0 n0 K y bytes maxL ret ws rm (fn bytes maxL ret E x0 fuel) := by
  intro as H r h hf hR
  unfold fn at hf
  split at hf
  · rename_i hlen
    refine MetFree.of_bodySF hpl hisR ?_
    intro p e s m args below meth c s₁ Bd hml0 hP hK
    obtain ⟨rfl, hZ, hh⟩ := hP
    have hx := Bd.exec
    have hby := Bd.bytes
    have hown : s.vm.findClass y.cls = some m.cls := findClass_of_methodNamed Bd.named
    have hnm := (name_of_methodNamed Bd.named Bd.method).1
    have X0 : Stand p l e rm s m (as.map (cv σ)).toArray below meth c s₁ [] 0 0 := Stand.of_body Bd
    have e0 : s₁.heap = h := by rw [← hh, Bd.state]; rfl
    have D := run_sound hx hZ hsg Bd.returns (BodyLoose.notSynchronized Bd) (hE p e s m _ below meth c hx hby hml0 hZ hown hnm) fuel s₁ [] 0 0 0 (ent as maxL) [] H X0 (hlen.trans hml0.symm) (e0 ▸ hR) (Fr.nil n0) ⟨Nat.zero_le _, Nat.zero_le _⟩ (by rw [hby]; exact hf)
    obtain ⟨t, h1, h2, h3, h4, L, h5, h6, h7⟩ := D
    refine ⟨t, _, castTop (g' := mkF m 0 (cL σ (ent as maxL)) []) ?_ h1, h2, h3, _, L, rfl, ⟨rfl, h4, h5⟩, ⟨_, rfl⟩, h6, h7⟩
    simp only [entryFrame, ent_ok]
  · cases hf
end Sound
/-! ## 5. The steps that ask the sheet's words -/
def obj (H : AH) (k : Nat) : Option (Nat × List Value) := match H[k]? with | some (.inl q) => some q | _ => none
theorem obj_some {H : AH} {k : Nat} {q : Nat × List Value} (e : obj H k = some q) : H[k]? = some (.inl q) := by
  unfold obj at e; split at e
  · rename_i q' hq; cases e; exact hq
  · cases e
def aI (v : Int32) : Act := fun S H cs ss => some (.int v :: S, H, cs, ss)
def aD (v : UInt64) : Act := fun S H cs ss => some (.double v :: S, H, cs, ss)
def aJ (v : Int64) : Act := fun S H cs ss => some (.long v :: S, H, cs, ss)
def aGet (c j : Nat) : Act := fun S H cs ss => match S with
  | .ref a :: r => (obj H a).bind fun q => if q.1 = c then (q.2[j]?).bind fun v => some (v :: r, H, cs, ss) else none
  | _ => none
def aPut (x0 c j : Nat) (ty : FieldType) : Act := fun S H cs ss => match S with
  | v :: .ref a :: r => (obj H a).bind fun q => if q.1 = c ∧ narrow ty v = v ∧ fits ty v = true ∧ x0 ≤ a ∧ j < q.2.length then some (r, H.set a (.inl (c, q.2.set j v)), cs, ss) else none
  | _ => none
def aNew (c n Rc Rs : Nat) (ds : List Value) : Act := fun S H cs ss => if cs + 1 ≤ Rc ∧ ss + n ≤ Rs then some (.ref H.length :: S, H ++ [.inl (c, ds)], cs + 1, ss + n) else none
def aArr (ty : FieldType) (Rc Rs : Nat) : Act := fun S H cs ss => match S with
  | .int n :: r => if ¬ n < 0 ∧ cs + 1 ≤ Rc ∧ ss + n.toNatClampNeg ≤ Rs ∧ n.toNatClampNeg ≤ 67108864 then some (.ref H.length :: r, H ++ [.inr (ty, List.replicate n.toNatClampNeg (defaultValue ty))], cs + 1, ss + n.toNatClampNeg) else none
  | _ => none
def aObj (W : Nat) : Act := fun S H cs ss => match S with
  | .ref _ :: r => if (r.map Value.category).sum ≤ W then some (r, H, cs, ss) else none
  | _ => none
def aCall (na W Rc Rs mc ms : Nat) (F : List Value → AH → Option ORes) : Act := fun S H cs ss =>
  if na ≤ S.length ∧ ((S.drop na).map Value.category).sum ≤ W ∧ cs + mc ≤ Rc ∧ ss + ms ≤ Rs then (F (S.take na).reverse H).bind fun r => some (r.1.toList ++ S.drop na, r.2, cs + mc, ss + ms) else none
def aRecv (na cl W Rc Rs mc ms : Nat) (F : List Value → AH → Option ORes) : Act := fun S H cs ss => match S.drop na with
  | .ref a :: r => (obj H a).bind fun q => if q.1 = cl ∧ na ≤ S.length ∧ (r.map Value.category).sum ≤ W ∧ cs + mc ≤ Rc ∧ ss + ms ≤ Rs then (F (.ref a :: (S.take na).reverse) H).bind fun v => some (v.1.toList ++ r, v.2, cs + mc, ss + ms) else none
  | _ => none
section Acts
variable {p : Program} {l : Launch} {e : Env} {R : Room} {s : State} {m : MethodId} {args : Array Value} {below : List Frame} {meth : Method} {c : Code} {Z : State} {σ : Nat → Nat} {x0 n0 : Nat} {K : List CD} {a0 : Array Value}
theorem okI (hx : p.tables.exec = Jvm.exec) (hZ : Z.Warmed39 s.vm) {own : String} {idx : Nat} {v : Int32} (hown : s.vm.findClass own = some m.cls) (w : (Jvm.Cond.constant own idx v).before a0 Z = true) : Good p l e R s m args below meth c Z σ x0 n0 K (.ldc idx) (aI v) := by
  intro T locs cs ss pc L S H S' H' cs' ss' X hd hL hR hF hB h
  cases h
  exact ⟨T, locs, X, hR, hF, hB, fun t q => X.ldcInt hx hown (mvT hZ w) (g := mkF m pc (cL σ L) _) rfl hd t q⟩
theorem okIW (hx : p.tables.exec = Jvm.exec) (hZ : Z.Warmed39 s.vm) {own : String} {idx : Nat} {v : Int32} (hown : s.vm.findClass own = some m.cls) (w : (Jvm.Cond.constant own idx v).before a0 Z = true) : Good p l e R s m args below meth c Z σ x0 n0 K (.ldc_w idx) (aI v) := by
  intro T locs cs ss pc L S H S' H' cs' ss' X hd hL hR hF hB h
  cases h
  exact ⟨T, locs, X, hR, hF, hB, fun t q => X.ldcwInt hx hown (mvT hZ w) (g := mkF m pc (cL σ L) _) rfl hd t q⟩
theorem okD (hx : p.tables.exec = Jvm.exec) (hZ : Z.Warmed39 s.vm) {own : String} {idx : Nat} {v : UInt64} (hown : s.vm.findClass own = some m.cls) (w : (Jvm.Cond.constantDouble own idx v).before a0 Z = true) : Good p l e R s m args below meth c Z σ x0 n0 K (.ldc2_w idx) (aD v) := by
  intro T locs cs ss pc L S H S' H' cs' ss' X hd hL hR hF hB h
  cases h
  exact ⟨T, locs, X, hR, hF, hB, fun t q => X.ldc2DoubleC hx hown (mvT hZ w) (g := mkF m pc (cL σ L) _) rfl hd t q⟩
theorem okJ (hx : p.tables.exec = Jvm.exec) (hZ : Z.Warmed39 s.vm) {own : String} {idx : Nat} {v : Int64} (hown : s.vm.findClass own = some m.cls) (w : (Jvm.Cond.constantLong own idx v).before a0 Z = true) : Good p l e R s m args below meth c Z σ x0 n0 K (.ldc2_w idx) (aJ v) := by
  intro T locs cs ss pc L S H S' H' cs' ss' X hd hL hR hF hB h
  cases h
  exact ⟨T, locs, X, hR, hF, hB, fun t q => X.ldc2Long hx hown (mvT hZ w) (g := mkF m pc (cL σ L) _) rfl hd t q⟩
theorem okGet (hx : p.tables.exec = Jvm.exec) (hZ : Z.Warmed39 s.vm) {own R0 O n d host C : String} {idx cn j : Nat} {fs : List (String × String × String)} (hown : s.vm.findClass own = some m.cls) (w : (Jvm.Cond.fieldLink own idx R0 n d).before a0 Z = true ∨ (Jvm.Cond.fieldLinkNest own idx R0 n d host).before a0 Z = true) (via : Via Z R0 O n d)
    (hC : K[cn]? = some (C, fs)) (hj : fs[j]? = some (O, n, d)) : Good p l e R s m args below meth c Z σ x0 n0 K (.getfield idx) (aGet cn j) := by
  intro T locs cs ss pc L S H S' H' cs' ss' X hd hL hR hF hB h
  unfold aGet at h
  split at h
  · rename_i a r
    replace h := Option.bind_eq_some_iff.mp h
    obtain ⟨⟨cn', vs⟩, h1, h⟩ := h
    dsimp only at h
    split at h
    · rename_i hcn; subst hcn
      replace h := Option.bind_eq_some_iff.mp h
      obtain ⟨v, h2, h⟩ := h
      cases h
      obtain ⟨C', fs', q1, q2, q3⟩ := hR.2.2.2 _ _ (obj_some h1)
      cases hC.symm.trans q1
      obtain ⟨O', n', d', q4, q5⟩ := q3 j v h2
      cases hj.symm.trans q4
      obtain ⟨T', X', e', st⟩ := getF X hx hZ hown w via rfl q5 (g := mkF m pc (cL σ L) (List.map (cv σ) (.ref a :: r))) rfl rfl hd
      exact ⟨T', locs, X', e' ▸ hR, hF, hB, st⟩
    · cases h
  · cases h
theorem cv_narrow {ty : FieldType} {v : Value} (h : narrow ty v = v) : narrow ty (cv σ v) = cv σ v := by cases v <;> first | exact h | (cases ty <;> rfl)
theorem okPut (hx : p.tables.exec = Jvm.exec) (hZ : Z.Warmed39 s.vm) (hsg : Sg σ x0 n0) (KO : KOk Z a0 K) {own R0 O n d host C : String} {idx cn j : Nat} {ty : FieldType} {fs : List (String × String × String)} (hown : s.vm.findClass own = some m.cls) (w : (Jvm.Cond.fieldLink own idx R0 n d).before a0 Z = true ∨ (Jvm.Cond.fieldLinkNest own idx R0 n d host).before a0 Z = true) (via : Via Z R0 O n d)
    (hC : K[cn]? = some (C, fs)) (hj : fs[j]? = some (O, n, d)) (hty : parseFieldDescriptor d = some ty) (hLay : (Jvm.Cond.lays C O n d).before a0 Z = true ∨ ((Jvm.Cond.laysFinal C O n d).before a0 Z = true ∧ own = O ∧ meth.name = "<init>")) : Good p l e R s m args below meth c Z σ x0 n0 K (.putfield idx) (aPut x0 cn j ty) := by
  intro T locs cs ss pc L S H S' H' cs' ss' X hd hL hR hF hB h
  unfold aPut at h
  split at h
  · rename_i v a r
    replace h := Option.bind_eq_some_iff.mp h
    obtain ⟨⟨cn', vs⟩, h1, h⟩ := h
    dsimp only at h
    split at h
    · rename_i hq
      obtain ⟨rfl, hn, hf, hx0, hjl⟩ := hq
      cases h
      have hRO := hR.2.2.2 _ _ (obj_some h1)
      obtain ⟨C', fs', q1, q2, q3⟩ := hRO
      cases hC.symm.trans q1
      obtain ⟨O', n', d', q4, q5⟩ := q3 j _ (List.getElem?_eq_getElem hjl)
      cases hj.symm.trans q4
      obtain ⟨⟨kk, wi⟩, -⟩ := KO cn' C fs hC
      obtain ⟨T', h', X', e', W, st⟩ := putF X hx hZ hown w via rfl q5 q2 hLay wi hty (cv_narrow hn) ((cv_fits ty v).trans hf) (g := mkF m pc (cL σ L) (List.map (cv σ) (v :: .ref a :: S'))) rfl rfl hd
      exact ⟨T', _, X', e' ▸ hR.write hsg hx0 W (RepO.fld KO hC hj (hR.2.2.2 _ _ (obj_some h1)) W), Fr.snoc X' hF (hsg.new hx0), hB, st⟩
    · cases h
  · cases h
theorem ext_push (h : Heap) (c : Cell) : Ext h (h.push c) := ext_of fun a q => (Array.getElem?_push_lt q).trans (Array.getElem?_eq_getElem q).symm
theorem okNew (hx : p.tables.exec = Jvm.exec) (hZ : Z.Warmed39 s.vm) (hsg : Sg σ x0 n0) (KO : KOk Z a0 K) {own C : String} {idx n cn Rc Rs : Nat} {ds : List Value} {fs : List (String × String × String)} (hown : s.vm.findClass own = some m.cls) (w : (Jvm.Cond.classLink own idx C).before a0 Z = true) (wi : (Jvm.Cond.instantiable C n).before a0 Z = true) (wz : (Jvm.Cond.initialized C).before a0 Z = true)
    (hC : K[cn]? = some (C, fs)) (hds : ds = fs.map fun f => ((parseFieldDescriptor f.2.2).map defaultValue).getD .null) (hRc : Rc ≤ R.cells) (hRs : Rs ≤ R.slots) : Good p l e R s m args below meth c Z σ x0 n0 K (.new idx) (aNew cn n Rc Rs ds) := by
  intro T locs cs ss pc L S H S' H' cs' ss' X hd hL hR hF hB h
  unfold aNew at h
  split at h
  · rename_i hq
    cases h
    obtain ⟨vm', cC, kC, h1, h2, h3, h4, X', st⟩ := X.newCold hx hown (mv hZ w) (mv hZ wi) (mv hZ wz) (g := mkF m pc (cL σ L) (S.map (cv σ))) rfl hd (Nat.le_trans hq.1 hRc) (Nat.le_trans hq.2 hRs)
    have ea : σ H.length = T.heap.size := hR.addr hsg
    have h1' : Z.vm.findClass C = some cC := by rw [← hZ.alike.findClass]; exact h1
    obtain ⟨kZ, z1, -⟩ := Vm.findClass_spec h1'
    obtain ⟨k', z2, z3⟩ := hZ.alike.2.2 _ _ z1
    cases h2.symm.trans z2
    have ei : kC.instanceTypes = kZ.instanceTypes := by rw [z3]
    have hN : (T.heap.push { cls := cC, slots := kC.instanceTypes.map defaultValue, vm := .none })[T.heap.size]? = some { cls := cC, slots := kC.instanceTypes.map defaultValue, vm := .none } := by simp
    refine ⟨_, locs, X', hR.push (ext_push _ _) (by show (T.heap.push _).size = _; simp) ?_, hF, ⟨Nat.le_trans hq.1 hRc, Nat.le_trans hq.2 hRs⟩, ?_⟩
    · rw [ea]
      refine ⟨C, fs, hC, ⟨_, kZ, hN, h1', z1, rfl, fun _ => by simp [ei]⟩, fun j v hj => ?_⟩
      subst hds
      rw [List.getElem?_map, Option.map_eq_some_iff] at hj
      obtain ⟨⟨O, nm, d⟩, q1, q2⟩ := hj
      obtain ⟨-, k2, -⟩ := KO cn C fs hC
      obtain ⟨Ld, ty, ht⟩ := k2 j _ q1
      obtain ⟨c1, k1, cf, kf, i, f, a1, a2, a3, a4, a5, a6, -⟩ := Ld.spec
      cases h1'.symm.trans a1
      cases z1.symm.trans a2
      refine ⟨O, nm, d, q1, _, cf, kf, i, f, hN, a3, a4, by simp, rfl, a5, ?_⟩
      have ht' : parseFieldDescriptor d = some ty := ht
      simp only [ht', Option.map_some, Option.getD_some] at q2
      subst q2
      have hcv : cv σ (defaultValue ty) = defaultValue ty := by cases ty <;> rfl
      simp [ei, a6, (State.fieldFound?_type a3 ht).2, hcv]
    · intro t q
      refine st t ?_
      have q' := q
      simp only [List.map_cons, cv, ea] at q'
      exact q'
  · cases h
theorem okArr (hx : p.tables.exec = Jvm.exec) (hZ : Z.Warmed39 s.vm) (hsg : Sg σ x0 n0) {t : ArrayType} {Rc Rs : Nat} (w : (Jvm.Cond.arrayClass (newarray.typeOf t)).before a0 Z = true) (hRc : Rc ≤ R.cells) (hRs : Rs ≤ R.slots) : Good p l e R s m args below meth c Z σ x0 n0 K (.newarray t) (aArr (newarray.typeOf t) Rc Rs) := by
  intro T locs cs ss pc L S H S' H' cs' ss' X hd hL hR hF hB h
  unfold aArr at h
  split at h
  · rename_i n r
    split at h
    · rename_i hq
      cases h
      have hcb : componentBytes (newarray.typeOf t) ≤ 8 := by cases t <;> decide
      obtain ⟨cA, kA, comp, h1, h2, h3, X', st⟩ := X.newarrayPrim hx (mvA hZ w) (g := mkF m pc (cL σ L) (List.map (cv σ) (.int n :: r))) rfl hd rfl hq.1 (Nat.le_trans (Nat.mul_le_mul hq.2.2.2 hcb) (by decide)) (Nat.le_trans hq.2.1 hRc) (Nat.le_trans hq.2.2.1 hRs)
      have ea : σ H.length = T.heap.size := hR.addr hsg
      have h1' : Z.vm.findClass ("[" ++ (newarray.typeOf t).toString) = some cA := by rw [← hZ.alike.findClass]; exact h1
      obtain ⟨kZ, z1, -⟩ := Vm.findClass_spec h1'
      obtain ⟨k', z2, z3⟩ := hZ.alike.2.2 _ _ z1
      cases h2.symm.trans z2
      have kk : kZ.kind = .array comp (newarray.typeOf t) := by rw [← h3, z3]
      have hcv : cv σ (defaultValue (newarray.typeOf t)) = defaultValue (newarray.typeOf t) := by cases t <;> rfl
      refine ⟨_, locs, X', hR.push (ext_push _ _) (by show (T.heap.push _).size = _; simp) ?_, hF, ⟨Nat.le_trans hq.2.1 hRc, Nat.le_trans hq.2.2.1 hRs⟩, ?_⟩
      · rw [ea]
        refine ⟨newA cA (newarray.typeOf t) n, ⟨by show (T.heap.push _)[T.heap.size]? = _; simp [newA], ⟨by simp [newA], kZ, z1, comp, kk⟩, by simp [newA]⟩, by simp [newA, hcv], ?_, fun v hv => ?_, fun _ => ⟨newA cA (newarray.typeOf t) n, kZ, by show (T.heap.push _)[T.heap.size]? = _; simp [newA], h1', z1, rfl, fun q => by rw [kk] at q; cases q⟩⟩
        · rw [List.length_replicate]; have := hq.2.2.2; omega
        · rw [(List.mem_replicate.mp hv).2]; cases t <;> rfl
      · intro t q
        refine st t ?_
        have q' := q
        simp only [List.map_cons, cv, ea] at q'
        exact q'
    · cases h
  · cases h
theorem cat_sum (r : List Value) : ((r.map (cv σ)).map fun v => v.category).sum = (r.map Value.category).sum := by
  rw [List.map_map]; congr 1; exact List.map_congr_left fun v _ => cat_cv v
theorem okObj (hx : p.tables.exec = Jvm.exec) (hZ : Z.Warmed39 s.vm) {own : String} {idx W : Nat} (hown : s.vm.findClass own = some m.cls) (w1 : (Jvm.Cond.methodLink own idx Lib.objectInit).before a0 Z = true) (w2 : (Jvm.Cond.instanceMethod Lib.objectInit).before a0 Z = true)
    (w3 : (Jvm.Cond.code Lib.objectInit ⟨#[0xb1]⟩ 1 none).before a0 Z = true) (hf : 1 ≤ R.frames) (hl : W + 12 ≤ R.locals) : Good p l e R s m args below meth c Z σ x0 n0 K (.invokespecial idx) (aObj W) := by
  intro T locs cs ss pc L S H S' H' cs' ss' X hd hL hR hF hB h
  unfold aObj at h
  split at h
  · rename_i a r
    split at h
    · rename_i hq
      cases h
      obtain ⟨T', X', e', st⟩ := initO X hx hZ hown w1 w2 w3 rfl (g := mkF m pc (cL σ L) (List.map (cv σ) (.ref a :: S'))) rfl (size_cL.trans hL) rfl hd hf (W := W) (by show 2 * 0 + _ ≤ _; rw [cat_sum]; omega) hl
      exact ⟨T', locs, X', e' ▸ hR, hF, hB, st⟩
    · cases h
  · cases h
theorem args_rev (S : List Value) (na : Nat) : S.map (cv σ) = (((S.take na).reverse).map (cv σ)).reverse ++ (S.drop na).map (cv σ) := by
  rw [List.map_reverse, List.reverse_reverse, ← List.map_append, List.take_append_drop]
theorem toList_map (v : Option Value) (r : List Value) : (v.map (cv σ)).toList ++ r.map (cv σ) = (v.toList ++ r).map (cv σ) := by cases v <;> simp
theorem okStat (hx : p.tables.exec = Jvm.exec) (hZ : Z.Warmed39 s.vm) {own : String} {idx na W Rc Rs maxL : Nat} {y : MethodName} {bytes : ByteArray} {ret rr : Option FieldType} {ps : List FieldType} {rm : Room} {F : List Value → AH → Option ORes} (hF0 : Says l Z σ x0 n0 K y bytes maxL ret [] rm F)
    (hown : s.vm.findClass own = some m.cls) (w1 : (Jvm.Cond.methodLink own idx y).before a0 Z = true) (w2 : (Jvm.Cond.static y).before a0 Z = true) (w3 : (Jvm.Cond.initialized y.cls).before a0 Z = true) (w4 : (Jvm.Cond.code y bytes maxL ret).before a0 Z = true)
    (hy : y.cls ≠ "java/lang/invoke/MethodHandle" ∧ y.cls ≠ "java/lang/invoke/VarHandle") (hd0 : parseMethodDescriptor y.desc = some ⟨ps, rr⟩) (hna : ps.length = na) (hRc : Rc ≤ R.cells) (hRs : Rs ≤ R.slots) (hfr : rm.frames + 1 ≤ R.frames) (hlo : W + (maxL + 11) + rm.locals ≤ R.locals) :
    Good p l e R s m args below meth c Z σ x0 n0 K (.invokestatic idx) (aCall na W Rc Rs rm.cells rm.slots F) := by
  intro T locs cs ss pc L S H S' H' cs' ss' X hd hL hR hF hB h
  unfold aCall at h
  split at h
  · rename_i hq
    replace h := Option.bind_eq_some_iff.mp h
    obtain ⟨⟨v, H1⟩, h1, h⟩ := h
    cases h
    obtain ⟨v', vm1, ⟨T', L', k', n'⟩, -, X', ⟨Lc, ⟨hv, hR', hN⟩, l1, y1, z1⟩, st⟩ := Jvm.LawKit.callS X hx (y := y) hown (mvT hZ w1) (mvT hZ w2) (mvT hZ w3) (mvT hZ w4) hy (backOf (h := T.heap) (W := W) (Q := fun w h' L => w = v.map (cv σ) ∧ Rep Z σ x0 n0 K h' H1 ∧ Fr n0 L) (hF0 _ H _ T.heap h1 hR) hZ w4 w3 hfr hlo) (g := mkF m pc (cL σ L) (S.map (cv σ))) rfl (size_cL.trans hL) (argsL := ((S.take na).reverse).map (cv σ)) (rest := (S.drop na).map (cv σ)) (lenOf hd0 (by rw [hna]; simp; omega)) (args_rev S na) (by show 2 * 0 + _ ≤ _; rw [cat_sum]; omega) hd (fun _ _ => ⟨rfl, rfl, Nat.le_trans hq.2.2.1 hRc, Nat.le_trans hq.2.2.2 hRs⟩)
    dsimp only [Pt.U, Pt.locs, Pt.cells, Pt.slots] at X' l1 y1 z1 st hR'
    subst l1 y1 z1 hv
    refine ⟨T', _, X', hR', hF.app hN, ⟨Nat.le_trans hq.2.2.1 hRc, Nat.le_trans hq.2.2.2 hRs⟩, fun t q => st t ?_⟩
    show Steps p.tables e below (T'.setTop (mkF m (pc + 3) (cL σ L) ((v.map (cv σ)).toList ++ (S.drop na).map (cv σ)))) t
    rw [toList_map]; exact q
  · cases h
theorem okCtor (hx : p.tables.exec = Jvm.exec) (hZ : Z.Warmed39 s.vm) {own : String} {idx na cl W Rc Rs maxL : Nat} {y : MethodName} {bytes : ByteArray} {rr : Option FieldType} {ps : List FieldType} {rm : Room} {F : List Value → AH → Option ORes} (hF0 : Says l Z σ x0 n0 K y bytes maxL none [] rm F) (hy1 : y.name = "<init>")
    (hown : s.vm.findClass own = some m.cls) (w1 : (Jvm.Cond.methodLink own idx y).before a0 Z = true) (w2 : (Jvm.Cond.instanceMethod y).before a0 Z = true) (w3 : (Jvm.Cond.initialized y.cls).before a0 Z = true) (w4 : (Jvm.Cond.code y bytes maxL none).before a0 Z = true)
    (hy : y.cls ≠ "java/lang/invoke/MethodHandle" ∧ y.cls ≠ "java/lang/invoke/VarHandle") (hd0 : parseMethodDescriptor y.desc = some ⟨ps, rr⟩) (hna : ps.length = na) (hRc : Rc ≤ R.cells) (hRs : Rs ≤ R.slots) (hfr : rm.frames + 1 ≤ R.frames) (hlo : W + (maxL + 11) + rm.locals ≤ R.locals) :
    Good p l e R s m args below meth c Z σ x0 n0 K (.invokespecial idx) (aRecv na cl W Rc Rs rm.cells rm.slots F) := by
  intro T locs cs ss pc L S H S' H' cs' ss' X hd hL hR hF hB h
  unfold aRecv at h
  split at h
  · rename_i a r hdr
    replace h := Option.bind_eq_some_iff.mp h
    obtain ⟨q0, h0, h⟩ := h
    split at h
    · rename_i hq
      replace h := Option.bind_eq_some_iff.mp h
      obtain ⟨⟨v, H1⟩, h1, h⟩ := h
      cases h
      have hst : S.map (cv σ) = (((S.take na).reverse).map (cv σ)).reverse ++ .ref (σ a) :: r.map (cv σ) := by rw [args_rev S na, hdr]; rfl
      obtain ⟨v', vm1, ⟨T', L', k', n'⟩, -, X', ⟨Lc, ⟨hv, hR', hN⟩, l1, y1, z1⟩, st⟩ := X.specialBack hx (y := y) hy1 hown (mvT hZ w1) (mvT hZ w2) (mvT hZ w4) hy (backOf (h := T.heap) (W := W) (Q := fun w h' L => w = v.map (cv σ) ∧ Rep Z σ x0 n0 K h' H1 ∧ Fr n0 L) (hF0 _ H _ T.heap h1 hR) hZ w4 w3 hfr hlo) (g := mkF m pc (cL σ L) (S.map (cv σ))) rfl (size_cL.trans hL) (Steps.refl _) (a := σ a) (argsL := ((S.take na).reverse).map (cv σ)) (rest := r.map (cv σ)) (lenOf hd0 (by rw [hna]; simp; omega)) hst (by show 2 * 0 + _ ≤ _; rw [cat_sum]; omega) hd (fun _ _ => ⟨rfl, rfl, Nat.le_trans hq.2.2.2.1 hRc, Nat.le_trans hq.2.2.2.2 hRs⟩)
      dsimp only [Pt.U, Pt.locs, Pt.cells, Pt.slots] at X' l1 y1 z1 st hR'
      subst l1 y1 z1 hv
      refine ⟨T', _, X', hR', hF.app hN, ⟨Nat.le_trans hq.2.2.2.1 hRc, Nat.le_trans hq.2.2.2.2 hRs⟩, fun t q => st.trans ?_⟩
      show Steps p.tables e below (T'.setTop (mkF m (pc + 3) (cL σ L) ((v.map (cv σ)).toList ++ r.map (cv σ)))) t
      rw [toList_map]; exact q
    · cases h
  · cases h
theorem okVirt (hx : p.tables.exec = Jvm.exec) (hZ : Z.Warmed39 s.vm) {own C : String} {idx na cl W Rc Rs maxL : Nat} {y z : MethodName} {bytes : ByteArray} {ret rr : Option FieldType} {ps : List FieldType} {rm : Room} {fs : List (String × String × String)} {F : List Value → AH → Option ORes} (hF0 : Says l Z σ x0 n0 K z bytes maxL ret [] rm F) (hC : K[cl]? = some (C, fs))
    (hown : s.vm.findClass own = some m.cls) (w1 : (Jvm.Cond.methodLink own idx y).before a0 Z = true) (w2 : (Jvm.Cond.declares y).before a0 Z = true) (w5 : (Jvm.Cond.selects C y z).before a0 Z = true) (w6 : (Jvm.Cond.instanceMethod z).before a0 Z = true) (w3 : (Jvm.Cond.initialized z.cls).before a0 Z = true) (w4 : (Jvm.Cond.code z bytes maxL ret).before a0 Z = true)
    (nf : ∀ (s' : State) (ar : Array Value), (Jvm.Cond.selects C y z).before ar s' = true → NotFace s' y) (hy : y.cls ≠ "java/lang/invoke/MethodHandle" ∧ y.cls ≠ "java/lang/invoke/VarHandle") (hd0 : parseMethodDescriptor y.desc = some ⟨ps, rr⟩) (hna : ps.length = na) (hRc : Rc ≤ R.cells) (hRs : Rs ≤ R.slots) (hfr : rm.frames + 1 ≤ R.frames) (hlo : W + (maxL + 11) + rm.locals ≤ R.locals) :
    Good p l e R s m args below meth c Z σ x0 n0 K (.invokevirtual idx) (aRecv na cl W Rc Rs rm.cells rm.slots F) := by
  intro T locs cs ss pc L S H S' H' cs' ss' X hd hL hR hF hB h
  unfold aRecv at h
  split at h
  · rename_i a r hdr
    replace h := Option.bind_eq_some_iff.mp h
    obtain ⟨⟨cn, vs⟩, h0, h⟩ := h
    dsimp only at h
    split at h
    · rename_i hq
      replace h := Option.bind_eq_some_iff.mp h
      obtain ⟨⟨v, H1⟩, h1, h⟩ := h
      cases h
      obtain ⟨rfl, hq⟩ := hq
      obtain ⟨C', fs', q1, q2, -⟩ := hR.2.2.2 _ _ (obj_some h0)
      cases hC.symm.trans q1
      obtain ⟨cB, kB, i1, i2, i3⟩ := isOf (T := T) hZ rfl q2
      have hst : S.map (cv σ) = (((S.take na).reverse).map (cv σ)).reverse ++ .ref (σ a) :: r.map (cv σ) := by rw [args_rev S na, hdr]; rfl
      obtain ⟨v', vm1, ⟨T', L', k', n'⟩, -, X', ⟨Lc, ⟨hv, hR', hN⟩, l1, y1, z1⟩, st⟩ := X.virtualBack hx (y := y) (z := z) hown (mvT hZ w1) (mvT hZ w2) (nf s #[] (mvT hZ w5)) (mvT hZ w5) (mvT hZ w6) hy (backOf (h := T.heap) (W := W) (Q := fun w h' L => w = v.map (cv σ) ∧ Rep Z σ x0 n0 K h' H1 ∧ Fr n0 L) (hF0 _ H _ T.heap h1 hR) hZ w4 w3 hfr hlo) i1 i3 (g := mkF m pc (cL σ L) (S.map (cv σ))) rfl (size_cL.trans hL) (Steps.refl _) (argsL := ((S.take na).reverse).map (cv σ)) (rest := r.map (cv σ)) (lenOf hd0 (by rw [hna]; simp; omega)) hst (by show 2 * 0 + _ ≤ _; rw [cat_sum]; omega) hd (fun _ _ => ⟨rfl, rfl, Nat.le_trans hq.2.2.1 hRc, Nat.le_trans hq.2.2.2 hRs⟩)
      dsimp only [Pt.U, Pt.locs, Pt.cells, Pt.slots] at X' l1 y1 z1 st hR'
      subst l1 y1 z1 hv
      refine ⟨T', _, X', hR', hF.app hN, ⟨Nat.le_trans hq.2.2.1 hRc, Nat.le_trans hq.2.2.2 hRs⟩, fun t q => st.trans ?_⟩
      show Steps p.tables e below (T'.setTop (mkF m (pc + 3) (cL σ L) ((v.map (cv σ)).toList ++ r.map (cv σ)))) t
      rw [toList_map]; exact q
    · cases h
  · cases h
theorem ag_nil : AllGood p l e R s m args below meth c Z σ x0 n0 K [] := trivial
theorem ag_cons {q i : Nat} {act : Act} {E : List (Nat × Nat × Act)} (h : Good p l e R s m args below meth c Z σ x0 n0 K (insOf q i) act) (t : AllGood p l e R s m args below meth c Z σ x0 n0 K E) : AllGood p l e R s m args below meth c Z σ x0 n0 K ((q, i, act) :: E) := ⟨h, t⟩
end Acts
theorem names_inj {fs : List (String × String × String)} (h : (fs.map fun f => f.2.1).Nodup) : ∀ (i j : Nat) (f g : String × String × String), fs[i]? = some f → fs[j]? = some g → f.2.1 = g.2.1 → i = j := by
  intro i j f g hf hg e
  refine (List.getElem?_inj (l := fs.map fun f => f.2.1) (by simpa using (List.getElem?_eq_some_iff.mp hf).1) h).mp ?_
  simp [hf, hg, e]
theorem sg_start {n : Nat} : Sg (fun k => n + k) 0 n := ⟨fun k _ => rfl, fun i h => absurd h (Nat.not_lt_zero _), fun i j h => absurd h (Nat.not_lt_zero _)⟩
theorem rep_start {s : State} {σ : Nat → Nat} {K : List CD} : Rep s σ 0 s.heap.size K s.heap [] := ⟨rfl, Nat.le_refl _, Old.start s, fun k o h => by cases h⟩
end Jvm.Own
namespace Jvm.Own
open Sem ClassFile Op Lib Jvm.RoadKit
/-! ## 6. Rows for evaluating a orun -/
section Ev
variable {x y : Int32} {pc : Nat} {o : Int} {f : Nat → Option ORes} {P : Prop} [Decidable P]
theorem h_eq : if_icmp.holds .eq x y = decide (x = y) := by by_cases h : x = y <;> simp [if_icmp.holds, h]
theorem h_ne : if_icmp.holds .ne x y = !decide (x = y) := by by_cases h : x = y <;> simp [if_icmp.holds, h]
theorem h_lt : if_icmp.holds .lt x y = decide (x < y) := rfl
theorem h_ge : if_icmp.holds .ge x y = !decide (x < y) := by
  by_cases h : x < y
  · simp [if_icmp.holds, h, Int32.not_le.mpr h]
  · simp [if_icmp.holds, h, Int32.not_lt.mp h]
theorem h_gt : if_icmp.holds .gt x y = decide (y < x) := rfl
theorem h_le : if_icmp.holds .le x y = !decide (y < x) := by
  by_cases h : y < x
  · simp [if_icmp.holds, h, Int32.not_le.mpr h]
  · simp [if_icmp.holds, h, Int32.not_lt.mp h]
theorem z_eq : ifCond.holds .eq x = decide (x = 0) := h_eq (y := 0)
theorem z_ne : ifCond.holds .ne x = !decide (x = 0) := h_ne (y := 0)
theorem z_lt : ifCond.holds .lt x = decide (x < 0) := rfl
theorem z_ge : ifCond.holds .ge x = !decide (x < 0) := h_ge (y := 0)
theorem z_gt : ifCond.holds .gt x = decide (0 < x) := rfl
theorem z_le : ifCond.holds .le x = !decide (0 < x) := h_le (y := 0)
theorem br_d : br (decide P) pc o f = if 0 ≤ (pc : Int) + o then (if P then f ((pc : Int) + o).toNat else f (pc + 3)) else none := by unfold br; by_cases h : P <;> simp [h]
theorem br_n : br (!decide P) pc o f = if 0 ≤ (pc : Int) + o then (if P then f (pc + 3) else f ((pc : Int) + o).toNat) else none := by unfold br; by_cases h : P <;> simp [h]
theorem br_t : br true pc o f = if 0 ≤ (pc : Int) + o then f ((pc : Int) + o).toNat else none := rfl
theorem br_f : br false pc o f = if 0 ≤ (pc : Int) + o then f (pc + 3) else none := rfl
theorem b_1 : ((if P then (1 : Int32) else 0) = 1) = P := by by_cases h : P <;> simp [h]
theorem b_0 : ((if P then (1 : Int32) else 0) = 0) = ¬ P := by by_cases h : P <;> simp [h]
theorem b_1r : ((1 : Int32) = (if P then (1 : Int32) else 0)) = P := by by_cases h : P <;> simp [h]
theorem b_0r : ((0 : Int32) = (if P then (1 : Int32) else 0)) = ¬ P := by by_cases h : P <;> simp [h]
theorem b_bb {Q : Prop} [Decidable Q] : ((if P then (1 : Int32) else 0) = (if Q then (1 : Int32) else 0)) = (P ↔ Q) := by by_cases h : P <;> by_cases h' : Q <;> simp [h, h']
theorem b_and : (if P then (1 : Int32) else 0) &&& 1 = if P then 1 else 0 := by by_cases h : P <;> simp [h]
theorem i_10 : ((1 : Int32) = 0) = False := by simp
theorem i_01 : ((0 : Int32) = 1) = False := by simp
theorem nr_i {x : Int32} : narrow .int (.int x) = .int x := rfl
theorem nr_j {x : Int64} : narrow .long (.long x) = .long x := rfl
theorem nr_a {t : FieldType} {v : Value} : narrow (.array t) v = v := by cases v <;> rfl
theorem nr_o {t : String} {v : Value} : narrow (.object t) v = v := by cases v <;> rfl
theorem nr_b : narrow .boolean (.int (if P then (1 : Int32) else 0)) = .int (if P then (1 : Int32) else 0) := by by_cases h : P <;> simp [h] <;> rfl
theorem nr_b1 : narrow .boolean (.int 1) = .int 1 := rfl
theorem nr_b0 : narrow .boolean (.int 0) = .int 0 := rfl
theorem ft_i {x : Int32} : fits .int (.int x) = true := rfl
theorem ft_j {x : Int64} : fits .long (.long x) = true := rfl
theorem ft_a {t : FieldType} {a : Nat} : fits (.array t) (.ref a) = true := rfl
theorem ft_o {t : String} {a : Nat} : fits (.object t) (.ref a) = true := rfl
theorem ft_b : fits .boolean (.int (if P then (1 : Int32) else 0)) = true := by by_cases h : P <;> simp [h] <;> rfl
theorem ft_b1 : fits .boolean (.int 1) = true := rfl
theorem ft_b0 : fits .boolean (.int 0) = true := rfl
theorem rV_nil {H : AH} : rV none [] H = some (none, H) := rfl
theorem cat_int {x : Int32} : Value.category (.int x) = 1 := rfl
theorem cat_long {x : Int64} : Value.category (.long x) = 2 := rfl
theorem cat_ref {a : Nat} : Value.category (.ref a) = 1 := rfl
theorem cat_null : Value.category .null = 1 := rfl
theorem and11 : (1 : Int32) &&& 1 = 1 := rfl
theorem and01 : (0 : Int32) &&& 1 = 0 := rfl
theorem pI_int {x : Int32} {r : List Value} {f : Int32 → List Value → Option ORes} : pI (.int x :: r) f = f x r := rfl
theorem pD_double {x : UInt64} {r : List Value} {f : UInt64 → List Value → Option ORes} : pD (.double x :: r) f = f x r := rfl
theorem cat_double {x : UInt64} : Value.category (.double x) = 2 := rfl
theorem pL_long {x : Int64} {r : List Value} {f : Int64 → List Value → Option ORes} : pL (.long x :: r) f = f x r := rfl
theorem pA_ref {a : Nat} {r : List Value} {f : Value → List Value → Option ORes} : pA (.ref a :: r) f = f (.ref a) r := rfl
theorem pA_null {r : List Value} {f : Value → List Value → Option ORes} : pA (.null :: r) f = f .null r := rfl
theorem pR_ref {a : Nat} {r : List Value} {f : Nat → List Value → Option ORes} : pR (.ref a :: r) f = f a r := rfl
theorem p1_int {x : Int32} {r : List Value} {f : Value → List Value → Option ORes} : p1 (.int x :: r) f = f (.int x) r := rfl
theorem p1_ref {a : Nat} {r : List Value} {f : Value → List Value → Option ORes} : p1 (.ref a :: r) f = f (.ref a) r := rfl
theorem p1_null {r : List Value} {f : Value → List Value → Option ORes} : p1 (.null :: r) f = f .null r := rfl
variable {code : ByteArray} {rt : Option FieldType} {E : List (Nat × Nat × Act)} {x0 n q cs ss : Nat} {L : List Slot} {S : List Value} {H : AH}
theorem s_icmp {cd : ClassFile.Cond} {Q : Int32 → Int32 → Prop} [∀ x y, Decidable (Q x y)] (hP : ∀ x y, if_icmp.holds cd x y = decide (Q x y)) (h : dec code pc = some (.if_icmp cd o)) (ho : 0 ≤ (pc : Int) + o) (hq : ((pc : Int) + o).toNat = q) :
    orun code rt E x0 (n + 1) (pc, L, S, H, cs, ss) = pI S fun y S => pI S fun x r => if Q x y then orun code rt E x0 n (q, L, r, H, cs, ss) else orun code rt E x0 n (pc + 3, L, r, H, cs, ss) := by
  subst hq; rw [orun_succ, h]
  refine congrArg (pI S) (funext fun y => funext fun S' => congrArg (pI S') (funext fun x => funext fun r => ?_))
  rw [hP, br_d, if_pos ho]
theorem s_icmpN {cd : ClassFile.Cond} {Q : Int32 → Int32 → Prop} [∀ x y, Decidable (Q x y)] (hP : ∀ x y, if_icmp.holds cd x y = !decide (Q x y)) (h : dec code pc = some (.if_icmp cd o)) (ho : 0 ≤ (pc : Int) + o) (hq : ((pc : Int) + o).toNat = q) :
    orun code rt E x0 (n + 1) (pc, L, S, H, cs, ss) = pI S fun y S => pI S fun x r => if Q x y then orun code rt E x0 n (pc + 3, L, r, H, cs, ss) else orun code rt E x0 n (q, L, r, H, cs, ss) := by
  subst hq; rw [orun_succ, h]
  refine congrArg (pI S) (funext fun y => funext fun S' => congrArg (pI S') (funext fun x => funext fun r => ?_))
  rw [hP, br_n, if_pos ho]
theorem s_if {cd : ClassFile.Cond} {Q : Int32 → Prop} [∀ x, Decidable (Q x)] (hP : ∀ x, ifCond.holds cd x = decide (Q x)) (h : dec code pc = some (.ifCond cd o)) (ho : 0 ≤ (pc : Int) + o) (hq : ((pc : Int) + o).toNat = q) :
    orun code rt E x0 (n + 1) (pc, L, S, H, cs, ss) = pI S fun x r => if Q x then orun code rt E x0 n (q, L, r, H, cs, ss) else orun code rt E x0 n (pc + 3, L, r, H, cs, ss) := by
  subst hq; rw [orun_succ, h]
  refine congrArg (pI S) (funext fun x => funext fun r => ?_)
  rw [hP, br_d, if_pos ho]
theorem s_ifN {cd : ClassFile.Cond} {Q : Int32 → Prop} [∀ x, Decidable (Q x)] (hP : ∀ x, ifCond.holds cd x = !decide (Q x)) (h : dec code pc = some (.ifCond cd o)) (ho : 0 ≤ (pc : Int) + o) (hq : ((pc : Int) + o).toNat = q) :
    orun code rt E x0 (n + 1) (pc, L, S, H, cs, ss) = pI S fun x r => if Q x then orun code rt E x0 n (pc + 3, L, r, H, cs, ss) else orun code rt E x0 n (q, L, r, H, cs, ss) := by
  subst hq; rw [orun_succ, h]
  refine congrArg (pI S) (funext fun x => funext fun r => ?_)
  rw [hP, br_n, if_pos ho]
theorem s_goto (h : dec code pc = some (.goto o)) (ho : 0 ≤ (pc : Int) + o) (hq : ((pc : Int) + o).toNat = q) : orun code rt E x0 (n + 1) (pc, L, S, H, cs, ss) = orun code rt E x0 n (q, L, S, H, cs, ss) := by
  subst hq; rw [orun_succ, h]; exact if_pos ho
theorem s_any {i : Instr} (h : dec code pc = some i) : orun code rt E x0 (n + 1) (pc, L, S, H, cs, ss) = ex rt E x0 (orun code rt E x0 n) i pc L S H cs ss := by rw [orun_succ, h]; rfl
end Ev
theorem ex_ishl {rt : Option FieldType} {E : List (Nat × Nat × Act)} {x0 pc cs ss : Nat} {k : St → Option ORes} {L : List Slot} {S : List Value} {H : AH}  : ex rt E x0 k (.ishl) pc L S H cs ss = pI S fun y S => pI S fun x r => k (pc + 1, L, .int (x <<< (y &&& 31)) :: r, H, cs, ss) := rfl
theorem ex_ishr {rt : Option FieldType} {E : List (Nat × Nat × Act)} {x0 pc cs ss : Nat} {k : St → Option ORes} {L : List Slot} {S : List Value} {H : AH}  : ex rt E x0 k (.ishr) pc L S H cs ss = pI S fun y S => pI S fun x r => k (pc + 1, L, .int (x >>> (y &&& 31)) :: r, H, cs, ss) := rfl
theorem ex_iushr {rt : Option FieldType} {E : List (Nat × Nat × Act)} {x0 pc cs ss : Nat} {k : St → Option ORes} {L : List Slot} {S : List Value} {H : AH}  : ex rt E x0 k (.iushr) pc L S H cs ss = pI S fun y S => pI S fun x r => k (pc + 1, L, .int ((x.toUInt32 >>> (y &&& 31).toUInt32).toInt32) :: r, H, cs, ss) := rfl
theorem ex_idiv {rt : Option FieldType} {E : List (Nat × Nat × Act)} {x0 pc cs ss : Nat} {k : St → Option ORes} {L : List Slot} {S : List Value} {H : AH}  : ex rt E x0 k (.idiv) pc L S H cs ss = pI S fun y S => pI S fun x r => if y = 0 then none else k (pc + 1, L, .int (x / y) :: r, H, cs, ss) := rfl
theorem ex_irem {rt : Option FieldType} {E : List (Nat × Nat × Act)} {x0 pc cs ss : Nat} {k : St → Option ORes} {L : List Slot} {S : List Value} {H : AH}  : ex rt E x0 k (.irem) pc L S H cs ss = pI S fun y S => pI S fun x r => if y = 0 then none else k (pc + 1, L, .int (x % y) :: r, H, cs, ss) := rfl
theorem ex_ineg {rt : Option FieldType} {E : List (Nat × Nat × Act)} {x0 pc cs ss : Nat} {k : St → Option ORes} {L : List Slot} {S : List Value} {H : AH}  : ex rt E x0 k (.ineg) pc L S H cs ss = pI S fun x r => k (pc + 1, L, .int (-x) :: r, H, cs, ss) := rfl
theorem ex_i2b {rt : Option FieldType} {E : List (Nat × Nat × Act)} {x0 pc cs ss : Nat} {k : St → Option ORes} {L : List Slot} {S : List Value} {H : AH}  : ex rt E x0 k (.i2b) pc L S H cs ss = pI S fun x r => k (pc + 1, L, .int x.toInt8.toInt32 :: r, H, cs, ss) := rfl
theorem ex_i2c {rt : Option FieldType} {E : List (Nat × Nat × Act)} {x0 pc cs ss : Nat} {k : St → Option ORes} {L : List Slot} {S : List Value} {H : AH}  : ex rt E x0 k (.i2c) pc L S H cs ss = pI S fun x r => k (pc + 1, L, .int x.toUInt32.toUInt16.toUInt32.toInt32 :: r, H, cs, ss) := rfl
theorem ex_i2s {rt : Option FieldType} {E : List (Nat × Nat × Act)} {x0 pc cs ss : Nat} {k : St → Option ORes} {L : List Slot} {S : List Value} {H : AH}  : ex rt E x0 k (.i2s) pc L S H cs ss = pI S fun x r => k (pc + 1, L, .int x.toInt16.toInt32 :: r, H, cs, ss) := rfl
theorem ex_i2l {rt : Option FieldType} {E : List (Nat × Nat × Act)} {x0 pc cs ss : Nat} {k : St → Option ORes} {L : List Slot} {S : List Value} {H : AH}  : ex rt E x0 k (.i2l) pc L S H cs ss = pI S fun x r => k (pc + 1, L, .long x.toInt64 :: r, H, cs, ss) := rfl
theorem ex_l2i {rt : Option FieldType} {E : List (Nat × Nat × Act)} {x0 pc cs ss : Nat} {k : St → Option ORes} {L : List Slot} {S : List Value} {H : AH}  : ex rt E x0 k (.l2i) pc L S H cs ss = pL S fun x r => k (pc + 1, L, .int x.toInt32 :: r, H, cs, ss) := rfl
theorem ex_lneg {rt : Option FieldType} {E : List (Nat × Nat × Act)} {x0 pc cs ss : Nat} {k : St → Option ORes} {L : List Slot} {S : List Value} {H : AH}  : ex rt E x0 k (.lneg) pc L S H cs ss = pL S fun x r => k (pc + 1, L, .long (-x) :: r, H, cs, ss) := rfl
theorem ex_lshl {rt : Option FieldType} {E : List (Nat × Nat × Act)} {x0 pc cs ss : Nat} {k : St → Option ORes} {L : List Slot} {S : List Value} {H : AH}  : ex rt E x0 k (.lshl) pc L S H cs ss = pI S fun y S => pL S fun x r => k (pc + 1, L, .long (x <<< (y &&& 0x3f).toInt64) :: r, H, cs, ss) := rfl
theorem ex_lshr {rt : Option FieldType} {E : List (Nat × Nat × Act)} {x0 pc cs ss : Nat} {k : St → Option ORes} {L : List Slot} {S : List Value} {H : AH}  : ex rt E x0 k (.lshr) pc L S H cs ss = pI S fun y S => pL S fun x r => k (pc + 1, L, .long (x >>> (y &&& 0x3f).toInt64) :: r, H, cs, ss) := rfl
theorem ex_lushr {rt : Option FieldType} {E : List (Nat × Nat × Act)} {x0 pc cs ss : Nat} {k : St → Option ORes} {L : List Slot} {S : List Value} {H : AH}  : ex rt E x0 k (.lushr) pc L S H cs ss = pI S fun y S => pL S fun x r => k (pc + 1, L, .long ((x.toUInt64 >>> (y &&& 0x3f).toInt64.toUInt64).toInt64) :: r, H, cs, ss) := rfl
theorem ex_ldiv {rt : Option FieldType} {E : List (Nat × Nat × Act)} {x0 pc cs ss : Nat} {k : St → Option ORes} {L : List Slot} {S : List Value} {H : AH}  : ex rt E x0 k (.ldiv) pc L S H cs ss = pL S fun y S => pL S fun x r => if y = 0 then none else k (pc + 1, L, .long (x / y) :: r, H, cs, ss) := rfl
theorem ex_lrem {rt : Option FieldType} {E : List (Nat × Nat × Act)} {x0 pc cs ss : Nat} {k : St → Option ORes} {L : List Slot} {S : List Value} {H : AH}  : ex rt E x0 k (.lrem) pc L S H cs ss = pL S fun y S => pL S fun x r => if y = 0 then none else k (pc + 1, L, .long (x % y) :: r, H, cs, ss) := rfl
theorem ex_lcmp {rt : Option FieldType} {E : List (Nat × Nat × Act)} {x0 pc cs ss : Nat} {k : St → Option ORes} {L : List Slot} {S : List Value} {H : AH}  : ex rt E x0 k (.lcmp) pc L S H cs ss = pL S fun y S => pL S fun x r => k (pc + 1, L, .int (lcmpW x y) :: r, H, cs, ss) := rfl
theorem ex_dup {rt : Option FieldType} {E : List (Nat × Nat × Act)} {x0 pc cs ss : Nat} {k : St → Option ORes} {L : List Slot} {S : List Value} {H : AH}  : ex rt E x0 k (.dup) pc L S H cs ss = p1 S fun v r => k (pc + 1, L, v :: v :: r, H, cs, ss) := rfl
theorem ex_pop {rt : Option FieldType} {E : List (Nat × Nat × Act)} {x0 pc cs ss : Nat} {k : St → Option ORes} {L : List Slot} {S : List Value} {H : AH}  : ex rt E x0 k (.pop) pc L S H cs ss = p1 S fun _ r => k (pc + 1, L, r, H, cs, ss) := rfl
theorem ex_dup_x1 {rt : Option FieldType} {E : List (Nat × Nat × Act)} {x0 pc cs ss : Nat} {k : St → Option ORes} {L : List Slot} {S : List Value} {H : AH}  : ex rt E x0 k (.dup_x1) pc L S H cs ss = p1 S fun x S => p1 S fun y r => k (pc + 1, L, x :: y :: x :: r, H, cs, ss) := rfl
theorem ex_dup2 {rt : Option FieldType} {E : List (Nat × Nat × Act)} {x0 pc cs ss : Nat} {k : St → Option ORes} {L : List Slot} {S : List Value} {H : AH}  : ex rt E x0 k (.dup2) pc L S H cs ss = p1 S fun x S => p1 S fun y r => k (pc + 1, L, x :: y :: x :: y :: r, H, cs, ss) := rfl
theorem ex_ifnull {rt : Option FieldType} {E : List (Nat × Nat × Act)} {x0 pc cs ss : Nat} {k : St → Option ORes} {L : List Slot} {S : List Value} {H : AH} {o : Int} : ex rt E x0 k (.ifnull o) pc L S H cs ss = pA S fun v r => br (refEq v .null) pc o fun q => k (q, L, r, H, cs, ss) := rfl
theorem ex_ifnonnull {rt : Option FieldType} {E : List (Nat × Nat × Act)} {x0 pc cs ss : Nat} {k : St → Option ORes} {L : List Slot} {S : List Value} {H : AH} {o : Int} : ex rt E x0 k (.ifnonnull o) pc L S H cs ss = pA S fun v r => br (!refEq v .null) pc o fun q => k (q, L, r, H, cs, ss) := rfl
theorem ex_if_acmp {rt : Option FieldType} {E : List (Nat × Nat × Act)} {x0 pc cs ss : Nat} {k : St → Option ORes} {L : List Slot} {S : List Value} {H : AH} {cd : ACond} {o : Int} : ex rt E x0 k (.if_acmp cd o) pc L S H cs ss = pA S fun y S => pA S fun x r => br (acV cd (refEq x y)) pc o fun q => k (q, L, r, H, cs, ss) := rfl
theorem ex_arraylength {rt : Option FieldType} {E : List (Nat × Nat × Act)} {x0 pc cs ss : Nat} {k : St → Option ORes} {L : List Slot} {S : List Value} {H : AH}  : ex rt E x0 k (.arraylength) pc L S H cs ss = pR S fun a r => (arr H a).bind fun q => k (pc + 1, L, .int q.2.length.toInt32 :: r, H, cs, ss) := rfl
theorem ex_iaload {rt : Option FieldType} {E : List (Nat × Nat × Act)} {x0 pc cs ss : Nat} {k : St → Option ORes} {L : List Slot} {S : List Value} {H : AH}  : ex rt E x0 k (.iaload) pc L S H cs ss = ald (isT .int) S H fun v r => k (pc + 1, L, v :: r, H, cs, ss) := rfl
theorem ex_baload {rt : Option FieldType} {E : List (Nat × Nat × Act)} {x0 pc cs ss : Nat} {k : St → Option ORes} {L : List Slot} {S : List Value} {H : AH}  : ex rt E x0 k (.baload) pc L S H cs ss = ald isBZ S H fun v r => k (pc + 1, L, v :: r, H, cs, ss) := rfl
theorem ex_caload {rt : Option FieldType} {E : List (Nat × Nat × Act)} {x0 pc cs ss : Nat} {k : St → Option ORes} {L : List Slot} {S : List Value} {H : AH}  : ex rt E x0 k (.caload) pc L S H cs ss = ald (isT .char) S H fun v r => k (pc + 1, L, v :: r, H, cs, ss) := rfl
theorem ex_laload {rt : Option FieldType} {E : List (Nat × Nat × Act)} {x0 pc cs ss : Nat} {k : St → Option ORes} {L : List Slot} {S : List Value} {H : AH}  : ex rt E x0 k (.laload) pc L S H cs ss = ald (isT .long) S H fun v r => k (pc + 1, L, v :: r, H, cs, ss) := rfl
theorem ex_aaload {rt : Option FieldType} {E : List (Nat × Nat × Act)} {x0 pc cs ss : Nat} {k : St → Option ORes} {L : List Slot} {S : List Value} {H : AH}  : ex rt E x0 k (.aaload) pc L S H cs ss = ald FieldType.isReference S H fun v r => k (pc + 1, L, v :: r, H, cs, ss) := rfl
theorem ex_iastore {rt : Option FieldType} {E : List (Nat × Nat × Act)} {x0 pc cs ss : Nat} {k : St → Option ORes} {L : List Slot} {S : List Value} {H : AH}  : ex rt E x0 k (.iastore) pc L S H cs ss = ast (isT .int) x0 S H fun r H' => k (pc + 1, L, r, H', cs, ss) := rfl
theorem ex_bastore {rt : Option FieldType} {E : List (Nat × Nat × Act)} {x0 pc cs ss : Nat} {k : St → Option ORes} {L : List Slot} {S : List Value} {H : AH}  : ex rt E x0 k (.bastore) pc L S H cs ss = ast (isT .byte) x0 S H fun r H' => k (pc + 1, L, r, H', cs, ss) := rfl
theorem ex_castore {rt : Option FieldType} {E : List (Nat × Nat × Act)} {x0 pc cs ss : Nat} {k : St → Option ORes} {L : List Slot} {S : List Value} {H : AH}  : ex rt E x0 k (.castore) pc L S H cs ss = ast (isT .char) x0 S H fun r H' => k (pc + 1, L, r, H', cs, ss) := rfl
theorem ex_lastore {rt : Option FieldType} {E : List (Nat × Nat × Act)} {x0 pc cs ss : Nat} {k : St → Option ORes} {L : List Slot} {S : List Value} {H : AH}  : ex rt E x0 k (.lastore) pc L S H cs ss = astL x0 S H fun r H' => k (pc + 1, L, r, H', cs, ss) := rfl
theorem ex_ldc {rt : Option FieldType} {E : List (Nat × Nat × Act)} {x0 pc cs ss : Nat} {k : St → Option ORes} {L : List Slot} {S : List Value} {H : AH} {i : Nat} : ex rt E x0 k (.ldc i) pc L S H cs ss = spc E 0 i S H cs ss fun S' H' cs' ss' => k (pc + 2, L, S', H', cs', ss') := rfl
theorem ex_ldc_w {rt : Option FieldType} {E : List (Nat × Nat × Act)} {x0 pc cs ss : Nat} {k : St → Option ORes} {L : List Slot} {S : List Value} {H : AH} {i : Nat} : ex rt E x0 k (.ldc_w i) pc L S H cs ss = spc E 1 i S H cs ss fun S' H' cs' ss' => k (pc + 3, L, S', H', cs', ss') := rfl
theorem ex_ldc2_w {rt : Option FieldType} {E : List (Nat × Nat × Act)} {x0 pc cs ss : Nat} {k : St → Option ORes} {L : List Slot} {S : List Value} {H : AH} {i : Nat} : ex rt E x0 k (.ldc2_w i) pc L S H cs ss = spc E 2 i S H cs ss fun S' H' cs' ss' => k (pc + 3, L, S', H', cs', ss') := rfl
theorem ex_getfield {rt : Option FieldType} {E : List (Nat × Nat × Act)} {x0 pc cs ss : Nat} {k : St → Option ORes} {L : List Slot} {S : List Value} {H : AH} {i : Nat} : ex rt E x0 k (.getfield i) pc L S H cs ss = spc E 3 i S H cs ss fun S' H' cs' ss' => k (pc + 3, L, S', H', cs', ss') := rfl
theorem ex_putfield {rt : Option FieldType} {E : List (Nat × Nat × Act)} {x0 pc cs ss : Nat} {k : St → Option ORes} {L : List Slot} {S : List Value} {H : AH} {i : Nat} : ex rt E x0 k (.putfield i) pc L S H cs ss = spc E 4 i S H cs ss fun S' H' cs' ss' => k (pc + 3, L, S', H', cs', ss') := rfl
theorem ex_getstatic {rt : Option FieldType} {E : List (Nat × Nat × Act)} {x0 pc cs ss : Nat} {k : St → Option ORes} {L : List Slot} {S : List Value} {H : AH} {i : Nat} : ex rt E x0 k (.getstatic i) pc L S H cs ss = spc E 5 i S H cs ss fun S' H' cs' ss' => k (pc + 3, L, S', H', cs', ss') := rfl
theorem ex_new {rt : Option FieldType} {E : List (Nat × Nat × Act)} {x0 pc cs ss : Nat} {k : St → Option ORes} {L : List Slot} {S : List Value} {H : AH} {i : Nat} : ex rt E x0 k (.new i) pc L S H cs ss = spc E 6 i S H cs ss fun S' H' cs' ss' => k (pc + 3, L, S', H', cs', ss') := rfl
theorem ex_invokestatic {rt : Option FieldType} {E : List (Nat × Nat × Act)} {x0 pc cs ss : Nat} {k : St → Option ORes} {L : List Slot} {S : List Value} {H : AH} {i : Nat} : ex rt E x0 k (.invokestatic i) pc L S H cs ss = spc E 7 i S H cs ss fun S' H' cs' ss' => k (pc + 3, L, S', H', cs', ss') := rfl
theorem ex_invokespecial {rt : Option FieldType} {E : List (Nat × Nat × Act)} {x0 pc cs ss : Nat} {k : St → Option ORes} {L : List Slot} {S : List Value} {H : AH} {i : Nat} : ex rt E x0 k (.invokespecial i) pc L S H cs ss = spc E 8 i S H cs ss fun S' H' cs' ss' => k (pc + 3, L, S', H', cs', ss') := rfl
theorem ex_invokevirtual {rt : Option FieldType} {E : List (Nat × Nat × Act)} {x0 pc cs ss : Nat} {k : St → Option ORes} {L : List Slot} {S : List Value} {H : AH} {i : Nat} : ex rt E x0 k (.invokevirtual i) pc L S H cs ss = spc E 9 i S H cs ss fun S' H' cs' ss' => k (pc + 3, L, S', H', cs', ss') := rfl
theorem ex_checkcast {rt : Option FieldType} {E : List (Nat × Nat × Act)} {x0 pc cs ss : Nat} {k : St → Option ORes} {L : List Slot} {S : List Value} {H : AH} {i : Nat} : ex rt E x0 k (.checkcast i) pc L S H cs ss = spc E 10 i S H cs ss fun S' H' cs' ss' => k (pc + 3, L, S', H', cs', ss') := rfl
theorem ex_instanceof {rt : Option FieldType} {E : List (Nat × Nat × Act)} {x0 pc cs ss : Nat} {k : St → Option ORes} {L : List Slot} {S : List Value} {H : AH} {i : Nat} : ex rt E x0 k (.instanceof i) pc L S H cs ss = spc E 11 i S H cs ss fun S' H' cs' ss' => k (pc + 3, L, S', H', cs', ss') := rfl
theorem ex_anewarray {rt : Option FieldType} {E : List (Nat × Nat × Act)} {x0 pc cs ss : Nat} {k : St → Option ORes} {L : List Slot} {S : List Value} {H : AH} {i : Nat} : ex rt E x0 k (.anewarray i) pc L S H cs ss = spc E 12 i S H cs ss fun S' H' cs' ss' => k (pc + 3, L, S', H', cs', ss') := rfl
theorem ex_newarray {rt : Option FieldType} {E : List (Nat × Nat × Act)} {x0 pc cs ss : Nat} {k : St → Option ORes} {L : List Slot} {S : List Value} {H : AH} {t : ArrayType} : ex rt E x0 k (.newarray t) pc L S H cs ss = spc E 13 (atn t) S H cs ss fun S' H' cs' ss' => k (pc + 2, L, S', H', cs', ss') := rfl
theorem ex_ireturn {rt : Option FieldType} {E : List (Nat × Nat × Act)} {x0 pc cs ss : Nat} {k : St → Option ORes} {L : List Slot} {S : List Value} {H : AH}  : ex rt E x0 k (.ireturn) pc L S H cs ss = rI rt S H := rfl
theorem ex_lreturn {rt : Option FieldType} {E : List (Nat × Nat × Act)} {x0 pc cs ss : Nat} {k : St → Option ORes} {L : List Slot} {S : List Value} {H : AH}  : ex rt E x0 k (.lreturn) pc L S H cs ss = rL rt S H := rfl
theorem ex_areturn {rt : Option FieldType} {E : List (Nat × Nat × Act)} {x0 pc cs ss : Nat} {k : St → Option ORes} {L : List Slot} {S : List Value} {H : AH}  : ex rt E x0 k (.areturn) pc L S H cs ss = rA rt S H := rfl
theorem ex_return {rt : Option FieldType} {E : List (Nat × Nat × Act)} {x0 pc cs ss : Nat} {k : St → Option ORes} {L : List Slot} {S : List Value} {H : AH}  : ex rt E x0 k (.return_) pc L S H cs ss = rV rt S H := rfl
end Jvm.Own
namespace Jvm.Own
open Sem ClassFile Op Lib Jvm.RoadKit
/-! ## 7. Walking: one row a step, the answer's property kept apart -/
def Rsq (r : Option ORes) (q : Option ORes → Prop) : Prop := q r
theorem res_of {a b : Option ORes} {q : Option ORes → Prop} (e : a = b) (h : Rsq b q) : Rsq a q := by subst e; exact h
theorem res_t {P : Prop} [Decidable P] {A B : Option ORes} {q : Option ORes → Prop} (hc : P) (h : Rsq A q) : Rsq (if P then A else B) q := by rw [if_pos hc]; exact h
theorem res_f {P : Prop} [Decidable P] {A B : Option ORes} {q : Option ORes → Prop} (hc : ¬ P) (h : Rsq B q) : Rsq (if P then A else B) q := by rw [if_neg hc]; exact h
def OneI (r : Option ORes) : Prop := ∃ H', r = some (some (.int 1), H')
def Is (v : Option ORes) (r : Option ORes) : Prop := r = v
section Ofs
variable {code : ByteArray} {rt : Option FieldType} {E : List (Nat × Nat × Act)} {x0 N : Nat} {st : St} {a v : Option ORes} {q : Option ORes → Prop}
theorem rsq_of (e : a = orun code rt E x0 N st) (h : ∀ go, go = orun code rt E x0 → Rsq (go N st) q) : q a := by subst e; exact h _ rfl
theorem one_of (e : a = orun code rt E x0 N st) (h : ∀ go, go = orun code rt E x0 → Rsq (go N st) OneI) : ∃ H', a = some (some (.int 1), H') := by subst e; exact h _ rfl
theorem is_of (e : a = orun code rt E x0 N st) (h : ∀ go, go = orun code rt E x0 → Rsq (go N st) (Is v)) : a = v := by subst e; exact h _ rfl
end Ofs
theorem one_1 {H : AH} : OneI (some (some (.int 1), H)) := ⟨H, rfl⟩
theorem one_b {H : AH} : OneI (some (some (.int (1 &&& 1)), H)) := ⟨H, by rw [and11]⟩
theorem is_i {z w : Int32} {H H' : AH} (e : z = w) (e' : H = H') : Is (some (some (.int w), H')) (some (some (.int z), H)) := by subst e; subst e'; rfl
theorem is_r {v : Option ORes} : Is v v := rfl
theorem is_1 {H : AH} : Is (some (some (.int 1), H)) (some (some (.int (1 &&& 1)), H)) := by unfold Is; rw [and11]
theorem is_0 {H : AH} : Is (some (some (.int 0), H)) (some (some (.int (0 &&& 1)), H)) := by unfold Is; rw [and01]
def so : Slot → Bool | .unset => true | .val (.int _) => true | .val (.ref _) => true | .val .null => true | _ => false
def so2 : Slot → Slot → Bool | .unset, .unset => true | .val (.long _), .second => true | _, _ => false
def isA : Value → Bool | .ref _ => true | .null => true | _ => false
def isS : Value → Bool | .int _ => true | .ref _ => true | .null => true | _ => false
theorem st1_so {L : List Slot} {k : Nat} {v : Value} {l : Slot} (hL : L[k]? = some l) (hk : so l = true) : st1 L k v = some (L.set k (.val v)) := by
  unfold st1; rw [hL]
  cases l with
  | unset => rfl
  | second => simp [so] at hk
  | val w => cases w <;> first | rfl | (simp [so] at hk)
theorem st2_so {L : List Slot} {k : Nat} {x : Int64} {l l' : Slot} (h1 : L[k]? = some l) (h2 : L[k + 1]? = some l') (hk : so2 l l' = true) : st2 L k x = some ((L.set k (.val (.long x))).set (k + 1) .second) := by
  unfold st2; rw [h1, h2]
  cases l with
  | unset => cases l' with
    | unset => rfl
    | second => simp [so2] at hk
    | val w => simp [so2] at hk
  | second => cases l' <;> simp [so2] at hk
  | val w => cases w <;> cases l' <;> first | rfl | (simp [so2] at hk)
def so2D : Slot → Slot → Bool | .unset, .unset => true | .val (.double _), .second => true | _, _ => false
theorem st2D_so {L : List Slot} {k : Nat} {x : UInt64} {l l' : Slot} (h1 : L[k]? = some l) (h2 : L[k + 1]? = some l') (hk : so2D l l' = true) : st2D L k x = some ((L.set k (.val (.double x))).set (k + 1) .second) := by
  unfold st2D; rw [h1, h2]
  cases l with
  | unset => cases l' with
    | unset => rfl
    | second => simp [so2D] at hk
    | val w => simp [so2D] at hk
  | second => cases l' <;> simp [so2D] at hk
  | val w => cases w <;> cases l' <;> first | rfl | (simp [so2D] at hk)
theorem gA_isA {L : List Slot} {k : Nat} {v : Value} (hL : L[k]? = some (.val v)) (hv : isA v = true) : gA L k = some v := by
  unfold gA; rw [hL]; cases v <;> first | rfl | (simp [isA] at hv)
theorem pA_isA {v : Value} {r : List Value} {f : Value → List Value → Option ORes} (hv : isA v = true) : pA (v :: r) f = f v r := by
  cases v <;> first | rfl | (simp [isA] at hv)
theorem p1_isS {v : Value} {r : List Value} {f : Value → List Value → Option ORes} (hv : isS v = true) : p1 (v :: r) f = f v r := by
  cases v <;> first | rfl | (simp [isS] at hv)
def ln (l : List Value) : Int32 := l.length.toInt32
theorem ln_of {l : List Value} {n : Nat} {z : Int32} (h : l.length = n) (h' : n.toInt32 = z) : ln l = z := by unfold ln; rw [h, h']
theorem ln0 : ln [] = 0 := rfl
theorem ln1 {a0 : Value} : ln [a0] = 1 := rfl
theorem ln2 {a0 a1 : Value} : ln [a0, a1] = 2 := rfl
theorem ln3 {a0 a1 a2 : Value} : ln [a0, a1, a2] = 3 := rfl
theorem ln4 {a0 a1 a2 a3 : Value} : ln [a0, a1, a2, a3] = 4 := rfl
theorem ln5 {a0 a1 a2 a3 a4 : Value} : ln [a0, a1, a2, a3, a4] = 5 := rfl
theorem ln6 {a0 a1 a2 a3 a4 a5 : Value} : ln [a0, a1, a2, a3, a4, a5] = 6 := rfl
theorem ln7 {a0 a1 a2 a3 a4 a5 a6 : Value} : ln [a0, a1, a2, a3, a4, a5, a6] = 7 := rfl
theorem ln8 {a0 a1 a2 a3 a4 a5 a6 a7 : Value} : ln [a0, a1, a2, a3, a4, a5, a6, a7] = 8 := rfl
theorem ln9 {a0 a1 a2 a3 a4 a5 a6 a7 a8 : Value} : ln [a0, a1, a2, a3, a4, a5, a6, a7, a8] = 9 := rfl
theorem ln10 {a0 a1 a2 a3 a4 a5 a6 a7 a8 a9 : Value} : ln [a0, a1, a2, a3, a4, a5, a6, a7, a8, a9] = 10 := rfl
theorem ln11 {a0 a1 a2 a3 a4 a5 a6 a7 a8 a9 a10 : Value} : ln [a0, a1, a2, a3, a4, a5, a6, a7, a8, a9, a10] = 11 := rfl
theorem ln12 {a0 a1 a2 a3 a4 a5 a6 a7 a8 a9 a10 a11 : Value} : ln [a0, a1, a2, a3, a4, a5, a6, a7, a8, a9, a10, a11] = 12 := rfl
theorem ln13 {a0 a1 a2 a3 a4 a5 a6 a7 a8 a9 a10 a11 a12 : Value} : ln [a0, a1, a2, a3, a4, a5, a6, a7, a8, a9, a10, a11, a12] = 13 := rfl
theorem ln14 {a0 a1 a2 a3 a4 a5 a6 a7 a8 a9 a10 a11 a12 a13 : Value} : ln [a0, a1, a2, a3, a4, a5, a6, a7, a8, a9, a10, a11, a12, a13] = 14 := rfl
theorem ln15 {a0 a1 a2 a3 a4 a5 a6 a7 a8 a9 a10 a11 a12 a13 a14 : Value} : ln [a0, a1, a2, a3, a4, a5, a6, a7, a8, a9, a10, a11, a12, a13, a14] = 15 := rfl
theorem ln16 {a0 a1 a2 a3 a4 a5 a6 a7 a8 a9 a10 a11 a12 a13 a14 a15 : Value} : ln [a0, a1, a2, a3, a4, a5, a6, a7, a8, a9, a10, a11, a12, a13, a14, a15] = 16 := rfl
theorem ln17 {a0 a1 a2 a3 a4 a5 a6 a7 a8 a9 a10 a11 a12 a13 a14 a15 a16 : Value} : ln [a0, a1, a2, a3, a4, a5, a6, a7, a8, a9, a10, a11, a12, a13, a14, a15, a16] = 17 := rfl
theorem ln18 {a0 a1 a2 a3 a4 a5 a6 a7 a8 a9 a10 a11 a12 a13 a14 a15 a16 a17 : Value} : ln [a0, a1, a2, a3, a4, a5, a6, a7, a8, a9, a10, a11, a12, a13, a14, a15, a16, a17] = 18 := rfl
theorem ln19 {a0 a1 a2 a3 a4 a5 a6 a7 a8 a9 a10 a11 a12 a13 a14 a15 a16 a17 a18 : Value} : ln [a0, a1, a2, a3, a4, a5, a6, a7, a8, a9, a10, a11, a12, a13, a14, a15, a16, a17, a18] = 19 := rfl
theorem ln20 {a0 a1 a2 a3 a4 a5 a6 a7 a8 a9 a10 a11 a12 a13 a14 a15 a16 a17 a18 a19 : Value} : ln [a0, a1, a2, a3, a4, a5, a6, a7, a8, a9, a10, a11, a12, a13, a14, a15, a16, a17, a18, a19] = 20 := rfl
theorem ln21 {a0 a1 a2 a3 a4 a5 a6 a7 a8 a9 a10 a11 a12 a13 a14 a15 a16 a17 a18 a19 a20 : Value} : ln [a0, a1, a2, a3, a4, a5, a6, a7, a8, a9, a10, a11, a12, a13, a14, a15, a16, a17, a18, a19, a20] = 21 := rfl
theorem ln22 {a0 a1 a2 a3 a4 a5 a6 a7 a8 a9 a10 a11 a12 a13 a14 a15 a16 a17 a18 a19 a20 a21 : Value} : ln [a0, a1, a2, a3, a4, a5, a6, a7, a8, a9, a10, a11, a12, a13, a14, a15, a16, a17, a18, a19, a20, a21] = 22 := rfl
theorem ln23 {a0 a1 a2 a3 a4 a5 a6 a7 a8 a9 a10 a11 a12 a13 a14 a15 a16 a17 a18 a19 a20 a21 a22 : Value} : ln [a0, a1, a2, a3, a4, a5, a6, a7, a8, a9, a10, a11, a12, a13, a14, a15, a16, a17, a18, a19, a20, a21, a22] = 23 := rfl
theorem ln24 {a0 a1 a2 a3 a4 a5 a6 a7 a8 a9 a10 a11 a12 a13 a14 a15 a16 a17 a18 a19 a20 a21 a22 a23 : Value} : ln [a0, a1, a2, a3, a4, a5, a6, a7, a8, a9, a10, a11, a12, a13, a14, a15, a16, a17, a18, a19, a20, a21, a22, a23] = 24 := rfl
theorem ln25 {a0 a1 a2 a3 a4 a5 a6 a7 a8 a9 a10 a11 a12 a13 a14 a15 a16 a17 a18 a19 a20 a21 a22 a23 a24 : Value} : ln [a0, a1, a2, a3, a4, a5, a6, a7, a8, a9, a10, a11, a12, a13, a14, a15, a16, a17, a18, a19, a20, a21, a22, a23, a24] = 25 := rfl
theorem ln26 {a0 a1 a2 a3 a4 a5 a6 a7 a8 a9 a10 a11 a12 a13 a14 a15 a16 a17 a18 a19 a20 a21 a22 a23 a24 a25 : Value} : ln [a0, a1, a2, a3, a4, a5, a6, a7, a8, a9, a10, a11, a12, a13, a14, a15, a16, a17, a18, a19, a20, a21, a22, a23, a24, a25] = 26 := rfl
theorem ln27 {a0 a1 a2 a3 a4 a5 a6 a7 a8 a9 a10 a11 a12 a13 a14 a15 a16 a17 a18 a19 a20 a21 a22 a23 a24 a25 a26 : Value} : ln [a0, a1, a2, a3, a4, a5, a6, a7, a8, a9, a10, a11, a12, a13, a14, a15, a16, a17, a18, a19, a20, a21, a22, a23, a24, a25, a26] = 27 := rfl
theorem ln28 {a0 a1 a2 a3 a4 a5 a6 a7 a8 a9 a10 a11 a12 a13 a14 a15 a16 a17 a18 a19 a20 a21 a22 a23 a24 a25 a26 a27 : Value} : ln [a0, a1, a2, a3, a4, a5, a6, a7, a8, a9, a10, a11, a12, a13, a14, a15, a16, a17, a18, a19, a20, a21, a22, a23, a24, a25, a26, a27] = 28 := rfl
theorem ln29 {a0 a1 a2 a3 a4 a5 a6 a7 a8 a9 a10 a11 a12 a13 a14 a15 a16 a17 a18 a19 a20 a21 a22 a23 a24 a25 a26 a27 a28 : Value} : ln [a0, a1, a2, a3, a4, a5, a6, a7, a8, a9, a10, a11, a12, a13, a14, a15, a16, a17, a18, a19, a20, a21, a22, a23, a24, a25, a26, a27, a28] = 29 := rfl
theorem ln30 {a0 a1 a2 a3 a4 a5 a6 a7 a8 a9 a10 a11 a12 a13 a14 a15 a16 a17 a18 a19 a20 a21 a22 a23 a24 a25 a26 a27 a28 a29 : Value} : ln [a0, a1, a2, a3, a4, a5, a6, a7, a8, a9, a10, a11, a12, a13, a14, a15, a16, a17, a18, a19, a20, a21, a22, a23, a24, a25, a26, a27, a28, a29] = 30 := rfl
theorem ln31 {a0 a1 a2 a3 a4 a5 a6 a7 a8 a9 a10 a11 a12 a13 a14 a15 a16 a17 a18 a19 a20 a21 a22 a23 a24 a25 a26 a27 a28 a29 a30 : Value} : ln [a0, a1, a2, a3, a4, a5, a6, a7, a8, a9, a10, a11, a12, a13, a14, a15, a16, a17, a18, a19, a20, a21, a22, a23, a24, a25, a26, a27, a28, a29, a30] = 31 := rfl
theorem ln32 {a0 a1 a2 a3 a4 a5 a6 a7 a8 a9 a10 a11 a12 a13 a14 a15 a16 a17 a18 a19 a20 a21 a22 a23 a24 a25 a26 a27 a28 a29 a30 a31 : Value} : ln [a0, a1, a2, a3, a4, a5, a6, a7, a8, a9, a10, a11, a12, a13, a14, a15, a16, a17, a18, a19, a20, a21, a22, a23, a24, a25, a26, a27, a28, a29, a30, a31] = 32 := rfl
theorem ln33 {a0 a1 a2 a3 a4 a5 a6 a7 a8 a9 a10 a11 a12 a13 a14 a15 a16 a17 a18 a19 a20 a21 a22 a23 a24 a25 a26 a27 a28 a29 a30 a31 a32 : Value} : ln [a0, a1, a2, a3, a4, a5, a6, a7, a8, a9, a10, a11, a12, a13, a14, a15, a16, a17, a18, a19, a20, a21, a22, a23, a24, a25, a26, a27, a28, a29, a30, a31, a32] = 33 := rfl
theorem ln34 {a0 a1 a2 a3 a4 a5 a6 a7 a8 a9 a10 a11 a12 a13 a14 a15 a16 a17 a18 a19 a20 a21 a22 a23 a24 a25 a26 a27 a28 a29 a30 a31 a32 a33 : Value} : ln [a0, a1, a2, a3, a4, a5, a6, a7, a8, a9, a10, a11, a12, a13, a14, a15, a16, a17, a18, a19, a20, a21, a22, a23, a24, a25, a26, a27, a28, a29, a30, a31, a32, a33] = 34 := rfl
theorem ln35 {a0 a1 a2 a3 a4 a5 a6 a7 a8 a9 a10 a11 a12 a13 a14 a15 a16 a17 a18 a19 a20 a21 a22 a23 a24 a25 a26 a27 a28 a29 a30 a31 a32 a33 a34 : Value} : ln [a0, a1, a2, a3, a4, a5, a6, a7, a8, a9, a10, a11, a12, a13, a14, a15, a16, a17, a18, a19, a20, a21, a22, a23, a24, a25, a26, a27, a28, a29, a30, a31, a32, a33, a34] = 35 := rfl
theorem ln36 {a0 a1 a2 a3 a4 a5 a6 a7 a8 a9 a10 a11 a12 a13 a14 a15 a16 a17 a18 a19 a20 a21 a22 a23 a24 a25 a26 a27 a28 a29 a30 a31 a32 a33 a34 a35 : Value} : ln [a0, a1, a2, a3, a4, a5, a6, a7, a8, a9, a10, a11, a12, a13, a14, a15, a16, a17, a18, a19, a20, a21, a22, a23, a24, a25, a26, a27, a28, a29, a30, a31, a32, a33, a34, a35] = 36 := rfl
end Jvm.Own
namespace OwnFL
open Jvm.FP.Core
theorem rr_mono {f : Fmt} (hf : Good f) {s : Bool} {A B A' B' c : Nat} {e e' e0 q : Int} (hB : 0 < B) (hB' : 0 < B') (h0 : e0 ≤ f.qmin) (h0e : e0 ≤ e) (h0e' : e0 ≤ e') (hV : roundRatio f s A B e = .fin s c q)
    (h : inUnits A e e0 * B' ≤ inUnits A' e' e0 * B) : zmag f (roundRatio f s A B e) ≤ zmag f (roundRatio f s A' B' e') := by
  have fV := roundRatio_fits hf s A hB e
  have fW := roundRatio_fits hf s A' hB' e'
  refine Nat.le_of_not_lt fun hlt => ?_
  rcases roundRatio_cases f s A' B' e' with ⟨c', q', hW⟩ | hW
  rotate_left
  · rw [hW] at hlt
    exact absurd hlt (Nat.not_lt.mpr (zmag_le_top hf fV))
  have n1 : ¬ inUnits A e e0 ≤ zmag f (roundRatio f s A' B' e') * 2 ^ (f.qmin - e0).toNat * B := fun u =>
    absurd (zmag_roundRatio_le (s := s) hf hB fW (roundRatio_ne_nan _ _ _ _ _) h0 h0e u) (Nat.not_le.mpr hlt)
  have n2 : ¬ zmag f (roundRatio f s A B e) * 2 ^ (f.qmin - e0).toNat * B' ≤ inUnits A' e' e0 := fun u =>
    absurd (zmag_roundRatio_ge (s := s) hf hB' fV h0 h0e' u) (Nat.not_le.mpr hlt)
  have d1 := roundRatio_nearest hf hB hV (hW ▸ fW).1 (hW ▸ fW).2.1 h0 h0e
  have d2 := roundRatio_nearest hf hB' hW (hV ▸ fV).1 (hV ▸ fV).2.1 h0 h0e'
  have key : inUnits A e e0 * B' = inUnits A' e' e0 * B := by
    rw [hV] at fV n2 hlt
    rw [hW] at fW n1 hlt
    unfold distance at d1 d2
    rw [units_fin fV h0, units_fin fW h0] at d1 d2
    generalize zmag f (.fin s c q) * 2 ^ (f.qmin - e0).toNat = v at *
    generalize zmag f (.fin s c' q') * 2 ^ (f.qmin - e0).toNat = w at *
    generalize inUnits A e e0 = a at *
    generalize inUnits A' e' e0 = a' at *
    rw [← Int.natCast_mul, ← Int.natCast_mul] at d1 d2
    have n1' : w * B < a := Nat.lt_of_not_le n1
    have n2' : a' < v * B' := Nat.lt_of_not_le n2
    have q1 : a < v * B := by
      refine Nat.lt_of_mul_lt_mul_right (a := B') (Nat.lt_of_le_of_lt h ?_)
      calc a' * B < v * B' * B := Nat.mul_lt_mul_of_pos_right n2' hB
        _ = v * B * B' := by ac_rfl
    have q2 : w * B' < a' := by
      refine Nat.lt_of_mul_lt_mul_right (a := B) (Nat.lt_of_lt_of_le ?_ h)
      calc w * B' * B = w * B * B' := by ac_rfl
        _ < a * B' := Nat.mul_lt_mul_of_pos_right n1' hB'
    have p1 : w * B + v * B ≤ 2 * a := by omega
    have p2 : 2 * a' ≤ w * B' + v * B' := by omega
    have r1 := Nat.mul_le_mul_right B' p1
    have r2 := Nat.mul_le_mul_right B p2
    have e1 : (w * B + v * B) * B' = (w * B' + v * B') * B := by rw [Nat.add_mul, Nat.add_mul]; congr 1 <;> ac_rfl
    rw [Nat.mul_assoc] at r1 r2
    omega
  have : roundRatio f s A B e = roundRatio f s A' B' e' := by
    refine roundRatio_congr hB hB' ?_
    unfold inUnits at key
    rcases Int.le_total e e' with u | u
    · rw [show (e - e').toNat = 0 by omega]
      have k2 : (e' - e0).toNat = (e' - e).toNat + (e - e0).toNat := by omega
      rw [k2, Nat.pow_add] at key
      have p := Nat.two_pow_pos (e - e0).toNat
      refine Nat.eq_of_mul_eq_mul_right p ?_
      rw [Nat.pow_zero, Nat.mul_one]
      calc A * B' * 2 ^ (e - e0).toNat = A * 2 ^ (e - e0).toNat * B' := by ac_rfl
        _ = _ := key
        _ = A' * B * 2 ^ (e' - e).toNat * 2 ^ (e - e0).toNat := by ac_rfl
    · rw [show (e' - e).toNat = 0 by omega]
      have k2 : (e - e0).toNat = (e - e').toNat + (e' - e0).toNat := by omega
      rw [k2, Nat.pow_add] at key
      have p := Nat.two_pow_pos (e' - e0).toNat
      refine Nat.eq_of_mul_eq_mul_right p ?_
      rw [Nat.pow_zero, Nat.mul_one]
      calc A * B' * 2 ^ (e - e').toNat * 2 ^ (e' - e0).toNat = A * (2 ^ (e - e').toNat * 2 ^ (e' - e0).toNat) * B' := by ac_rfl
        _ = _ := key
        _ = A' * B * 2 ^ (e' - e0).toNat := by ac_rfl
  rw [this] at hlt
  exact Nat.lt_irrefl _ hlt
/-! whole numbers of zero up, below 2^63 -/
def Zm (n : Int64) : Nat := zmag b64 (val64 (l2d n))
theorem val_l2d {n : Int64} (h : 0 ≤ n.toInt) : val64 (l2d n) = roundRatio b64 false n.toInt.natAbs 1 0 := by
  rw [val64_l2d]
  show roundRatio b64 (decide (n.toInt < 0)) _ 1 0 = _
  rw [decide_eq_false (by omega)]
theorem fin_l2d {n : Int64} (h : 0 ≤ n.toInt) : ∃ c q, val64 (l2d n) = .fin false c q := by
  obtain ⟨c, q, e⟩ := l2d_shape n
  rw [decide_eq_false (by omega)] at e
  exact ⟨c, q, e⟩
theorem Zm_mono {a b : Int64} (h0 : 0 ≤ a.toInt) (h : a.toInt ≤ b.toInt) : Zm a ≤ Zm b := by
  obtain ⟨c, q, e⟩ := fin_l2d h0
  unfold Zm
  rw [val_l2d h0] at e ⊢
  rw [val_l2d (by omega)]
  refine rr_mono good_b64 (e0 := b64.qmin) (by decide) (by decide) (Int.le_refl _) (by decide +kernel) (by decide +kernel) e ?_
  exact Nat.mul_le_mul_right _ (Nat.mul_le_mul_right _ (by omega))
theorem Zm_zero : Zm 0 = 0 := by decide +kernel
theorem Zm_one : Zm 1 = one64 := by decide +kernel
theorem Zm_pos {a : Int64} (h : 0 < a.toInt) : one64 ≤ Zm a := by
  rw [← Zm_one]; exact Zm_mono (by decide) (by have : (1 : Int64).toInt = 1 := by decide
                                               omega)
theorem Zm_top {a : Int64} (h : 0 ≤ a.toInt) : Zm a ≤ 2 ^ 63 * one64 := by
  have q := l2d_zval_le (n := a) (V := 4890909195324358656) (by decide +kernel) (by
    rw [show zval b64 (val64 4890909195324358656) = ((2 ^ 63 : Nat) : Int) * (one64 : Int) by decide +kernel]
    refine Int.mul_le_mul_of_nonneg_right ?_ (Int.natCast_nonneg _)
    have := a.toInt_lt
    omega)
  rw [show zval b64 (val64 4890909195324358656) = ((2 ^ 63 * one64 : Nat) : Int) by decide +kernel] at q
  obtain ⟨c, r, e⟩ := fin_l2d h
  unfold Zm
  rw [e] at q ⊢
  have : zval b64 (.fin false c r) = (zmag b64 (.fin false c r) : Int) := rfl
  omega
theorem Zm_exact {a : Int64} (h : 0 ≤ a.toInt) (h2 : a.toInt ≤ 2 ^ 53) : Zm a = a.toInt.toNat * one64 := by
  have q := DInt_zval (l2d_int (a := a) (by omega))
  obtain ⟨c, r, e⟩ := fin_l2d h
  unfold Zm
  rw [e] at q ⊢
  have : zval b64 (.fin false c r) = (zmag b64 (.fin false c r) : Int) := rfl
  rw [this] at q
  have e2 : (a.toInt.toNat : Int) = a.toInt := Int.toNat_of_nonneg h
  rw [← e2, ← Int.natCast_mul] at q
  omega
theorem zmag_settle {f : Fmt} {s : Bool} {m : Nat} {q : Int} (hq : f.qmin ≤ q) (h1 : ∃ c r, settle f s m q = .fin s c r) (h2 : ∃ c r, settle f s m (q + 1) = .fin s c r) : zmag f (settle f s m (q + 1)) = 2 * zmag f (settle f s m q) := by
  obtain ⟨c1, r1, h1⟩ := h1
  obtain ⟨c2, r2, h2⟩ := h2
  unfold settle bound at *
  by_cases u : m < 2 ^ f.p
  · simp only [if_pos u] at *
    split at h1
    · rename_i v1
      split at h2
      · rename_i v2
        rw [if_pos v1, if_pos v2]
        show m * 2 ^ (q + 1 - f.qmin).toNat = 2 * (m * 2 ^ (q - f.qmin).toNat)
        rw [show (q + 1 - f.qmin).toNat = (q - f.qmin).toNat + 1 by omega, Nat.pow_succ]; ac_rfl
      · cases h2
    · cases h1
  · simp only [if_neg u] at *
    split at h1
    · rename_i v1
      split at h2
      · rename_i v2
        rw [if_pos v1, if_pos v2]
        show f.tails * 2 ^ (q + 1 + 1 - f.qmin).toNat = 2 * (f.tails * 2 ^ (q + 1 - f.qmin).toNat)
        rw [show (q + 1 + 1 - f.qmin).toNat = (q + 1 - f.qmin).toNat + 1 by omega, Nat.pow_succ]; ac_rfl
      · cases h2
    · cases h1
theorem leading_ge {N : Nat} : -1 ≤ leading N 1 := by
  unfold leading
  have : (Nat.log2 1 : Int) = 0 := by decide
  dsimp only
  rw [this]
  split <;> omega
theorem Zm_double {a b : Int64} (h0 : 0 ≤ a.toInt) (h : b.toInt = 2 * a.toInt) : Zm b = 2 * Zm a := by
  obtain ⟨c, q, e⟩ := fin_l2d h0
  obtain ⟨c', q', e'⟩ := fin_l2d (n := b) (by omega)
  unfold Zm
  rw [val_l2d h0] at e ⊢
  rw [val_l2d (by omega)] at e' ⊢
  have hn : b.toInt.natAbs = 2 * a.toInt.natAbs := by omega
  rw [hn] at e' ⊢
  generalize a.toInt.natAbs = N at *
  have hc : roundRatio b64 false (2 * N) 1 0 = roundRatio b64 false N 1 1 := by
    refine roundRatio_congr (by decide) (by decide) ?_
    show 2 * N * 1 * 2 ^ 0 = N * 1 * 2 ^ 1
    omega
  rw [hc] at e' ⊢
  by_cases z : N = 0
  · subst z; decide +kernel
  have hl := leading_ge (N := N)
  have hq0 : quantum b64 N 1 0 = leading N 1 - 52 := by
    unfold quantum; rw [qmin_b64, show ((b64.p : Nat) : Int) = 53 by decide]; omega
  have hq1 : quantum b64 N 1 1 = leading N 1 - 52 + 1 := by
    unfold quantum; rw [qmin_b64, show ((b64.p : Nat) : Int) = 53 by decide]; omega
  unfold roundRatio at *
  rw [if_neg z] at e e'
  rw [if_neg z, if_neg z]
  unfold roundAt at *
  rw [hq0] at e ⊢
  rw [hq1] at e' ⊢
  have u1 : unitsNum N 1 (leading N 1 - 52 + 1) = unitsNum N 0 (leading N 1 - 52) := by
    unfold unitsNum; rw [show (1 - (leading N 1 - 52 + 1)).toNat = (0 - (leading N 1 - 52)).toNat by omega]
  have u2 : unitsDen 1 1 (leading N 1 - 52 + 1) = unitsDen 1 0 (leading N 1 - 52) := by
    unfold unitsDen; rw [show (leading N 1 - 52 + 1 - 1).toNat = (leading N 1 - 52 - 0).toNat by omega]
  rw [u1, u2] at e' ⊢
  exact zmag_settle (by rw [qmin_b64]; omega) ⟨_, _, e⟩ ⟨_, _, e'⟩
/-! the quotient -/
def rt (a b : Int64) : UInt64 := ddiv (l2d a) (l2d b)
theorem val_rt {a b : Int64} (ha : 0 ≤ a.toInt) (hb : 0 < b.toInt) : val64 (rt a b) = roundRatio b64 false (Zm a) (Zm b) 0 := by
  obtain ⟨c, q, e⟩ := fin_l2d ha
  obtain ⟨d, r, e'⟩ := fin_l2d (n := b) (by omega)
  have fx := val64_fits (l2d a)
  have fy := val64_fits (l2d b)
  have zb := Zm_pos hb
  have op := one64_pos
  unfold Zm at *
  unfold rt
  rw [val64_ddiv]
  rw [e] at fx ⊢
  rw [e'] at fy zb ⊢
  have hd : d ≠ 0 := by
    rintro rfl
    have : zmag b64 (.fin false 0 r) = 0 := Nat.zero_mul _
    omega
  have k1 := fx.2.1
  have k2 := fy.2.1
  show (if d = 0 then _ else roundRatio b64 (false != false) c d (q - r)) = _
  rw [if_neg hd]
  refine roundRatio_congr (by omega) (by omega) ?_
  show c * (d * 2 ^ (r - b64.qmin).toNat) * 2 ^ (q - r - 0).toNat = c * 2 ^ (q - b64.qmin).toNat * d * 2 ^ (0 - (q - r)).toNat
  have : 2 ^ (r - b64.qmin).toNat * 2 ^ (q - r - 0).toNat = 2 ^ (q - b64.qmin).toNat * 2 ^ (0 - (q - r)).toNat := by
    rw [← Nat.pow_add, ← Nat.pow_add]; congr 1; omega
  calc c * (d * 2 ^ (r - b64.qmin).toNat) * 2 ^ (q - r - 0).toNat = c * d * (2 ^ (r - b64.qmin).toNat * 2 ^ (q - r - 0).toNat) := by ac_rfl
    _ = c * d * (2 ^ (q - b64.qmin).toNat * 2 ^ (0 - (q - r)).toNat) := by rw [this]
    _ = _ := by ac_rfl
def Rm (a b : Int64) : Nat := zmag b64 (val64 (rt a b))
theorem rt_ne {a b : Int64} (ha : 0 ≤ a.toInt) (hb : 0 < b.toInt) : val64 (rt a b) ≠ .nan := by
  rw [val_rt ha hb]; exact roundRatio_ne_nan _ _ _ _ _
theorem zval_rt {a b : Int64} (ha : 0 ≤ a.toInt) (hb : 0 < b.toInt) : zval b64 (val64 (rt a b)) = (Rm a b : Int) := by
  unfold Rm zval
  rw [show sgn (val64 (rt a b)) = false by rw [val_rt ha hb]; exact sgn_roundRatio _ _ _ _ _]
  rfl
theorem un0 (x : Nat) : inUnits x 0 b64.qmin = x * one64 := by
  unfold inUnits; rw [show 0 - b64.qmin = -b64.qmin by omega, pow_qmin64]
theorem rr_le {x y v : Nat} {V : Datum} (hy : 0 < y) (hV : fits b64 V) (hn : V ≠ .nan) (hz : zmag b64 V = v) (h : x * one64 ≤ v * y) : zmag b64 (roundRatio b64 false x y 0) ≤ v := by
  rw [← hz] at h ⊢
  refine zmag_roundRatio_le good_b64 hy hV hn (e0 := b64.qmin) (Int.le_refl _) (by decide +kernel) ?_
  rw [un0, Int.sub_self]
  show _ ≤ _ * 1 * _
  rw [Nat.mul_one]; exact h
theorem rr_ge {x y v : Nat} {V : Datum} (hy : 0 < y) (hV : fits b64 V) (hz : zmag b64 V = v) (h : v * y ≤ x * one64) : v ≤ zmag b64 (roundRatio b64 false x y 0) := by
  rw [← hz] at h ⊢
  refine zmag_roundRatio_ge good_b64 hy hV (e0 := b64.qmin) (Int.le_refl _) (by decide +kernel) ?_
  rw [un0, Int.sub_self]
  show _ * 1 * _ ≤ _
  rw [Nat.mul_one]; exact h
theorem Rm_le1 {a b : Int64} (ha : 0 ≤ a.toInt) (hb : 0 < b.toInt) (h : a.toInt ≤ b.toInt) : Rm a b ≤ one64 := by
  have zb := Zm_pos hb
  have op := one64_pos
  unfold Rm
  rw [val_rt ha hb]
  refine rr_le (V := .fin false (2 ^ 52) (-52)) (by omega) (show _ ∧ _ ∧ _ ∧ _ from ⟨by decide +kernel, by decide +kernel, by decide +kernel, Or.inr (by decide +kernel)⟩) (by decide) (by decide +kernel) ?_
  rw [Nat.mul_comm]; exact Nat.mul_le_mul_left _ (Zm_mono ha h)
def p1011 : Nat := 2 ^ 1011
theorem p1011_pos : 0 < p1011 := by decide +kernel
theorem Rm_pos {a b : Int64} (ha : 0 < a.toInt) (hb : 0 < b.toInt) : 0 < Rm a b := by
  have zb := Zm_pos hb
  have za := Zm_pos ha
  have tb := Zm_top (a := b) (by omega)
  have op := one64_pos
  unfold Rm
  rw [val_rt (by omega) hb]
  refine Nat.lt_of_lt_of_le p1011_pos (rr_ge (V := .fin false (2 ^ 52) (-115)) (by omega) (show _ ∧ _ ∧ _ ∧ _ from ⟨by decide +kernel, by decide +kernel, by decide +kernel, Or.inr (by decide +kernel)⟩) (by decide +kernel) ?_)
  refine Nat.le_trans (Nat.mul_le_mul_left _ tb) (Nat.le_trans ?_ (Nat.mul_le_mul_right _ za))
  decide +kernel
theorem Rm_zero {b : Int64} (hb : 0 < b.toInt) : Rm 0 b = 0 := by
  unfold Rm
  rw [val_rt (by decide) hb, Zm_zero]
  show zmag b64 (.fin false 0 b64.qmin) = 0
  exact Nat.zero_mul _
def p1021 : Nat := 2 ^ 1021
theorem mul_x (A p P O : Nat) : A * (p * P) * O = A * p * (P * O) := by ac_rfl
theorem mul_y (q B P O : Nat) : q * B * (P * O) = q * P * (B * O) := by ac_rfl
theorem Rm_lt1 {a b : Int64} (ha : 0 ≤ a.toInt) (hab : a.toInt < b.toInt) (hb : b.toInt ≤ 2 ^ 53) : Rm a b < one64 := by
  have zb := Zm_pos (a := b) (by omega)
  have op := one64_pos
  unfold Rm
  rw [val_rt ha (by omega)]
  refine Nat.lt_of_le_of_lt (rr_le (V := .fin false (2 ^ 53 - 1) (-53)) (v := (2 ^ 53 - 1) * p1021) (by omega) (show _ ∧ _ ∧ _ ∧ _ from ⟨by decide +kernel, by decide +kernel, by decide +kernel, Or.inr (by decide +kernel)⟩) (by decide) (by decide +kernel) ?_) (by decide +kernel)
  rw [Zm_exact ha (by omega), Zm_exact (by omega) hb]
  have e : one64 = 2 ^ 53 * p1021 := by decide +kernel
  have k : a.toInt.toNat * 2 ^ 53 ≤ (2 ^ 53 - 1) * b.toInt.toNat := by omega
  calc a.toInt.toNat * one64 * one64 = a.toInt.toNat * (2 ^ 53 * p1021) * one64 := by rw [← e]
    _ = a.toInt.toNat * 2 ^ 53 * (p1021 * one64) := mul_x _ _ _ _
    _ ≤ (2 ^ 53 - 1) * b.toInt.toNat * (p1021 * one64) := Nat.mul_le_mul_right _ k
    _ = (2 ^ 53 - 1) * p1021 * (b.toInt.toNat * one64) := mul_y _ _ _ _
theorem Rm_mono {a b a' b' : Int64} (ha : 0 ≤ a.toInt) (hb : 0 < b.toInt) (hab : a.toInt ≤ b.toInt) (ha' : a.toInt ≤ a'.toInt) (hb' : 0 < b'.toInt) (hbb : b'.toInt ≤ b.toInt) : Rm a b ≤ Rm a' b' := by
  have zb := Zm_pos hb
  have zb' := Zm_pos hb'
  have op := one64_pos
  have l1 := Rm_le1 ha hb hab
  unfold Rm at *
  rw [val_rt ha hb] at l1 ⊢
  rw [val_rt (by omega) hb']
  rcases roundRatio_cases b64 false (Zm a) (Zm b) 0 with ⟨c, q, hR⟩ | hR
  · refine rr_mono good_b64 (e0 := b64.qmin) (by omega) (by omega) (Int.le_refl _) (by decide +kernel) (by decide +kernel) hR ?_
    rw [un0, un0]
    exact Nat.mul_le_mul (Nat.mul_le_mul_right _ (Zm_mono ha ha')) (Zm_mono (by omega) hbb)
  · rw [hR] at l1
    exact absurd l1 (by decide +kernel)
theorem rt_one {b : Int64} (hb : 0 < b.toInt) : val64 (rt b b) = .fin false (2 ^ 52) (-52) := by
  have zb := Zm_pos hb
  have op := one64_pos
  rw [val_rt (by omega) hb]
  refine roundRatio_exact good_b64 (by omega) (show _ ∧ _ ∧ _ ∧ _ from ⟨by decide +kernel, by decide +kernel, by decide +kernel, Or.inr (by decide +kernel)⟩) ?_
  show Zm b * 2 ^ 52 = 2 ^ 52 * Zm b * 2 ^ 0
  rw [Nat.pow_zero, Nat.mul_one, Nat.mul_comm]
theorem rt_half {a b : Int64} (ha : 0 < a.toInt) (h : b.toInt = 2 * a.toInt) : val64 (rt a b) = .fin false (2 ^ 52) (-53) := by
  have za := Zm_pos ha
  have op := one64_pos
  rw [val_rt (by omega) (by omega), Zm_double (by omega) h]
  refine roundRatio_exact good_b64 (by omega) (show _ ∧ _ ∧ _ ∧ _ from ⟨by decide +kernel, by decide +kernel, by decide +kernel, Or.inr (by decide +kernel)⟩) ?_
  show Zm a * 2 ^ 53 = 2 ^ 52 * (2 * Zm a) * 2 ^ 0
  rw [Nat.pow_zero, Nat.mul_one, Nat.pow_succ]; ac_rfl
theorem rt_double {a b a' b' : Int64} (ha : 0 ≤ a.toInt) (hb : 0 < b.toInt) (h : a'.toInt = 2 * a.toInt) (h' : b'.toInt = 2 * b.toInt) : rt a' b' = rt a b := by
  have zb := Zm_pos hb
  have op := one64_pos
  refine val64_inj (rt_ne (by omega) (by omega)) ?_
  rw [val_rt ha hb, val_rt (by omega) (by omega), Zm_double ha h, Zm_double (by omega) h']
  refine roundRatio_congr (by omega) (by omega) ?_
  show 2 * Zm a * Zm b * 2 ^ 0 = Zm a * (2 * Zm b) * 2 ^ 0
  ac_rfl
end OwnFL
namespace Jvm.Own
open Sem ClassFile Op Lib Jvm.Stand Jvm.Free Jvm.LawKit Jvm.RoadKit
/-! ## 7. Statics, casts, copies of arrays -/
def aSta (v : Value) : Act := fun S H cs ss => some (v :: S, H, cs, ss)
def aCast (x0 : Nat) (ty : FieldType) : Act := fun S H cs ss => match S with
  | .ref a :: r => (arr H a).bind fun q => if q.1 = ty ∧ x0 ≤ a then some (.ref a :: r, H, cs, ss) else none
  | _ => none
def aClone (x0 : Nat) (ty : FieldType) (W Rc Rs : Nat) : Act := fun S H cs ss => match S with
  | .ref a :: r => (arr H a).bind fun q => if q.1 = ty ∧ x0 ≤ a ∧ (r.map Value.category).sum ≤ W ∧ cs + 1 ≤ Rc ∧ ss + q.2.length ≤ Rs then some (.ref H.length :: r, H ++ [.inr q], cs + 1, ss + q.2.length) else none
  | _ => none
def aCopy (x0 : Nat) (ty : FieldType) (W : Nat) : Act := fun S H cs ss => match S with
  | .int nn :: .int dp :: .ref b :: .int sp :: .ref a :: r => (arr H a).bind fun qa => (arr H b).bind fun qb =>
      if qa.1 = ty ∧ qb.1 = ty ∧ x0 ≤ b ∧ (r.map Value.category).sum ≤ W ∧ ¬ sp < 0 ∧ ¬ dp < 0 ∧ ¬ nn < 0 ∧ sp.toNatClampNeg + nn.toNatClampNeg ≤ qa.2.length ∧ dp.toNatClampNeg + nn.toNatClampNeg ≤ qb.2.length then
        some (r, H.set b (.inr (ty, qb.2.take dp.toNatClampNeg ++ (qa.2.drop sp.toNatClampNeg).take nn.toNatClampNeg ++ qb.2.drop (dp.toNatClampNeg + nn.toNatClampNeg))), cs, ss) else none
  | _ => none
section Acts2
variable {p : Program} {l : Launch} {e : Env} {R : Room} {s : State} {m : MethodId} {args : Array Value} {below : List Frame} {meth : Method} {c : Code} {Z : State} {σ : Nat → Nat} {x0 n0 : Nat} {K : List CD} {a0 : Array Value} {h h' : Heap}
theorem okSta (hx : p.tables.exec = Jvm.exec) (hZ : Z.Warmed39 s.vm) {own R0 O n d : String} {idx : Nat} {v : Value} (hown : s.vm.findClass own = some m.cls) (w : (Jvm.Cond.fieldLink own idx R0 n d).before a0 Z = true) (via : Via Z R0 O n d) (F : Sta Z Z.heap O n d (cv σ v)) : Good p l e R s m args below meth c Z σ x0 n0 K (.getstatic idx) (aSta v) := by
  intro T locs cs ss pc L S H S' H' cs' ss' X hd hL hR hF hB h
  cases h
  obtain ⟨T', X', e', st⟩ := getS (host := "") X hx hZ hown w via rfl (F.ext hR.2.2.1.2) (g := mkF m pc (cL σ L) (S.map (cv σ))) rfl hd
  exact ⟨T', locs, X', e' ▸ hR, hF, hB, st⟩
theorem okCast (hx : p.tables.exec = Jvm.exec) (hZ : Z.Warmed39 s.vm) (hsg : Sg σ x0 n0) {own C ad : String} {idx : Nat} {ty : FieldType} (hown : s.vm.findClass own = some m.cls) (had : "[" ++ ty.toString = ad) (w : (Jvm.Cond.classLink own idx C).before a0 Z = true) (wc : (Jvm.Cond.castable ad C).before a0 Z = true) : Good p l e R s m args below meth c Z σ x0 n0 K (.checkcast idx) (aCast x0 ty) := by
  intro T locs cs ss pc L S H S' H' cs' ss' X hd hL hR hF hB h
  subst had
  unfold aCast at h
  split at h
  · rename_i a r
    replace h := Option.bind_eq_some_iff.mp h
    obtain ⟨⟨t, vs⟩, h1, h⟩ := h
    dsimp only at h
    split at h
    · rename_i hq
      obtain ⟨rfl, hx0⟩ := hq
      cases h
      obtain ⟨cell, A, hs, hl, hfi, hex⟩ := hR.2.2.2 _ _ (arr_some h1)
      obtain ⟨T', X', e', st⟩ := castY X hx hZ hown w rfl (Ins.of_exa (hex (hR.2.2.1.1.symm ▸ hsg.new hx0)) wc) (g := mkF m pc (cL σ L) (List.map (cv σ) (.ref a :: r))) rfl rfl hd
      exact ⟨T', locs, X', e' ▸ hR, hF, hB, st⟩
    · cases h
  · cases h
theorem okClone (hx : p.tables.exec = Jvm.exec) (hZ : Z.Warmed39 s.vm) (hsg : Sg σ x0 n0) {own ad : String} {idx W Rc Rs : Nat} {ty : FieldType} (hown : s.vm.findClass own = some m.cls) (had : "[" ++ ty.toString = ad)
    (w1 : (Jvm.Cond.methodLink own idx ⟨ad, "clone", "()Ljava/lang/Object;"⟩).before a0 Z = true) (w2 : (Jvm.Cond.sameMethod ad "java/lang/Object" "clone" "()Ljava/lang/Object;").before a0 Z = true) (w3 : (Jvm.Cond.native ⟨"java/lang/Object", "clone", "()Ljava/lang/Object;"⟩).before a0 Z = true)
    (w4 : (Jvm.Cond.instanceMethod ⟨"java/lang/Object", "clone", "()Ljava/lang/Object;"⟩).before a0 Z = true) (w5 : (Jvm.Cond.selects ad ⟨ad, "clone", "()Ljava/lang/Object;"⟩ ⟨"java/lang/Object", "clone", "()Ljava/lang/Object;"⟩).before a0 Z = true) (w6 : (Jvm.Cond.castable ad "java/lang/Cloneable").before a0 Z = true)
    (hf : 1 ≤ R.frames) (hlo : W + 14 ≤ R.locals) (hRc : Rc ≤ R.cells) (hRs : Rs ≤ R.slots) : Good p l e R s m args below meth c Z σ x0 n0 K (.invokevirtual idx) (aClone x0 ty W Rc Rs) := by
  intro T locs cs ss pc L S H S' H' cs' ss' X hd hL hR hF hB h
  subst had
  unfold aClone at h
  split at h
  · rename_i a r
    replace h := Option.bind_eq_some_iff.mp h
    obtain ⟨⟨t, vs⟩, h1, h⟩ := h
    dsimp only at h
    split at h
    · rename_i hq
      obtain ⟨rfl, hx0, hW, hc1, hs1⟩ := hq
      cases h
      obtain ⟨cell, A, hs, hl, hfi, hex⟩ := hR.2.2.2 _ _ (arr_some h1)
      obtain ⟨c2, k, e1, e2, e3, -, e5⟩ := hex (hR.2.2.1.1.symm ▸ hsg.new hx0)
      cases A.1.symm.trans e1
      obtain ⟨c1, cC, g1, g2, g3⟩ := Cond.castable_spec w6
      cases e2.symm.trans g1
      have hal : Z.vm.Alike T.vm := hZ.alike.trans X.warmed.alike
      have FC : FitC Z cell := fitC_of A fun i hi v hv => by
        rw [hs] at hv
        simp only [List.getElem?_toArray, List.getElem?_map, Option.map_eq_some_iff] at hv
        obtain ⟨w, hw, rfl⟩ := hv
        rw [cv_fits]; exact hfi w (List.mem_of_getElem? hw)
      have ea : σ H.length = T.heap.size := hR.addr hsg
      have hsz : cell.slots.size = vs.length := by rw [hs]; simp
      obtain ⟨vm', X', st⟩ := X.cloneArray hx hown (mv hZ w1) (mv hZ w2) (mv hZ w3) (mv hZ w4) (mv hZ w5) (a := σ a) A.1 A.2.1.1 A.2.2 (by rw [hZ.alike.findClass]; exact e2) (by rw [hZ.alike.findClass]; exact g2) (by rw [hZ.alike.assignable]; exact g3)
        (fun i v hv => by have q := FC i v hv; rw [← State.fitsSlot_setVm hal] at q; exact q) (g := mkF m pc (cL σ L) (List.map (cv σ) (.ref a :: r))) rfl (size_cL.trans hL) rfl hd hf (by show 2 * 0 + _ + _ ≤ _; rw [cat_sum]; omega) (Nat.le_trans hc1 hRc) (by rw [hsz]; exact Nat.le_trans hs1 hRs)
        (by obtain ⟨-, k2, hk2, comp, hkind⟩ := A.2.1; rw [hZ.alike.clonesLoader]; exact Vm.clonesLoader_of_array hk2 hkind)
      rw [hsz] at X'
      refine ⟨_, locs, X', hR.push (ext_push _ _) (by show (T.heap.push _).size = _; simp) ?_, hF, ⟨Nat.le_trans hc1 hRc, Nat.le_trans hs1 hRs⟩, ?_⟩
      · rw [ea]
        have hN : (T.heap.push { cls := cell.cls, slots := cell.slots })[T.heap.size]? = some { cls := cell.cls, slots := cell.slots } := by simp
        exact ⟨_, ⟨hN, ⟨fun _ z => (by cases z), A.2.1.2⟩, fun z => (by cases z)⟩, hs, hl, hfi, fun _ => ⟨_, k, hN, e2, e3, rfl, e5⟩⟩
      · intro t q
        refine st t ?_
        have q' := q
        simp only [List.map_cons, cv, ea] at q'
        exact q'
    · cases h
  · cases h
theorem RepO.keep {a b : Addr} {o : Ob} (W : Keep h h' [b]) (R : RepO Z σ K h a o) (ne : a ≠ b) : RepO Z σ K h' a o := by
  have nm : a ∉ [b] := ninS ne nin0
  rcases o with ⟨c, vs⟩ | ⟨ty, vs⟩
  · obtain ⟨C, fs, h1, h2, h3⟩ := R
    exact ⟨C, fs, h1, h2.keep W, fun j v q => by obtain ⟨O, n, d, q1, q2⟩ := h3 j v q; exact ⟨O, n, d, q1, q2.keep W nm⟩⟩
  · obtain ⟨cell, h1, h2, h3, h4, h5⟩ := R
    exact ⟨cell, ⟨W.2.1 a cell h1.1 nm, h1.2⟩, h2, h3, h4, fun q => (h5 q).keep W⟩
theorem Rep.writeK {H : AH} (S : Sg σ x0 n0) (R : Rep Z σ x0 n0 K h H) {k : Nat} {o : Ob} (hk : x0 ≤ k) (W : Keep h h' [σ k]) (hsz : h'.size = h.size) (ho : RepO Z σ K h' (σ k) o) : Rep Z σ x0 n0 K h' (H.set k o) := by
  obtain ⟨r1, r2, r3, r4⟩ := R
  refine ⟨by rw [hsz]; simpa using r1, by simpa using r2, r3.keep W (allS (S.new hk) all0), fun j o' q => ?_⟩
  by_cases e : k = j
  · subst e
    by_cases hl : k < H.length
    · rw [List.getElem?_set_self hl] at q; cases q; exact ho
    · rw [List.getElem?_eq_none (by simp; omega)] at q; cases q
  · rw [List.getElem?_set_ne e] at q
    exact (r4 j o' q).keep W fun u => e (S.inj u).symm
theorem stretch_eq {cell : Cell} {vs : List Value} (hs : cell.slots = (vs.map (cv σ)).toArray) {i n : Nat} (hl : i + n ≤ vs.length) : cell.stretch i n = ((vs.drop i).take n).map (cv σ) := by
  apply List.ext_getElem?
  intro j
  simp only [Cell.stretch, List.getElem?_map, List.getElem?_range', List.getElem?_take, List.getElem?_drop]
  by_cases q : j < n
  · have : i + j < vs.length := by omega
    simp [q, hs, this, Array.getD_eq_getD_getElem?]
  · simp [q]
theorem okCopy (hx : p.tables.exec = Jvm.exec) (hZ : Z.Warmed39 s.vm) (hsg : Sg σ x0 n0) {own : String} {idx W : Nat} {ty : FieldType} (hown : s.vm.findClass own = some m.cls) (hty : refKind ty = false)
    (w1 : (Jvm.Cond.methodLink own idx Jvm.Stand.acN).before a0 Z = true) (w2 : (Jvm.Cond.native Jvm.Stand.acN).before a0 Z = true) (w3 : (Jvm.Cond.static Jvm.Stand.acN).before a0 Z = true) (w4 : (Jvm.Cond.initialized "java/lang/System").before a0 Z = true)
    (hf : 1 ≤ R.frames) (hlo : W + (nativeFrameWords "java/lang/System" "arraycopy" 5 + 11) ≤ R.locals) : Good p l e R s m args below meth c Z σ x0 n0 K (.invokestatic idx) (aCopy x0 ty W) := by
  intro T locs cs ss pc L S H S' H' cs' ss' X hd hL hR hF hB h
  unfold aCopy at h
  split at h
  · rename_i nn dp b sp a r
    replace h := Option.bind_eq_some_iff.mp h
    obtain ⟨⟨ta, vs⟩, ha, h⟩ := h
    replace h := Option.bind_eq_some_iff.mp h
    obtain ⟨⟨tb, vd⟩, hb, h⟩ := h
    dsimp only at h
    split at h
    · rename_i hq
      obtain ⟨rfl, rfl, hx0, hW, h1, h2, h3, h4, h5⟩ := hq
      cases h
      obtain ⟨ca, A, hsa, hla, hfa, hea⟩ := hR.2.2.2 _ _ (arr_some ha)
      obtain ⟨cb, B, hsb, hlb, hfb, heb⟩ := hR.2.2.2 _ _ (arr_some hb)
      obtain ⟨oa, ka, hka, sa, hska⟩ := State.isArrayOf_alike hZ.alike A.2.1
      obtain ⟨ob, kb, hkb, sb, hskb⟩ := State.isArrayOf_alike hZ.alike B.2.1
      have nat : ∀ {x : Int32}, ¬ x < 0 → x.toInt = x.toNatClampNeg := fun {x} q => nat_of q
      have za : ca.slots.size = vs.length := by rw [hsa]; simp
      have zb : cb.slots.size = vd.length := by rw [hsb]; simp
      have gv : ∀ i, i < nn.toNatClampNeg → ∃ v ∈ vs, ca.slots.getD (sp.toNatClampNeg + i) .null = cv σ v := fun i hi => by
        have q : sp.toNatClampNeg + i < vs.length := by omega
        exact ⟨vs[sp.toNatClampNeg + i], List.getElem_mem q, by rw [hsa]; simp [Array.getD_eq_getD_getElem?, q]⟩
      obtain ⟨vm₁, hW₁, X', st⟩ := X.arraycopyK hx hown (mvT hZ w1) (mvT hZ w2) (mvT hZ w3) (mvT hZ w4) (src := σ a) (dst := σ b) A.1 B.1 oa ob A.2.2 B.2.2 hka hkb hska hskb (by simp [hty]) h1 h2 h3 (by rw [nat h1, nat h3, za]; omega) (by rw [nat h2, nat h3, zb]; omega)
        (fun vm₁ hw i hi => by
          obtain ⟨v, hv, hg⟩ := gv i hi
          rw [hg, cv_fits]
          refine ⟨hfa v hv, ?_⟩
          have q := hfa v hv
          cases v <;> first | trivial | exact (prim_no_ref hty q).elim) (g := mkF m pc (cL σ L) (List.map (cv σ) (.int nn :: .int dp :: .ref b :: .int sp :: .ref a :: S'))) rfl (size_cL.trans hL) rfl hd hf (by show 2 * 0 + _ + _ ≤ _; rw [cat_sum]; omega)
      have cf := cb.storeRun_facts dp.toNatClampNeg (ca.stretch sp.toNatClampNeg nn.toNatClampNeg)
      have hlt : σ b < T.heap.size := B.lt
      have hKp : Keep T.heap (T.heap.setIfInBounds (σ b) (copied ca cb sp dp nn)) [σ b] := by
        refine ⟨by simp, fun x c q r => ?_, fun x c q => ?_⟩
        · rw [Array.getElem?_setIfInBounds_ne (fun z => r (by simp [z]))]; exact q
        · by_cases z : σ b = x
          · subst z; cases B.1.symm.trans q
            exact ⟨_, by rw [Array.getElem?_setIfInBounds_self_of_lt hlt], cf.1, cf.2.1, cf.2.2.1⟩
          · exact ⟨c, by rw [Array.getElem?_setIfInBounds_ne z]; exact q, rfl, rfl, rfl⟩
      refine ⟨_, _, X', hR.writeK hsg hx0 hKp (by show (T.heap.setIfInBounds _ _).size = _; simp) ?_, hF.app fun y hy => ?_, hB, st⟩
      · have hN : (T.heap.setIfInBounds (σ b) (copied ca cb sp dp nn))[σ b]? = some (copied ca cb sp dp nn) := by rw [Array.getElem?_setIfInBounds_self_of_lt hlt]
        refine ⟨copied ca cb sp dp nn, ⟨hN, ⟨fun k z => B.2.1.1 k (cf.2.1 ▸ z), ?_⟩, fun z => B.2.2 (cf.2.1 ▸ z)⟩, ?_, ?_, ?_, fun q => (heb q).keep hKp⟩
        · obtain ⟨kk, z1, z2⟩ := B.2.1.2
          exact ⟨kk, by rw [show (copied ca cb sp dp nn).cls = cb.cls from cf.1]; exact z1, z2⟩
        · apply Array.ext_getElem?
          intro j
          show (cb.storeRun _ (ca.stretch _ _)).slots[j]? = _
          have hst := stretch_eq (σ := σ) hsa h4
          have hln : (ca.stretch sp.toNatClampNeg nn.toNatClampNeg).length = nn.toNatClampNeg := by simp [Cell.stretch]
          rw [Cell.storeRun_get _ _ _ _ (by rw [hln, zb]; exact h5), hln, hst, hsb]
          have l1 : (vd.take dp.toNatClampNeg).length = dp.toNatClampNeg := by rw [List.length_take]; omega
          have l2 : ((vs.drop sp.toNatClampNeg).take nn.toNatClampNeg).length = nn.toNatClampNeg := by rw [List.length_take, List.length_drop]; omega
          simp only [List.getElem?_toArray, List.map_append, List.append_assoc]
          by_cases c1 : j < dp.toNatClampNeg
          · rw [if_neg (by omega), List.getElem?_append_left (by rw [List.length_map]; omega)]
            simp [List.getElem?_take, c1]
          · rw [List.getElem?_append_right (by rw [List.length_map]; omega), List.length_map, l1]
            by_cases c2 : j < dp.toNatClampNeg + nn.toNatClampNeg
            · rw [if_pos ⟨by omega, c2⟩, List.getElem?_append_left (by rw [List.length_map, l2]; omega)]
            · rw [if_neg (by omega), List.getElem?_append_right (by rw [List.length_map, l2]; omega), List.length_map, l2]
              simp only [List.getElem?_map, List.getElem?_drop]
              congr 2; omega
        · simp only [List.length_append, List.length_take, List.length_drop]; omega
        · intro v hv
          simp only [List.mem_append] at hv
          rcases hv with (q | q) | q
          · exact hfb v (List.mem_of_mem_take q)
          · exact hfa v (List.mem_of_mem_drop (List.mem_of_mem_take q))
          · exact hfb v (List.mem_of_mem_drop q)
      · simp only [copyLocs, List.mem_map] at hy
        obtain ⟨i, -, rfl⟩ := hy
        exact hsg.new hx0
    · cases h
  · cases h
end Acts2
end Jvm.Own
namespace Jvm.Pilot.@@N@@
open Jvm Jvm.ClassFile Sem Op Lib Jvm.Free Jvm.Stand Jvm.LawKit Jvm.RoadKit Bundle Jvm.Own Jvm.Pilot.@@N@@.Jvm.D
theorem k0_0 : dec code 0 = some (.iload 6) := by decide +kernel
theorem k0_2 : dec code 2 = some (.bipush 8) := by decide +kernel
theorem k0_4 : dec code 4 = some (.iand) := by decide +kernel
theorem k0_5 : dec code 5 = some (.ifCond .eq 7) := by decide +kernel
theorem k0_8 : dec code 8 = some (.iconst 1) := by decide +kernel
theorem k0_9 : dec code 9 = some (.goto 4) := by decide +kernel
theorem k0_12 : dec code 12 = some (.iconst 0) := by decide +kernel
theorem k0_13 : dec code 13 = some (.istore 7) := by decide +kernel
theorem k0_15 : dec code 15 = some (.lload_n 2) := by decide +kernel
theorem k0_16 : dec code 16 = some (.ldc2_w 20) := by decide +kernel
theorem k0_19 : dec code 19 = some (.land) := by decide +kernel
theorem k0_20 : dec code 20 = some (.lstore 8) := by decide +kernel
theorem k0_22 : dec code 22 = some (.iload 6) := by decide +kernel
theorem k0_24 : dec code 24 = some (.iconst 3) := by decide +kernel
theorem k0_25 : dec code 25 = some (.iand) := by decide +kernel
theorem k0_26 : dec code 26 = some (.ifCond .ne 6) := by decide +kernel
theorem k0_29 : dec code 29 = some (.lconst 0) := by decide +kernel
theorem k0_30 : dec code 30 = some (.lstore 8) := by decide +kernel
theorem k0_32 : dec code 32 = some (.lload 8) := by decide +kernel
theorem k0_34 : dec code 34 = some (.lconst 0) := by decide +kernel
theorem k0_35 : dec code 35 = some (.lcmp) := by decide +kernel
theorem k0_36 : dec code 36 = some (.ifCond .ne 21) := by decide +kernel
theorem k0_39 : dec code 39 = some (.lload_n 0) := by decide +kernel
theorem k0_40 : dec code 40 = some (.lconst 0) := by decide +kernel
theorem k0_41 : dec code 41 = some (.iload 7) := by decide +kernel
theorem k0_43 : dec code 43 = some (.invokestatic 22) := by decide +kernel
theorem k0_46 : dec code 46 = some (.dconst 0) := by decide +kernel
theorem k0_47 : dec code 47 = some (.dcmp .l) := by decide +kernel
theorem k0_48 : dec code 48 = some (.ifCond .ne 7) := by decide +kernel
theorem k0_51 : dec code 51 = some (.iconst 1) := by decide +kernel
theorem k0_52 : dec code 52 = some (.goto 4) := by decide +kernel
theorem k0_55 : dec code 55 = some (.iconst 0) := by decide +kernel
theorem k0_56 : dec code 56 = some (.ireturn) := by decide +kernel
theorem k0_57 : dec code 57 = some (.iload 6) := by decide +kernel
theorem k0_59 : dec code 59 = some (.iconst 4) := by decide +kernel
theorem k0_60 : dec code 60 = some (.iand) := by decide +kernel
theorem k0_61 : dec code 61 = some (.ifCond .eq 7) := by decide +kernel
theorem k0_64 : dec code 64 = some (.iconst 1) := by decide +kernel
theorem k0_65 : dec code 65 = some (.goto 4) := by decide +kernel
theorem k0_68 : dec code 68 = some (.iconst 0) := by decide +kernel
theorem k0_69 : dec code 69 = some (.istore 10) := by decide +kernel
theorem k0_71 : dec code 71 = some (.iload 10) := by decide +kernel
theorem k0_73 : dec code 73 = some (.ifCond .eq 8) := by decide +kernel
theorem k0_76 : dec code 76 = some (.lload 8) := by decide +kernel
theorem k0_78 : dec code 78 = some (.goto 11) := by decide +kernel
theorem k0_81 : dec code 81 = some (.lload_n 0) := by decide +kernel
theorem k0_82 : dec code 82 = some (.ldc2_w 20) := by decide +kernel
theorem k0_85 : dec code 85 = some (.land) := by decide +kernel
theorem k0_86 : dec code 86 = some (.lload 8) := by decide +kernel
theorem k0_88 : dec code 88 = some (.lrem) := by decide +kernel
theorem k0_89 : dec code 89 = some (.lstore 11) := by decide +kernel
theorem k0_91 : dec code 91 = some (.lload 4) := by decide +kernel
theorem k0_93 : dec code 93 = some (.ldc2_w 20) := by decide +kernel
theorem k0_96 : dec code 96 = some (.land) := by decide +kernel
theorem k0_97 : dec code 97 = some (.lload 8) := by decide +kernel
theorem k0_99 : dec code 99 = some (.lrem) := by decide +kernel
theorem k0_100 : dec code 100 = some (.lstore 13) := by decide +kernel
theorem k0_102 : dec code 102 = some (.lload 11) := by decide +kernel
theorem k0_104 : dec code 104 = some (.lload 13) := by decide +kernel
theorem k0_106 : dec code 106 = some (.invokestatic 27) := by decide +kernel
theorem k0_109 : dec code 109 = some (.lstore 15) := by decide +kernel
theorem k0_111 : dec code 111 = some (.lload 11) := by decide +kernel
theorem k0_113 : dec code 113 = some (.lload 13) := by decide +kernel
theorem k0_115 : dec code 115 = some (.invokestatic 33) := by decide +kernel
theorem k0_118 : dec code 118 = some (.lstore 17) := by decide +kernel
theorem k0_120 : dec code 120 = some (.lload 11) := by decide +kernel
theorem k0_122 : dec code 122 = some (.lload 8) := by decide +kernel
theorem k0_124 : dec code 124 = some (.iload 7) := by decide +kernel
theorem k0_126 : dec code 126 = some (.invokestatic 22) := by decide +kernel
theorem k0_129 : dec code 129 = some (.dstore 19) := by decide +kernel
theorem k0_131 : dec code 131 = some (.dconst 0) := by decide +kernel
theorem k0_132 : dec code 132 = some (.dload 19) := by decide +kernel
theorem k0_134 : dec code 134 = some (.dcmp .g) := by decide +kernel
theorem k0_135 : dec code 135 = some (.ifCond .gt 14) := by decide +kernel
theorem k0_138 : dec code 138 = some (.dload 19) := by decide +kernel
theorem k0_140 : dec code 140 = some (.dconst 1) := by decide +kernel
theorem k0_141 : dec code 141 = some (.dcmp .g) := by decide +kernel
theorem k0_142 : dec code 142 = some (.ifCond .gt 7) := by decide +kernel
theorem k0_145 : dec code 145 = some (.iconst 1) := by decide +kernel
theorem k0_146 : dec code 146 = some (.goto 4) := by decide +kernel
theorem k0_149 : dec code 149 = some (.iconst 0) := by decide +kernel
theorem k0_150 : dec code 150 = some (.istore 21) := by decide +kernel
theorem k0_152 : dec code 152 = some (.iload 21) := by decide +kernel
theorem k0_154 : dec code 154 = some (.ifCond .eq 34) := by decide +kernel
theorem k0_157 : dec code 157 = some (.lload 11) := by decide +kernel
theorem k0_159 : dec code 159 = some (.lconst 0) := by decide +kernel
theorem k0_160 : dec code 160 = some (.lcmp) := by decide +kernel
theorem k0_161 : dec code 161 = some (.ifCond .ne 7) := by decide +kernel
theorem k0_164 : dec code 164 = some (.iconst 1) := by decide +kernel
theorem k0_165 : dec code 165 = some (.goto 4) := by decide +kernel
theorem k0_168 : dec code 168 = some (.iconst 0) := by decide +kernel
theorem k0_169 : dec code 169 = some (.dload 19) := by decide +kernel
theorem k0_171 : dec code 171 = some (.dconst 0) := by decide +kernel
theorem k0_172 : dec code 172 = some (.dcmp .l) := by decide +kernel
theorem k0_173 : dec code 173 = some (.ifCond .ne 7) := by decide +kernel
theorem k0_176 : dec code 176 = some (.iconst 1) := by decide +kernel
theorem k0_177 : dec code 177 = some (.goto 4) := by decide +kernel
theorem k0_180 : dec code 180 = some (.iconst 0) := by decide +kernel
theorem k0_181 : dec code 181 = some (.if_icmp .ne 7) := by decide +kernel
theorem k0_184 : dec code 184 = some (.iconst 1) := by decide +kernel
theorem k0_185 : dec code 185 = some (.goto 4) := by decide +kernel
theorem k0_188 : dec code 188 = some (.iconst 0) := by decide +kernel
theorem k0_189 : dec code 189 = some (.istore 21) := by decide +kernel
theorem k0_191 : dec code 191 = some (.lload 11) := by decide +kernel
theorem k0_193 : dec code 193 = some (.lload 8) := by decide +kernel
theorem k0_195 : dec code 195 = some (.lcmp) := by decide +kernel
theorem k0_196 : dec code 196 = some (.ifCond .ne 22) := by decide +kernel
theorem k0_199 : dec code 199 = some (.iload 21) := by decide +kernel
theorem k0_201 : dec code 201 = some (.ifCond .eq 14) := by decide +kernel
theorem k0_204 : dec code 204 = some (.dload 19) := by decide +kernel
theorem k0_206 : dec code 206 = some (.dconst 1) := by decide +kernel
theorem k0_207 : dec code 207 = some (.dcmp .l) := by decide +kernel
theorem k0_208 : dec code 208 = some (.ifCond .ne 7) := by decide +kernel
theorem k0_211 : dec code 211 = some (.iconst 1) := by decide +kernel
theorem k0_212 : dec code 212 = some (.goto 4) := by decide +kernel
theorem k0_215 : dec code 215 = some (.iconst 0) := by decide +kernel
theorem k0_216 : dec code 216 = some (.istore 21) := by decide +kernel
theorem k0_218 : dec code 218 = some (.lload 11) := by decide +kernel
theorem k0_220 : dec code 220 = some (.lload 8) := by decide +kernel
theorem k0_222 : dec code 222 = some (.lcmp) := by decide +kernel
theorem k0_223 : dec code 223 = some (.ifCond .ge 31) := by decide +kernel
theorem k0_226 : dec code 226 = some (.lload 8) := by decide +kernel
theorem k0_228 : dec code 228 = some (.ldc2_w 36) := by decide +kernel
theorem k0_231 : dec code 231 = some (.lcmp) := by decide +kernel
theorem k0_232 : dec code 232 = some (.ifCond .gt 22) := by decide +kernel
theorem k0_235 : dec code 235 = some (.iload 21) := by decide +kernel
theorem k0_237 : dec code 237 = some (.ifCond .eq 14) := by decide +kernel
theorem k0_240 : dec code 240 = some (.dload 19) := by decide +kernel
theorem k0_242 : dec code 242 = some (.dconst 1) := by decide +kernel
theorem k0_243 : dec code 243 = some (.dcmp .g) := by decide +kernel
theorem k0_244 : dec code 244 = some (.ifCond .ge 7) := by decide +kernel
theorem k0_247 : dec code 247 = some (.iconst 1) := by decide +kernel
theorem k0_248 : dec code 248 = some (.goto 4) := by decide +kernel
theorem k0_251 : dec code 251 = some (.iconst 0) := by decide +kernel
theorem k0_252 : dec code 252 = some (.istore 21) := by decide +kernel
theorem k0_254 : dec code 254 = some (.lload 15) := by decide +kernel
theorem k0_256 : dec code 256 = some (.lload 8) := by decide +kernel
theorem k0_258 : dec code 258 = some (.iload 7) := by decide +kernel
theorem k0_260 : dec code 260 = some (.invokestatic 22) := by decide +kernel
theorem k0_263 : dec code 263 = some (.dstore 22) := by decide +kernel
theorem k0_265 : dec code 265 = some (.lload 17) := by decide +kernel
theorem k0_267 : dec code 267 = some (.lload 8) := by decide +kernel
theorem k0_269 : dec code 269 = some (.iload 7) := by decide +kernel
theorem k0_271 : dec code 271 = some (.invokestatic 22) := by decide +kernel
theorem k0_274 : dec code 274 = some (.dstore 24) := by decide +kernel
theorem k0_276 : dec code 276 = some (.iload 21) := by decide +kernel
theorem k0_278 : dec code 278 = some (.ifCond .eq 15) := by decide +kernel
theorem k0_281 : dec code 281 = some (.dload 22) := by decide +kernel
theorem k0_283 : dec code 283 = some (.dload 24) := by decide +kernel
theorem k0_285 : dec code 285 = some (.dcmp .g) := by decide +kernel
theorem k0_286 : dec code 286 = some (.ifCond .gt 7) := by decide +kernel
theorem k0_289 : dec code 289 = some (.iconst 1) := by decide +kernel
theorem k0_290 : dec code 290 = some (.goto 4) := by decide +kernel
theorem k0_293 : dec code 293 = some (.iconst 0) := by decide +kernel
theorem k0_294 : dec code 294 = some (.istore 21) := by decide +kernel
theorem k0_296 : dec code 296 = some (.lload 8) := by decide +kernel
theorem k0_298 : dec code 298 = some (.lload 4) := by decide +kernel
theorem k0_300 : dec code 300 = some (.ldc2_w 20) := by decide +kernel
theorem k0_303 : dec code 303 = some (.land) := by decide +kernel
theorem k0_304 : dec code 304 = some (.invokestatic 33) := by decide +kernel
theorem k0_307 : dec code 307 = some (.lstore 26) := by decide +kernel
theorem k0_309 : dec code 309 = some (.lload 11) := by decide +kernel
theorem k0_311 : dec code 311 = some (.lload 26) := by decide +kernel
theorem k0_313 : dec code 313 = some (.iload 7) := by decide +kernel
theorem k0_315 : dec code 315 = some (.invokestatic 22) := by decide +kernel
theorem k0_318 : dec code 318 = some (.dstore 28) := by decide +kernel
theorem k0_320 : dec code 320 = some (.iload 21) := by decide +kernel
theorem k0_322 : dec code 322 = some (.ifCond .eq 15) := by decide +kernel
theorem k0_325 : dec code 325 = some (.dload 28) := by decide +kernel
theorem k0_327 : dec code 327 = some (.dload 19) := by decide +kernel
theorem k0_329 : dec code 329 = some (.dcmp .g) := by decide +kernel
theorem k0_330 : dec code 330 = some (.ifCond .gt 7) := by decide +kernel
theorem k0_333 : dec code 333 = some (.iconst 1) := by decide +kernel
theorem k0_334 : dec code 334 = some (.goto 4) := by decide +kernel
theorem k0_337 : dec code 337 = some (.iconst 0) := by decide +kernel
theorem k0_338 : dec code 338 = some (.istore 21) := by decide +kernel
theorem k0_340 : dec code 340 = some (.lload 8) := by decide +kernel
theorem k0_342 : dec code 342 = some (.ldc2_w 38) := by decide +kernel
theorem k0_345 : dec code 345 = some (.lcmp) := by decide +kernel
theorem k0_346 : dec code 346 = some (.ifCond .gt 50) := by decide +kernel
theorem k0_349 : dec code 349 = some (.ldc2_w 40) := by decide +kernel
theorem k0_352 : dec code 352 = some (.lload 11) := by decide +kernel
theorem k0_354 : dec code 354 = some (.lmul) := by decide +kernel
theorem k0_355 : dec code 355 = some (.ldc2_w 40) := by decide +kernel
theorem k0_358 : dec code 358 = some (.lload 8) := by decide +kernel
theorem k0_360 : dec code 360 = some (.lmul) := by decide +kernel
theorem k0_361 : dec code 361 = some (.iload 7) := by decide +kernel
theorem k0_363 : dec code 363 = some (.ifCond .ne 7) := by decide +kernel
theorem k0_366 : dec code 366 = some (.iconst 1) := by decide +kernel
theorem k0_367 : dec code 367 = some (.goto 4) := by decide +kernel
theorem k0_370 : dec code 370 = some (.iconst 0) := by decide +kernel
theorem k0_371 : dec code 371 = some (.invokestatic 22) := by decide +kernel
theorem k0_374 : dec code 374 = some (.dstore 30) := by decide +kernel
theorem k0_376 : dec code 376 = some (.iload 21) := by decide +kernel
theorem k0_378 : dec code 378 = some (.ifCond .eq 15) := by decide +kernel
theorem k0_381 : dec code 381 = some (.dload 30) := by decide +kernel
theorem k0_383 : dec code 383 = some (.dload 19) := by decide +kernel
theorem k0_385 : dec code 385 = some (.dcmp .l) := by decide +kernel
theorem k0_386 : dec code 386 = some (.ifCond .ne 7) := by decide +kernel
theorem k0_389 : dec code 389 = some (.iconst 1) := by decide +kernel
theorem k0_390 : dec code 390 = some (.goto 4) := by decide +kernel
theorem k0_393 : dec code 393 = some (.iconst 0) := by decide +kernel
theorem k0_394 : dec code 394 = some (.istore 21) := by decide +kernel
theorem k0_396 : dec code 396 = some (.lload 17) := by decide +kernel
theorem k0_398 : dec code 398 = some (.lconst 0) := by decide +kernel
theorem k0_399 : dec code 399 = some (.lcmp) := by decide +kernel
theorem k0_400 : dec code 400 = some (.ifCond .le 48) := by decide +kernel
theorem k0_403 : dec code 403 = some (.lload 17) := by decide +kernel
theorem k0_405 : dec code 405 = some (.ldc2_w 38) := by decide +kernel
theorem k0_408 : dec code 408 = some (.lcmp) := by decide +kernel
theorem k0_409 : dec code 409 = some (.ifCond .gt 39) := by decide +kernel
theorem k0_412 : dec code 412 = some (.lload 17) := by decide +kernel
theorem k0_414 : dec code 414 = some (.ldc2_w 40) := by decide +kernel
theorem k0_417 : dec code 417 = some (.lload 17) := by decide +kernel
theorem k0_419 : dec code 419 = some (.lmul) := by decide +kernel
theorem k0_420 : dec code 420 = some (.iload 7) := by decide +kernel
theorem k0_422 : dec code 422 = some (.invokestatic 22) := by decide +kernel
theorem k0_425 : dec code 425 = some (.dstore 30) := by decide +kernel
theorem k0_427 : dec code 427 = some (.iload 21) := by decide +kernel
theorem k0_429 : dec code 429 = some (.ifCond .eq 16) := by decide +kernel
theorem k0_432 : dec code 432 = some (.dload 30) := by decide +kernel
theorem k0_434 : dec code 434 = some (.ldc2_w 42) := by decide +kernel
theorem k0_437 : dec code 437 = some (.dcmp .l) := by decide +kernel
theorem k0_438 : dec code 438 = some (.ifCond .ne 7) := by decide +kernel
theorem k0_441 : dec code 441 = some (.iconst 1) := by decide +kernel
theorem k0_442 : dec code 442 = some (.goto 4) := by decide +kernel
theorem k0_445 : dec code 445 = some (.iconst 0) := by decide +kernel
theorem k0_446 : dec code 446 = some (.istore 21) := by decide +kernel
theorem k0_448 : dec code 448 = some (.iload 21) := by decide +kernel
theorem k0_450 : dec code 450 = some (.ireturn) := by decide +kernel
theorem k1_0 : dec jdk_29_method_70_code 0 = some (.lload_n 0) := by decide +kernel
theorem k1_1 : dec jdk_29_method_70_code 1 = some (.lload_n 2) := by decide +kernel
theorem k1_2 : dec jdk_29_method_70_code 2 = some (.lcmp) := by decide +kernel
theorem k1_3 : dec jdk_29_method_70_code 3 = some (.ifCond .gt 7) := by decide +kernel
theorem k1_6 : dec jdk_29_method_70_code 6 = some (.lload_n 0) := by decide +kernel
theorem k1_7 : dec jdk_29_method_70_code 7 = some (.goto 4) := by decide +kernel
theorem k1_10 : dec jdk_29_method_70_code 10 = some (.lload_n 2) := by decide +kernel
theorem k1_11 : dec jdk_29_method_70_code 11 = some (.lreturn) := by decide +kernel
theorem k2_0 : dec jdk_29_method_66_code 0 = some (.lload_n 0) := by decide +kernel
theorem k2_1 : dec jdk_29_method_66_code 1 = some (.lload_n 2) := by decide +kernel
theorem k2_2 : dec jdk_29_method_66_code 2 = some (.lcmp) := by decide +kernel
theorem k2_3 : dec jdk_29_method_66_code 3 = some (.ifCond .lt 7) := by decide +kernel
theorem k2_6 : dec jdk_29_method_66_code 6 = some (.lload_n 0) := by decide +kernel
theorem k2_7 : dec jdk_29_method_66_code 7 = some (.goto 4) := by decide +kernel
theorem k2_10 : dec jdk_29_method_66_code 10 = some (.lload_n 2) := by decide +kernel
theorem k2_11 : dec jdk_29_method_66_code 11 = some (.lreturn) := by decide +kernel
theorem k3_0 : dec method_2_code 0 = some (.new 7) := by decide +kernel
theorem k3_3 : dec method_2_code 3 = some (.dup) := by decide +kernel
theorem k3_4 : dec method_2_code 4 = some (.ldc2_w 9) := by decide +kernel
theorem k3_7 : dec method_2_code 7 = some (.lload_n 0) := by decide +kernel
theorem k3_8 : dec method_2_code 8 = some (.lload_n 2) := by decide +kernel
theorem k3_9 : dec method_2_code 9 = some (.iload 4) := by decide +kernel
theorem k3_11 : dec method_2_code 11 = some (.aconst_null) := by decide +kernel
theorem k3_12 : dec method_2_code 12 = some (.invokespecial 11) := by decide +kernel
theorem k3_15 : dec method_2_code 15 = some (.invokevirtual 14) := by decide +kernel
theorem k3_18 : dec method_2_code 18 = some (.dreturn) := by decide +kernel
theorem k4_0 : dec prog_2_method_1_code 0 = some (.aload_n 0) := by decide +kernel
theorem k4_1 : dec prog_2_method_1_code 1 = some (.invokespecial 1) := by decide +kernel
theorem k4_4 : dec prog_2_method_1_code 4 = some (.aload_n 0) := by decide +kernel
theorem k4_5 : dec prog_2_method_1_code 5 = some (.lload_n 1) := by decide +kernel
theorem k4_6 : dec prog_2_method_1_code 6 = some (.putfield 7) := by decide +kernel
theorem k4_9 : dec prog_2_method_1_code 9 = some (.aload_n 0) := by decide +kernel
theorem k4_10 : dec prog_2_method_1_code 10 = some (.lload_n 3) := by decide +kernel
theorem k4_11 : dec prog_2_method_1_code 11 = some (.putfield 13) := by decide +kernel
theorem k4_14 : dec prog_2_method_1_code 14 = some (.aload_n 0) := by decide +kernel
theorem k4_15 : dec prog_2_method_1_code 15 = some (.lload 5) := by decide +kernel
theorem k4_17 : dec prog_2_method_1_code 17 = some (.putfield 16) := by decide +kernel
theorem k4_20 : dec prog_2_method_1_code 20 = some (.aload_n 0) := by decide +kernel
theorem k4_21 : dec prog_2_method_1_code 21 = some (.iload 7) := by decide +kernel
theorem k4_23 : dec prog_2_method_1_code 23 = some (.putfield 19) := by decide +kernel
theorem k4_26 : dec prog_2_method_1_code 26 = some (.aload_n 0) := by decide +kernel
theorem k4_27 : dec prog_2_method_1_code 27 = some (.aload 8) := by decide +kernel
theorem k4_29 : dec prog_2_method_1_code 29 = some (.putfield 23) := by decide +kernel
theorem k4_32 : dec prog_2_method_1_code 32 = some (.return_) := by decide +kernel
theorem k5_0 : dec jdk_30_method_1_code 0 = some (.aload_n 0) := by decide +kernel
theorem k5_1 : dec jdk_30_method_1_code 1 = some (.invokespecial 1) := by decide +kernel
theorem k5_4 : dec jdk_30_method_1_code 4 = some (.return_) := by decide +kernel
theorem k6_0 : dec prog_2_method_2_code 0 = some (.aload_n 0) := by decide +kernel
theorem k6_1 : dec prog_2_method_2_code 1 = some (.getfield 16) := by decide +kernel
theorem k6_4 : dec prog_2_method_2_code 4 = some (.lconst 0) := by decide +kernel
theorem k6_5 : dec prog_2_method_2_code 5 = some (.lcmp) := by decide +kernel
theorem k6_6 : dec prog_2_method_2_code 6 = some (.ifCond .ne 7) := by decide +kernel
theorem k6_9 : dec prog_2_method_2_code 9 = some (.dconst 0) := by decide +kernel
theorem k6_10 : dec prog_2_method_2_code 10 = some (.goto 14) := by decide +kernel
theorem k6_13 : dec prog_2_method_2_code 13 = some (.aload_n 0) := by decide +kernel
theorem k6_14 : dec prog_2_method_2_code 14 = some (.getfield 13) := by decide +kernel
theorem k6_17 : dec prog_2_method_2_code 17 = some (.l2d) := by decide +kernel
theorem k6_18 : dec prog_2_method_2_code 18 = some (.aload_n 0) := by decide +kernel
theorem k6_19 : dec prog_2_method_2_code 19 = some (.getfield 16) := by decide +kernel
theorem k6_22 : dec prog_2_method_2_code 22 = some (.l2d) := by decide +kernel
theorem k6_23 : dec prog_2_method_2_code 23 = some (.ddiv) := by decide +kernel
theorem k6_24 : dec prog_2_method_2_code 24 = some (.dreturn) := by decide +kernel
def K : List CD := [("com/example/keeplast/keeplast/Dirt", [("com/example/keeplast/keeplast/Dirt", "cleanedOffset", "J"), ("com/example/keeplast/keeplast/Dirt", "dirtyBytes", "J"), ("com/example/keeplast/keeplast/Dirt", "bytes", "J"), ("com/example/keeplast/keeplast/Dirt", "cleanable", "Z"), ("com/example/keeplast/keeplast/Dirt", "prefix", "Lcom/example/keeplast/keeplast/Dirt$Prefix;")])]
theorem kok {Z : State} {a0 : Array Value} (hw : ∀ d ∈ tables_1, d.before a0 Z = true) : KOk Z a0 K := by
  intro c C fs h
  match c, h with
  | 0, h =>
    cases h
    refine ⟨⟨5, (hw _ (List.mem_of_getElem? (i := 13) rfl))⟩, ?_, names_inj (by decide +kernel)⟩
    intro i f hf
    match i, hf with
    | 0, hf => cases hf; exact ⟨Or.inr (hw _ (List.mem_of_getElem? (i := 28) rfl)), .long, by decide +kernel⟩
    | 1, hf => cases hf; exact ⟨Or.inr (hw _ (List.mem_of_getElem? (i := 30) rfl)), .long, by decide +kernel⟩
    | 2, hf => cases hf; exact ⟨Or.inr (hw _ (List.mem_of_getElem? (i := 32) rfl)), .long, by decide +kernel⟩
    | 3, hf => cases hf; exact ⟨Or.inr (hw _ (List.mem_of_getElem? (i := 34) rfl)), .boolean, by decide +kernel⟩
    | 4, hf => cases hf; exact ⟨Or.inr (hw _ (List.mem_of_getElem? (i := 36) rfl)), (.object "com/example/keeplast/keeplast/Dirt$Prefix"), by decide +kernel⟩
    | k + 5, hf => cases hf
  | k + 1, h => cases h
/-! body 5: Record.<init>()V -/
def E5 : List (Nat × Nat × Act) := [(8, 1, aObj 6)]
def F5 : List Value → AH → Option ORes := fn jdk_30_method_1_code 1 (Option.none : Option Jvm.ClassFile.FieldType) E5 0 46
def r5 : Room := { frames := 1, cells := 0, slots := 0, locals := 18 }
theorem says5 (l : Launch) {Z : State} {a0 : Array Value} {σ : Nat → Nat} {n0 : Nat} (hsg : Sg σ 0 n0) (hw : ∀ d ∈ tables_1, d.before a0 Z = true) : Says l Z σ 0 n0 K (⟨"java/lang/Record", "<init>", "()V"⟩ : MethodName) jdk_30_method_1_code 1 (Option.none : Option Jvm.ClassFile.FieldType) [] r5 F5 :=
  says_fn hsg (plainFor_of_name (by first | (simp [plainName, overriddenIn]; done) | decide +kernel)) fun p e s m args below meth c hx hby hml hZ hown hnm => ag_cons (okObj hx hZ hown (hw _ (List.mem_of_getElem? (i := 24) rfl)) (hw _ (List.mem_of_getElem? (i := 25) rfl)) (hw _ (List.mem_of_getElem? (i := 26) rfl)) (W := 6) (by decide) (by decide)) <| ag_nil
/-! body 4: Dirt.<init>(JJJZLcom/example/keeplast/keeplast/Dirt$Prefix;)V -/
def E4 : List (Nat × Nat × Act) := [(8, 1, aRecv 0 0 6 0 0 0 0 F5), (4, 7, aPut 0 0 0 .long), (4, 13, aPut 0 0 1 .long), (4, 16, aPut 0 0 2 .long), (4, 19, aPut 0 0 3 .boolean), (4, 23, aPut 0 0 4 (.object "com/example/keeplast/keeplast/Dirt$Prefix"))]
def F4 : List Value → AH → Option ORes := fn prog_2_method_1_code 9 (Option.none : Option Jvm.ClassFile.FieldType) E4 0 76
def r4 : Room := { frames := 2, cells := 0, slots := 0, locals := 36 }
theorem says4 (l : Launch) {Z : State} {a0 : Array Value} {σ : Nat → Nat} {n0 : Nat} (hsg : Sg σ 0 n0) (hw : ∀ d ∈ tables_1, d.before a0 Z = true) : Says l Z σ 0 n0 K (⟨"com/example/keeplast/keeplast/Dirt", "<init>", "(JJJZLcom/example/keeplast/keeplast/Dirt$Prefix;)V"⟩ : MethodName) prog_2_method_1_code 9 (Option.none : Option Jvm.ClassFile.FieldType) [] r4 F4 :=
  says_fn hsg (plainFor_of_name (by first | (simp [plainName, overriddenIn]; done) | decide +kernel)) fun p e s m args below meth c hx hby hml hZ hown hnm => ag_cons (okCtor (cl := 0) (W := 6) hx hZ (says5 l hsg hw) rfl hown (hw _ (List.mem_of_getElem? (i := 19) rfl)) (hw _ (List.mem_of_getElem? (i := 20) rfl)) (hw _ (List.mem_of_getElem? (i := 22) rfl)) (hw _ (List.mem_of_getElem? (i := 23) rfl)) (by decide) (by decide +kernel : parseMethodDescriptor "()V" = some ⟨[], none⟩) rfl (by decide) (by decide) (by decide) (by decide)) <| ag_cons (okPut hx hZ hsg (kok hw) hown (host := "") (Or.inl (hw _ (List.mem_of_getElem? (i := 27) rfl))) Via.refl (cn := 0) (j := 0) rfl rfl (by decide +kernel) (Or.inr ⟨(hw _ (List.mem_of_getElem? (i := 28) rfl)), rfl, hnm⟩)) <| ag_cons (okPut hx hZ hsg (kok hw) hown (host := "") (Or.inl (hw _ (List.mem_of_getElem? (i := 29) rfl))) Via.refl (cn := 0) (j := 1) rfl rfl (by decide +kernel) (Or.inr ⟨(hw _ (List.mem_of_getElem? (i := 30) rfl)), rfl, hnm⟩)) <| ag_cons (okPut hx hZ hsg (kok hw) hown (host := "") (Or.inl (hw _ (List.mem_of_getElem? (i := 31) rfl))) Via.refl (cn := 0) (j := 2) rfl rfl (by decide +kernel) (Or.inr ⟨(hw _ (List.mem_of_getElem? (i := 32) rfl)), rfl, hnm⟩)) <| ag_cons (okPut hx hZ hsg (kok hw) hown (host := "") (Or.inl (hw _ (List.mem_of_getElem? (i := 33) rfl))) Via.refl (cn := 0) (j := 3) rfl rfl (by decide +kernel) (Or.inr ⟨(hw _ (List.mem_of_getElem? (i := 34) rfl)), rfl, hnm⟩)) <| ag_cons (okPut hx hZ hsg (kok hw) hown (host := "") (Or.inl (hw _ (List.mem_of_getElem? (i := 35) rfl))) Via.refl (cn := 0) (j := 4) rfl rfl (by decide +kernel) (Or.inr ⟨(hw _ (List.mem_of_getElem? (i := 36) rfl)), rfl, hnm⟩)) <| ag_nil
/-! body 6: Dirt.ratio()D -/
def E6 : List (Nat × Nat × Act) := [(3, 16, aGet 0 2), (3, 13, aGet 0 1)]
def F6 : List Value → AH → Option ORes := fn prog_2_method_2_code 1 (Option.some Jvm.ClassFile.FieldType.double) E6 0 70
def r6 : Room := { frames := 0, cells := 0, slots := 0, locals := 0 }
theorem says6 (l : Launch) {Z : State} {a0 : Array Value} {σ : Nat → Nat} {n0 : Nat} (hsg : Sg σ 0 n0) (hw : ∀ d ∈ tables_1, d.before a0 Z = true) : Says l Z σ 0 n0 K (⟨"com/example/keeplast/keeplast/Dirt", "ratio", "()D"⟩ : MethodName) prog_2_method_2_code 1 (Option.some Jvm.ClassFile.FieldType.double) [] r6 F6 :=
  says_fn hsg (plainFor_of_name (by first | (simp [plainName, overriddenIn]; done) | decide +kernel)) fun p e s m args below meth c hx hby hml hZ hown hnm => ag_cons (okGet hx hZ hown (host := "") (Or.inl (hw _ (List.mem_of_getElem? (i := 31) rfl))) Via.refl (cn := 0) (j := 2) rfl rfl) <| ag_cons (okGet hx hZ hown (host := "") (Or.inl (hw _ (List.mem_of_getElem? (i := 29) rfl))) Via.refl (cn := 0) (j := 1) rfl rfl) <| ag_nil
/-! body 3: DirtRatioPinLaw.ratio(JJZ)D -/
def E3 : List (Nat × Nat × Act) := [(6, 7, aNew 0 5 1 5 [(.long 0), (.long 0), (.long 0), (.int 0), .null]), (2, 9, aJ (7)), (8, 11, aRecv 5 0 6 1 5 0 0 F4), (9, 14, aRecv 0 0 6 1 5 0 0 F6)]
def F3 : List Value → AH → Option ORes := fn method_2_code 5 (Option.some Jvm.ClassFile.FieldType.double) E3 0 60
def r3 : Room := { frames := 3, cells := 1, slots := 5, locals := 62 }
theorem says3 (l : Launch) {Z : State} {a0 : Array Value} {σ : Nat → Nat} {n0 : Nat} (hsg : Sg σ 0 n0) (hw : ∀ d ∈ tables_1, d.before a0 Z = true) : Says l Z σ 0 n0 K (⟨"com/example/keeplast/keeplast/DirtRatioPinLaw", "ratio", "(JJZ)D"⟩ : MethodName) method_2_code 5 (Option.some Jvm.ClassFile.FieldType.double) [] r3 F3 :=
  says_fn hsg (plainFor_of_name (by first | (simp [plainName, overriddenIn]; done) | decide +kernel)) fun p e s m args below meth c hx hby hml hZ hown hnm => ag_cons (okNew hx hZ hsg (kok hw) hown (hw _ (List.mem_of_getElem? (i := 12) rfl)) (hw _ (List.mem_of_getElem? (i := 13) rfl)) (hw _ (List.mem_of_getElem? (i := 14) rfl)) (cn := 0) rfl (by decide +kernel) (by decide) (by decide)) <| ag_cons (okJ hx hZ hown (hw _ (List.mem_of_getElem? (i := 15) rfl))) <| ag_cons (okCtor (cl := 0) (W := 6) hx hZ (says4 l hsg hw) rfl hown (hw _ (List.mem_of_getElem? (i := 16) rfl)) (hw _ (List.mem_of_getElem? (i := 17) rfl)) (hw _ (List.mem_of_getElem? (i := 14) rfl)) (hw _ (List.mem_of_getElem? (i := 18) rfl)) (by decide) (by decide +kernel : parseMethodDescriptor "(JJJZLcom/example/keeplast/keeplast/Dirt$Prefix;)V" = some ⟨[.long, .long, .long, .boolean, (.object "com/example/keeplast/keeplast/Dirt$Prefix")], none⟩) rfl (by decide) (by decide) (by decide) (by decide)) <| ag_cons (okVirt (cl := 0) (W := 6) hx hZ (says6 l hsg hw) rfl hown (hw _ (List.mem_of_getElem? (i := 37) rfl)) (hw _ (List.mem_of_getElem? (i := 38) rfl)) (hw _ (List.mem_of_getElem? (i := 40) rfl)) (hw _ (List.mem_of_getElem? (i := 39) rfl)) (hw _ (List.mem_of_getElem? (i := 14) rfl)) (hw _ (List.mem_of_getElem? (i := 41) rfl)) (fun _ _ h => notFace_of_selects h) (by decide) (by decide +kernel : parseMethodDescriptor "()D" = some ⟨[], some .double⟩) rfl (by decide) (by decide) (by decide) (by decide)) <| ag_nil
/-! body 1: Math.min(JJ)J -/
def E1 : List (Nat × Nat × Act) := []
def F1 : List Value → AH → Option ORes := fn jdk_29_method_70_code 4 (Option.some Jvm.ClassFile.FieldType.long) E1 0 56
def r1 : Room := { frames := 0, cells := 0, slots := 0, locals := 0 }
theorem says1 (l : Launch) {Z : State} {a0 : Array Value} {σ : Nat → Nat} {n0 : Nat} (hsg : Sg σ 0 n0) (hw : ∀ d ∈ tables_1, d.before a0 Z = true) : Says l Z σ 0 n0 K (⟨"java/lang/Math", "min", "(JJ)J"⟩ : MethodName) jdk_29_method_70_code 4 (Option.some Jvm.ClassFile.FieldType.long) [] r1 F1 :=
  says_fn hsg (Jvm.Free.JP.mathPlain rfl (by decide +kernel)) fun p e s m args below meth c hx hby hml hZ hown hnm => ag_nil
/-! body 2: Math.max(JJ)J -/
def E2 : List (Nat × Nat × Act) := []
def F2 : List Value → AH → Option ORes := fn jdk_29_method_66_code 4 (Option.some Jvm.ClassFile.FieldType.long) E2 0 56
def r2 : Room := { frames := 0, cells := 0, slots := 0, locals := 0 }
theorem says2 (l : Launch) {Z : State} {a0 : Array Value} {σ : Nat → Nat} {n0 : Nat} (hsg : Sg σ 0 n0) (hw : ∀ d ∈ tables_1, d.before a0 Z = true) : Says l Z σ 0 n0 K (⟨"java/lang/Math", "max", "(JJ)J"⟩ : MethodName) jdk_29_method_66_code 4 (Option.some Jvm.ClassFile.FieldType.long) [] r2 F2 :=
  says_fn hsg (Jvm.Free.JP.mathPlain rfl (by decide +kernel)) fun p e s m args below meth c hx hby hml hZ hown hnm => ag_nil
/-! body 0: DirtRatioPinLaw.law(JJJI)Z -/
def E0 : List (Nat × Nat × Act) := [(2, 20, aJ (9223372036854775807)), (7, 22, aCall 3 6 24 128 1 5 F3), (7, 27, aCall 2 6 24 128 0 0 F1), (7, 33, aCall 2 6 24 128 0 0 F2), (2, 36, aJ (9007199254740992)), (2, 38, aJ (4611686018427387903)), (2, 40, aJ (2)), (2, 42, aD (4602678819172646912))]
def F0 : List Value → AH → Option ORes := fn code maxLocals ret E0 0 300
theorem says0 (l : Launch) {Z : State} {a0 : Array Value} {σ : Nat → Nat} {n0 : Nat} (hsg : Sg σ 0 n0) (hw : ∀ d ∈ tables_1, d.before a0 Z = true) : Says l Z σ 0 n0 K x code maxLocals ret tables_1 room_1 F0 :=
  says_fn hsg (plainFor_of_name (by first | (simp [x, plainName, overriddenIn]; done) | decide +kernel)) fun p e s m args below meth c hx hby hml hZ hown hnm => ag_cons (okJ hx hZ hown (hw _ (List.mem_of_getElem? (i := 0) rfl))) <| ag_cons (okStat (W := 6) hx hZ (says3 l hsg hw) hown (hw _ (List.mem_of_getElem? (i := 8) rfl)) (hw _ (List.mem_of_getElem? (i := 9) rfl)) (hw _ (List.mem_of_getElem? (i := 10) rfl)) (hw _ (List.mem_of_getElem? (i := 11) rfl)) (by decide) (by decide +kernel : parseMethodDescriptor "(JJZ)D" = some ⟨[.long, .long, .boolean], some .double⟩) rfl (by decide) (by decide) (by decide) (by decide)) <| ag_cons (okStat (W := 6) hx hZ (says1 l hsg hw) hown (hw _ (List.mem_of_getElem? (i := 1) rfl)) (hw _ (List.mem_of_getElem? (i := 2) rfl)) (hw _ (List.mem_of_getElem? (i := 3) rfl)) (hw _ (List.mem_of_getElem? (i := 4) rfl)) (by decide) (by decide +kernel : parseMethodDescriptor "(JJ)J" = some ⟨[.long, .long], some .long⟩) rfl (by decide) (by decide) (by decide) (by decide)) <| ag_cons (okStat (W := 6) hx hZ (says2 l hsg hw) hown (hw _ (List.mem_of_getElem? (i := 5) rfl)) (hw _ (List.mem_of_getElem? (i := 6) rfl)) (hw _ (List.mem_of_getElem? (i := 3) rfl)) (hw _ (List.mem_of_getElem? (i := 7) rfl)) (by decide) (by decide +kernel : parseMethodDescriptor "(JJ)J" = some ⟨[.long, .long], some .long⟩) rfl (by decide) (by decide) (by decide) (by decide)) <| ag_cons (okJ hx hZ hown (hw _ (List.mem_of_getElem? (i := 42) rfl))) <| ag_cons (okJ hx hZ hown (hw _ (List.mem_of_getElem? (i := 43) rfl))) <| ag_cons (okJ hx hZ hown (hw _ (List.mem_of_getElem? (i := 44) rfl))) <| ag_cons (okD hx hZ hown (hw _ (List.mem_of_getElem? (i := 45) rfl))) <| ag_nil
theorem f5_in {x0 : Nat} {H : AH} : F5 [.ref x0] H = orun jdk_30_method_1_code (Option.none : Option Jvm.ClassFile.FieldType) E5 0 46 (0, [.val (.ref x0)], [], H, 0, 0) := rfl
theorem s5_0 {n cs ss : Nat} {L : List Slot} {S : List Value} {H : AH} : orun jdk_30_method_1_code (Option.none : Option Jvm.ClassFile.FieldType) E5 0 (n + 1) (0, L, S, H, cs, ss) = (gA L 0).bind fun v => orun jdk_30_method_1_code (Option.none : Option Jvm.ClassFile.FieldType) E5 0 n (1, L, v :: S, H, cs, ss) := s_any k5_0
theorem s5_1 {n cs ss : Nat} {L : List Slot} {S : List Value} {H : AH} : orun jdk_30_method_1_code (Option.none : Option Jvm.ClassFile.FieldType) E5 0 (n + 1) (1, L, S, H, cs, ss) = (aObj 6 S H cs ss).bind fun r => orun jdk_30_method_1_code (Option.none : Option Jvm.ClassFile.FieldType) E5 0 n (4, L, r.1, r.2.1, r.2.2.1, r.2.2.2) := s_any k5_1
theorem s5_4 {n cs ss : Nat} {L : List Slot} {S : List Value} {H : AH} : orun jdk_30_method_1_code (Option.none : Option Jvm.ClassFile.FieldType) E5 0 (n + 1) (4, L, S, H, cs, ss) = rV none S H := s_any k5_4
theorem t5_0 {go : Nat → St → Option ORes} (hgo : go = orun jdk_30_method_1_code (Option.none : Option Jvm.ClassFile.FieldType) E5 0) {n cs ss : Nat} {S : List Value} {H : AH} {q : Option ORes → Prop} {v : Value} (hv : isA v = true) (h : Rsq (go n (1, [.val v], (v :: S), H, cs, ss)) q) : Rsq (go (n + 1) (0, [.val v], S, H, cs, ss)) q := by
  subst hgo
  refine res_of s5_0 ?_
  rw [gA_isA (L := [.val v]) (k := 0) (v := v) rfl hv]
  exact h
theorem u5_1 {go : Nat → St → Option ORes} (hgo : go = orun jdk_30_method_1_code (Option.none : Option Jvm.ClassFile.FieldType) E5 0) {n cs ss : Nat} {L : List Slot} {S : List Value} {H : AH} : go (n + 1) (1, L, S, H, cs, ss) = (aObj 6 S H cs ss).bind fun r => go n (4, L, r.1, r.2.1, r.2.2.1, r.2.2.2) := by
  subst hgo
  exact s5_1
theorem t5_4 {go : Nat → St → Option ORes} (hgo : go = orun jdk_30_method_1_code (Option.none : Option Jvm.ClassFile.FieldType) E5 0) {n cs ss : Nat} {L : List Slot} {H : AH} {q : Option ORes → Prop} (h : q (some (none, H))) : Rsq (go (n + 1) (4, L, [], H, cs, ss)) q := by
  subst hgo
  exact res_of s5_4 h
theorem f4_in {x0 : Nat} {x1 : Int64} {x2 : Int64} {x3 : Int64} {x4 : Int32} {x5 : Nat} {H : AH} : F4 [.ref x0, .long x1, .long x2, .long x3, .int x4, .ref x5] H = orun prog_2_method_1_code (Option.none : Option Jvm.ClassFile.FieldType) E4 0 76 (0, [.val (.ref x0), .val (.long x1), .second, .val (.long x2), .second, .val (.long x3), .second, .val (.int x4), .val (.ref x5)], [], H, 0, 0) := rfl
theorem f4_inn {x0 : Nat} {x1 : Int64} {x2 : Int64} {x3 : Int64} {x4 : Int32} {H : AH} : F4 [.ref x0, .long x1, .long x2, .long x3, .int x4, .null] H = orun prog_2_method_1_code (Option.none : Option Jvm.ClassFile.FieldType) E4 0 76 (0, [.val (.ref x0), .val (.long x1), .second, .val (.long x2), .second, .val (.long x3), .second, .val (.int x4), .val .null], [], H, 0, 0) := rfl
theorem s4_0 {n cs ss : Nat} {L : List Slot} {S : List Value} {H : AH} : orun prog_2_method_1_code (Option.none : Option Jvm.ClassFile.FieldType) E4 0 (n + 1) (0, L, S, H, cs, ss) = (gA L 0).bind fun v => orun prog_2_method_1_code (Option.none : Option Jvm.ClassFile.FieldType) E4 0 n (1, L, v :: S, H, cs, ss) := s_any k4_0
theorem s4_1 {n cs ss : Nat} {L : List Slot} {S : List Value} {H : AH} : orun prog_2_method_1_code (Option.none : Option Jvm.ClassFile.FieldType) E4 0 (n + 1) (1, L, S, H, cs, ss) = (aRecv 0 0 6 0 0 0 0 F5 S H cs ss).bind fun r => orun prog_2_method_1_code (Option.none : Option Jvm.ClassFile.FieldType) E4 0 n (4, L, r.1, r.2.1, r.2.2.1, r.2.2.2) := s_any k4_1
theorem s4_4 {n cs ss : Nat} {L : List Slot} {S : List Value} {H : AH} : orun prog_2_method_1_code (Option.none : Option Jvm.ClassFile.FieldType) E4 0 (n + 1) (4, L, S, H, cs, ss) = (gA L 0).bind fun v => orun prog_2_method_1_code (Option.none : Option Jvm.ClassFile.FieldType) E4 0 n (5, L, v :: S, H, cs, ss) := s_any k4_4
theorem s4_5 {n cs ss : Nat} {L : List Slot} {S : List Value} {H : AH} : orun prog_2_method_1_code (Option.none : Option Jvm.ClassFile.FieldType) E4 0 (n + 1) (5, L, S, H, cs, ss) = (gL L 1).bind fun v => orun prog_2_method_1_code (Option.none : Option Jvm.ClassFile.FieldType) E4 0 n (6, L, .long v :: S, H, cs, ss) := s_any k4_5
theorem s4_6 {n cs ss : Nat} {L : List Slot} {S : List Value} {H : AH} : orun prog_2_method_1_code (Option.none : Option Jvm.ClassFile.FieldType) E4 0 (n + 1) (6, L, S, H, cs, ss) = (aPut 0 0 0 .long S H cs ss).bind fun r => orun prog_2_method_1_code (Option.none : Option Jvm.ClassFile.FieldType) E4 0 n (9, L, r.1, r.2.1, r.2.2.1, r.2.2.2) := s_any k4_6
theorem s4_9 {n cs ss : Nat} {L : List Slot} {S : List Value} {H : AH} : orun prog_2_method_1_code (Option.none : Option Jvm.ClassFile.FieldType) E4 0 (n + 1) (9, L, S, H, cs, ss) = (gA L 0).bind fun v => orun prog_2_method_1_code (Option.none : Option Jvm.ClassFile.FieldType) E4 0 n (10, L, v :: S, H, cs, ss) := s_any k4_9
theorem s4_10 {n cs ss : Nat} {L : List Slot} {S : List Value} {H : AH} : orun prog_2_method_1_code (Option.none : Option Jvm.ClassFile.FieldType) E4 0 (n + 1) (10, L, S, H, cs, ss) = (gL L 3).bind fun v => orun prog_2_method_1_code (Option.none : Option Jvm.ClassFile.FieldType) E4 0 n (11, L, .long v :: S, H, cs, ss) := s_any k4_10
theorem s4_11 {n cs ss : Nat} {L : List Slot} {S : List Value} {H : AH} : orun prog_2_method_1_code (Option.none : Option Jvm.ClassFile.FieldType) E4 0 (n + 1) (11, L, S, H, cs, ss) = (aPut 0 0 1 .long S H cs ss).bind fun r => orun prog_2_method_1_code (Option.none : Option Jvm.ClassFile.FieldType) E4 0 n (14, L, r.1, r.2.1, r.2.2.1, r.2.2.2) := s_any k4_11
theorem s4_14 {n cs ss : Nat} {L : List Slot} {S : List Value} {H : AH} : orun prog_2_method_1_code (Option.none : Option Jvm.ClassFile.FieldType) E4 0 (n + 1) (14, L, S, H, cs, ss) = (gA L 0).bind fun v => orun prog_2_method_1_code (Option.none : Option Jvm.ClassFile.FieldType) E4 0 n (15, L, v :: S, H, cs, ss) := s_any k4_14
theorem s4_15 {n cs ss : Nat} {L : List Slot} {S : List Value} {H : AH} : orun prog_2_method_1_code (Option.none : Option Jvm.ClassFile.FieldType) E4 0 (n + 1) (15, L, S, H, cs, ss) = (gL L 5).bind fun v => orun prog_2_method_1_code (Option.none : Option Jvm.ClassFile.FieldType) E4 0 n (17, L, .long v :: S, H, cs, ss) := s_any k4_15
theorem s4_17 {n cs ss : Nat} {L : List Slot} {S : List Value} {H : AH} : orun prog_2_method_1_code (Option.none : Option Jvm.ClassFile.FieldType) E4 0 (n + 1) (17, L, S, H, cs, ss) = (aPut 0 0 2 .long S H cs ss).bind fun r => orun prog_2_method_1_code (Option.none : Option Jvm.ClassFile.FieldType) E4 0 n (20, L, r.1, r.2.1, r.2.2.1, r.2.2.2) := s_any k4_17
theorem s4_20 {n cs ss : Nat} {L : List Slot} {S : List Value} {H : AH} : orun prog_2_method_1_code (Option.none : Option Jvm.ClassFile.FieldType) E4 0 (n + 1) (20, L, S, H, cs, ss) = (gA L 0).bind fun v => orun prog_2_method_1_code (Option.none : Option Jvm.ClassFile.FieldType) E4 0 n (21, L, v :: S, H, cs, ss) := s_any k4_20
theorem s4_21 {n cs ss : Nat} {L : List Slot} {S : List Value} {H : AH} : orun prog_2_method_1_code (Option.none : Option Jvm.ClassFile.FieldType) E4 0 (n + 1) (21, L, S, H, cs, ss) = (gI L 7).bind fun v => orun prog_2_method_1_code (Option.none : Option Jvm.ClassFile.FieldType) E4 0 n (23, L, .int v :: S, H, cs, ss) := s_any k4_21
theorem s4_23 {n cs ss : Nat} {L : List Slot} {S : List Value} {H : AH} : orun prog_2_method_1_code (Option.none : Option Jvm.ClassFile.FieldType) E4 0 (n + 1) (23, L, S, H, cs, ss) = (aPut 0 0 3 .boolean S H cs ss).bind fun r => orun prog_2_method_1_code (Option.none : Option Jvm.ClassFile.FieldType) E4 0 n (26, L, r.1, r.2.1, r.2.2.1, r.2.2.2) := s_any k4_23
theorem s4_26 {n cs ss : Nat} {L : List Slot} {S : List Value} {H : AH} : orun prog_2_method_1_code (Option.none : Option Jvm.ClassFile.FieldType) E4 0 (n + 1) (26, L, S, H, cs, ss) = (gA L 0).bind fun v => orun prog_2_method_1_code (Option.none : Option Jvm.ClassFile.FieldType) E4 0 n (27, L, v :: S, H, cs, ss) := s_any k4_26
theorem s4_27 {n cs ss : Nat} {L : List Slot} {S : List Value} {H : AH} : orun prog_2_method_1_code (Option.none : Option Jvm.ClassFile.FieldType) E4 0 (n + 1) (27, L, S, H, cs, ss) = (gA L 8).bind fun v => orun prog_2_method_1_code (Option.none : Option Jvm.ClassFile.FieldType) E4 0 n (29, L, v :: S, H, cs, ss) := s_any k4_27
theorem s4_29 {n cs ss : Nat} {L : List Slot} {S : List Value} {H : AH} : orun prog_2_method_1_code (Option.none : Option Jvm.ClassFile.FieldType) E4 0 (n + 1) (29, L, S, H, cs, ss) = (aPut 0 0 4 (.object "com/example/keeplast/keeplast/Dirt$Prefix") S H cs ss).bind fun r => orun prog_2_method_1_code (Option.none : Option Jvm.ClassFile.FieldType) E4 0 n (32, L, r.1, r.2.1, r.2.2.1, r.2.2.2) := s_any k4_29
theorem s4_32 {n cs ss : Nat} {L : List Slot} {S : List Value} {H : AH} : orun prog_2_method_1_code (Option.none : Option Jvm.ClassFile.FieldType) E4 0 (n + 1) (32, L, S, H, cs, ss) = rV none S H := s_any k4_32
theorem t4_0 {go : Nat → St → Option ORes} (hgo : go = orun prog_2_method_1_code (Option.none : Option Jvm.ClassFile.FieldType) E4 0) {n cs ss : Nat} {l1 l2 l3 l4 l5 l6 l7 l8 : Slot} {S : List Value} {H : AH} {q : Option ORes → Prop} {v : Value} (hv : isA v = true) (h : Rsq (go n (1, [.val v, l1, l2, l3, l4, l5, l6, l7, l8], (v :: S), H, cs, ss)) q) : Rsq (go (n + 1) (0, [.val v, l1, l2, l3, l4, l5, l6, l7, l8], S, H, cs, ss)) q := by
  subst hgo
  refine res_of s4_0 ?_
  rw [gA_isA (L := [.val v, l1, l2, l3, l4, l5, l6, l7, l8]) (k := 0) (v := v) rfl hv]
  exact h
theorem u4_1 {go : Nat → St → Option ORes} (hgo : go = orun prog_2_method_1_code (Option.none : Option Jvm.ClassFile.FieldType) E4 0) {n cs ss : Nat} {L : List Slot} {S : List Value} {H : AH} : go (n + 1) (1, L, S, H, cs, ss) = (aRecv 0 0 6 0 0 0 0 F5 S H cs ss).bind fun r => go n (4, L, r.1, r.2.1, r.2.2.1, r.2.2.2) := by
  subst hgo
  exact s4_1
theorem t4_4 {go : Nat → St → Option ORes} (hgo : go = orun prog_2_method_1_code (Option.none : Option Jvm.ClassFile.FieldType) E4 0) {n cs ss : Nat} {l1 l2 l3 l4 l5 l6 l7 l8 : Slot} {S : List Value} {H : AH} {q : Option ORes → Prop} {v : Value} (hv : isA v = true) (h : Rsq (go n (5, [.val v, l1, l2, l3, l4, l5, l6, l7, l8], (v :: S), H, cs, ss)) q) : Rsq (go (n + 1) (4, [.val v, l1, l2, l3, l4, l5, l6, l7, l8], S, H, cs, ss)) q := by
  subst hgo
  refine res_of s4_4 ?_
  rw [gA_isA (L := [.val v, l1, l2, l3, l4, l5, l6, l7, l8]) (k := 0) (v := v) rfl hv]
  exact h
theorem t4_5 {go : Nat → St → Option ORes} (hgo : go = orun prog_2_method_1_code (Option.none : Option Jvm.ClassFile.FieldType) E4 0) {n cs ss : Nat} {l0 l2 l3 l4 l5 l6 l7 l8 : Slot} {S : List Value} {H : AH} {q : Option ORes → Prop} {v : Int64} (h : Rsq (go n (6, [l0, .val (.long v), l2, l3, l4, l5, l6, l7, l8], (.long v :: S), H, cs, ss)) q) : Rsq (go (n + 1) (5, [l0, .val (.long v), l2, l3, l4, l5, l6, l7, l8], S, H, cs, ss)) q := by
  subst hgo
  exact res_of s4_5 h
theorem u4_6 {go : Nat → St → Option ORes} (hgo : go = orun prog_2_method_1_code (Option.none : Option Jvm.ClassFile.FieldType) E4 0) {n cs ss : Nat} {L : List Slot} {S : List Value} {H : AH} : go (n + 1) (6, L, S, H, cs, ss) = (aPut 0 0 0 .long S H cs ss).bind fun r => go n (9, L, r.1, r.2.1, r.2.2.1, r.2.2.2) := by
  subst hgo
  exact s4_6
theorem t4_9 {go : Nat → St → Option ORes} (hgo : go = orun prog_2_method_1_code (Option.none : Option Jvm.ClassFile.FieldType) E4 0) {n cs ss : Nat} {l1 l2 l3 l4 l5 l6 l7 l8 : Slot} {S : List Value} {H : AH} {q : Option ORes → Prop} {v : Value} (hv : isA v = true) (h : Rsq (go n (10, [.val v, l1, l2, l3, l4, l5, l6, l7, l8], (v :: S), H, cs, ss)) q) : Rsq (go (n + 1) (9, [.val v, l1, l2, l3, l4, l5, l6, l7, l8], S, H, cs, ss)) q := by
  subst hgo
  refine res_of s4_9 ?_
  rw [gA_isA (L := [.val v, l1, l2, l3, l4, l5, l6, l7, l8]) (k := 0) (v := v) rfl hv]
  exact h
theorem t4_10 {go : Nat → St → Option ORes} (hgo : go = orun prog_2_method_1_code (Option.none : Option Jvm.ClassFile.FieldType) E4 0) {n cs ss : Nat} {l0 l1 l2 l4 l5 l6 l7 l8 : Slot} {S : List Value} {H : AH} {q : Option ORes → Prop} {v : Int64} (h : Rsq (go n (11, [l0, l1, l2, .val (.long v), l4, l5, l6, l7, l8], (.long v :: S), H, cs, ss)) q) : Rsq (go (n + 1) (10, [l0, l1, l2, .val (.long v), l4, l5, l6, l7, l8], S, H, cs, ss)) q := by
  subst hgo
  exact res_of s4_10 h
theorem u4_11 {go : Nat → St → Option ORes} (hgo : go = orun prog_2_method_1_code (Option.none : Option Jvm.ClassFile.FieldType) E4 0) {n cs ss : Nat} {L : List Slot} {S : List Value} {H : AH} : go (n + 1) (11, L, S, H, cs, ss) = (aPut 0 0 1 .long S H cs ss).bind fun r => go n (14, L, r.1, r.2.1, r.2.2.1, r.2.2.2) := by
  subst hgo
  exact s4_11
theorem t4_14 {go : Nat → St → Option ORes} (hgo : go = orun prog_2_method_1_code (Option.none : Option Jvm.ClassFile.FieldType) E4 0) {n cs ss : Nat} {l1 l2 l3 l4 l5 l6 l7 l8 : Slot} {S : List Value} {H : AH} {q : Option ORes → Prop} {v : Value} (hv : isA v = true) (h : Rsq (go n (15, [.val v, l1, l2, l3, l4, l5, l6, l7, l8], (v :: S), H, cs, ss)) q) : Rsq (go (n + 1) (14, [.val v, l1, l2, l3, l4, l5, l6, l7, l8], S, H, cs, ss)) q := by
  subst hgo
  refine res_of s4_14 ?_
  rw [gA_isA (L := [.val v, l1, l2, l3, l4, l5, l6, l7, l8]) (k := 0) (v := v) rfl hv]
  exact h
theorem t4_15 {go : Nat → St → Option ORes} (hgo : go = orun prog_2_method_1_code (Option.none : Option Jvm.ClassFile.FieldType) E4 0) {n cs ss : Nat} {l0 l1 l2 l3 l4 l6 l7 l8 : Slot} {S : List Value} {H : AH} {q : Option ORes → Prop} {v : Int64} (h : Rsq (go n (17, [l0, l1, l2, l3, l4, .val (.long v), l6, l7, l8], (.long v :: S), H, cs, ss)) q) : Rsq (go (n + 1) (15, [l0, l1, l2, l3, l4, .val (.long v), l6, l7, l8], S, H, cs, ss)) q := by
  subst hgo
  exact res_of s4_15 h
theorem u4_17 {go : Nat → St → Option ORes} (hgo : go = orun prog_2_method_1_code (Option.none : Option Jvm.ClassFile.FieldType) E4 0) {n cs ss : Nat} {L : List Slot} {S : List Value} {H : AH} : go (n + 1) (17, L, S, H, cs, ss) = (aPut 0 0 2 .long S H cs ss).bind fun r => go n (20, L, r.1, r.2.1, r.2.2.1, r.2.2.2) := by
  subst hgo
  exact s4_17
theorem t4_20 {go : Nat → St → Option ORes} (hgo : go = orun prog_2_method_1_code (Option.none : Option Jvm.ClassFile.FieldType) E4 0) {n cs ss : Nat} {l1 l2 l3 l4 l5 l6 l7 l8 : Slot} {S : List Value} {H : AH} {q : Option ORes → Prop} {v : Value} (hv : isA v = true) (h : Rsq (go n (21, [.val v, l1, l2, l3, l4, l5, l6, l7, l8], (v :: S), H, cs, ss)) q) : Rsq (go (n + 1) (20, [.val v, l1, l2, l3, l4, l5, l6, l7, l8], S, H, cs, ss)) q := by
  subst hgo
  refine res_of s4_20 ?_
  rw [gA_isA (L := [.val v, l1, l2, l3, l4, l5, l6, l7, l8]) (k := 0) (v := v) rfl hv]
  exact h
theorem t4_21 {go : Nat → St → Option ORes} (hgo : go = orun prog_2_method_1_code (Option.none : Option Jvm.ClassFile.FieldType) E4 0) {n cs ss : Nat} {l0 l1 l2 l3 l4 l5 l6 l8 : Slot} {S : List Value} {H : AH} {q : Option ORes → Prop} {v : Int32} (h : Rsq (go n (23, [l0, l1, l2, l3, l4, l5, l6, .val (.int v), l8], (.int v :: S), H, cs, ss)) q) : Rsq (go (n + 1) (21, [l0, l1, l2, l3, l4, l5, l6, .val (.int v), l8], S, H, cs, ss)) q := by
  subst hgo
  exact res_of s4_21 h
theorem u4_23 {go : Nat → St → Option ORes} (hgo : go = orun prog_2_method_1_code (Option.none : Option Jvm.ClassFile.FieldType) E4 0) {n cs ss : Nat} {L : List Slot} {S : List Value} {H : AH} : go (n + 1) (23, L, S, H, cs, ss) = (aPut 0 0 3 .boolean S H cs ss).bind fun r => go n (26, L, r.1, r.2.1, r.2.2.1, r.2.2.2) := by
  subst hgo
  exact s4_23
theorem t4_26 {go : Nat → St → Option ORes} (hgo : go = orun prog_2_method_1_code (Option.none : Option Jvm.ClassFile.FieldType) E4 0) {n cs ss : Nat} {l1 l2 l3 l4 l5 l6 l7 l8 : Slot} {S : List Value} {H : AH} {q : Option ORes → Prop} {v : Value} (hv : isA v = true) (h : Rsq (go n (27, [.val v, l1, l2, l3, l4, l5, l6, l7, l8], (v :: S), H, cs, ss)) q) : Rsq (go (n + 1) (26, [.val v, l1, l2, l3, l4, l5, l6, l7, l8], S, H, cs, ss)) q := by
  subst hgo
  refine res_of s4_26 ?_
  rw [gA_isA (L := [.val v, l1, l2, l3, l4, l5, l6, l7, l8]) (k := 0) (v := v) rfl hv]
  exact h
theorem t4_27 {go : Nat → St → Option ORes} (hgo : go = orun prog_2_method_1_code (Option.none : Option Jvm.ClassFile.FieldType) E4 0) {n cs ss : Nat} {l0 l1 l2 l3 l4 l5 l6 l7 : Slot} {S : List Value} {H : AH} {q : Option ORes → Prop} {v : Value} (hv : isA v = true) (h : Rsq (go n (29, [l0, l1, l2, l3, l4, l5, l6, l7, .val v], (v :: S), H, cs, ss)) q) : Rsq (go (n + 1) (27, [l0, l1, l2, l3, l4, l5, l6, l7, .val v], S, H, cs, ss)) q := by
  subst hgo
  refine res_of s4_27 ?_
  rw [gA_isA (L := [l0, l1, l2, l3, l4, l5, l6, l7, .val v]) (k := 8) (v := v) rfl hv]
  exact h
theorem u4_29 {go : Nat → St → Option ORes} (hgo : go = orun prog_2_method_1_code (Option.none : Option Jvm.ClassFile.FieldType) E4 0) {n cs ss : Nat} {L : List Slot} {S : List Value} {H : AH} : go (n + 1) (29, L, S, H, cs, ss) = (aPut 0 0 4 (.object "com/example/keeplast/keeplast/Dirt$Prefix") S H cs ss).bind fun r => go n (32, L, r.1, r.2.1, r.2.2.1, r.2.2.2) := by
  subst hgo
  exact s4_29
theorem t4_32 {go : Nat → St → Option ORes} (hgo : go = orun prog_2_method_1_code (Option.none : Option Jvm.ClassFile.FieldType) E4 0) {n cs ss : Nat} {L : List Slot} {H : AH} {q : Option ORes → Prop} (h : q (some (none, H))) : Rsq (go (n + 1) (32, L, [], H, cs, ss)) q := by
  subst hgo
  exact res_of s4_32 h
theorem f6_in {x0 : Nat} {H : AH} : F6 [.ref x0] H = orun prog_2_method_2_code (Option.some Jvm.ClassFile.FieldType.double) E6 0 70 (0, [.val (.ref x0)], [], H, 0, 0) := rfl
theorem s6_0 {n cs ss : Nat} {L : List Slot} {S : List Value} {H : AH} : orun prog_2_method_2_code (Option.some Jvm.ClassFile.FieldType.double) E6 0 (n + 1) (0, L, S, H, cs, ss) = (gA L 0).bind fun v => orun prog_2_method_2_code (Option.some Jvm.ClassFile.FieldType.double) E6 0 n (1, L, v :: S, H, cs, ss) := s_any k6_0
theorem s6_1 {n cs ss : Nat} {L : List Slot} {S : List Value} {H : AH} : orun prog_2_method_2_code (Option.some Jvm.ClassFile.FieldType.double) E6 0 (n + 1) (1, L, S, H, cs, ss) = (aGet 0 2 S H cs ss).bind fun r => orun prog_2_method_2_code (Option.some Jvm.ClassFile.FieldType.double) E6 0 n (4, L, r.1, r.2.1, r.2.2.1, r.2.2.2) := s_any k6_1
theorem s6_4 {n cs ss : Nat} {L : List Slot} {S : List Value} {H : AH} : orun prog_2_method_2_code (Option.some Jvm.ClassFile.FieldType.double) E6 0 (n + 1) (4, L, S, H, cs, ss) = orun prog_2_method_2_code (Option.some Jvm.ClassFile.FieldType.double) E6 0 n (5, L, (.long 0 :: S), H, cs, ss) := s_any k6_4
theorem s6_5 {n cs ss : Nat} {L : List Slot} {S : List Value} {H : AH} : orun prog_2_method_2_code (Option.some Jvm.ClassFile.FieldType.double) E6 0 (n + 1) (5, L, S, H, cs, ss) = ex (Option.some Jvm.ClassFile.FieldType.double) E6 0 (orun prog_2_method_2_code (Option.some Jvm.ClassFile.FieldType.double) E6 0 n) (.lcmp) 5 L S H cs ss := s_any k6_5
theorem s6_6 {n cs ss : Nat} {L : List Slot} {S : List Value} {H : AH} : orun prog_2_method_2_code (Option.some Jvm.ClassFile.FieldType.double) E6 0 (n + 1) (6, L, S, H, cs, ss) = pI S fun x r => if x = 0 then orun prog_2_method_2_code (Option.some Jvm.ClassFile.FieldType.double) E6 0 n (9, L, r, H, cs, ss) else orun prog_2_method_2_code (Option.some Jvm.ClassFile.FieldType.double) E6 0 n (13, L, r, H, cs, ss) := s_ifN (Q := fun x => x = 0) (fun _ => z_ne) k6_6 (by decide) (by decide)
theorem s6_9 {n cs ss : Nat} {L : List Slot} {S : List Value} {H : AH} : orun prog_2_method_2_code (Option.some Jvm.ClassFile.FieldType.double) E6 0 (n + 1) (9, L, S, H, cs, ss) = orun prog_2_method_2_code (Option.some Jvm.ClassFile.FieldType.double) E6 0 n (10, L, (.double (dcv 0) :: S), H, cs, ss) := s_any k6_9
theorem s6_10 {n cs ss : Nat} {L : List Slot} {S : List Value} {H : AH} : orun prog_2_method_2_code (Option.some Jvm.ClassFile.FieldType.double) E6 0 (n + 1) (10, L, S, H, cs, ss) = orun prog_2_method_2_code (Option.some Jvm.ClassFile.FieldType.double) E6 0 n (24, L, S, H, cs, ss) := s_goto k6_10 (by decide) (by decide)
theorem s6_13 {n cs ss : Nat} {L : List Slot} {S : List Value} {H : AH} : orun prog_2_method_2_code (Option.some Jvm.ClassFile.FieldType.double) E6 0 (n + 1) (13, L, S, H, cs, ss) = (gA L 0).bind fun v => orun prog_2_method_2_code (Option.some Jvm.ClassFile.FieldType.double) E6 0 n (14, L, v :: S, H, cs, ss) := s_any k6_13
theorem s6_14 {n cs ss : Nat} {L : List Slot} {S : List Value} {H : AH} : orun prog_2_method_2_code (Option.some Jvm.ClassFile.FieldType.double) E6 0 (n + 1) (14, L, S, H, cs, ss) = (aGet 0 1 S H cs ss).bind fun r => orun prog_2_method_2_code (Option.some Jvm.ClassFile.FieldType.double) E6 0 n (17, L, r.1, r.2.1, r.2.2.1, r.2.2.2) := s_any k6_14
theorem s6_17 {n cs ss : Nat} {L : List Slot} {S : List Value} {H : AH} : orun prog_2_method_2_code (Option.some Jvm.ClassFile.FieldType.double) E6 0 (n + 1) (17, L, S, H, cs, ss) = pL S fun x r => orun prog_2_method_2_code (Option.some Jvm.ClassFile.FieldType.double) E6 0 n (18, L, .double (FP.l2d x) :: r, H, cs, ss) := s_any k6_17
theorem s6_18 {n cs ss : Nat} {L : List Slot} {S : List Value} {H : AH} : orun prog_2_method_2_code (Option.some Jvm.ClassFile.FieldType.double) E6 0 (n + 1) (18, L, S, H, cs, ss) = (gA L 0).bind fun v => orun prog_2_method_2_code (Option.some Jvm.ClassFile.FieldType.double) E6 0 n (19, L, v :: S, H, cs, ss) := s_any k6_18
theorem s6_19 {n cs ss : Nat} {L : List Slot} {S : List Value} {H : AH} : orun prog_2_method_2_code (Option.some Jvm.ClassFile.FieldType.double) E6 0 (n + 1) (19, L, S, H, cs, ss) = (aGet 0 2 S H cs ss).bind fun r => orun prog_2_method_2_code (Option.some Jvm.ClassFile.FieldType.double) E6 0 n (22, L, r.1, r.2.1, r.2.2.1, r.2.2.2) := s_any k6_19
theorem s6_22 {n cs ss : Nat} {L : List Slot} {S : List Value} {H : AH} : orun prog_2_method_2_code (Option.some Jvm.ClassFile.FieldType.double) E6 0 (n + 1) (22, L, S, H, cs, ss) = pL S fun x r => orun prog_2_method_2_code (Option.some Jvm.ClassFile.FieldType.double) E6 0 n (23, L, .double (FP.l2d x) :: r, H, cs, ss) := s_any k6_22
theorem s6_23 {n cs ss : Nat} {L : List Slot} {S : List Value} {H : AH} : orun prog_2_method_2_code (Option.some Jvm.ClassFile.FieldType.double) E6 0 (n + 1) (23, L, S, H, cs, ss) = pD S fun y S => pD S fun x r => if nNaN (FP.ddiv x y) = true then orun prog_2_method_2_code (Option.some Jvm.ClassFile.FieldType.double) E6 0 n (24, L, .double (FP.ddiv x y) :: r, H, cs, ss) else none := s_any k6_23
theorem s6_24 {n cs ss : Nat} {L : List Slot} {S : List Value} {H : AH} : orun prog_2_method_2_code (Option.some Jvm.ClassFile.FieldType.double) E6 0 (n + 1) (24, L, S, H, cs, ss) = pD S fun z _ => some (some (.double z), H) := s_any k6_24
theorem t6_0 {go : Nat → St → Option ORes} (hgo : go = orun prog_2_method_2_code (Option.some Jvm.ClassFile.FieldType.double) E6 0) {n cs ss : Nat} {S : List Value} {H : AH} {q : Option ORes → Prop} {v : Value} (hv : isA v = true) (h : Rsq (go n (1, [.val v], (v :: S), H, cs, ss)) q) : Rsq (go (n + 1) (0, [.val v], S, H, cs, ss)) q := by
  subst hgo
  refine res_of s6_0 ?_
  rw [gA_isA (L := [.val v]) (k := 0) (v := v) rfl hv]
  exact h
theorem u6_1 {go : Nat → St → Option ORes} (hgo : go = orun prog_2_method_2_code (Option.some Jvm.ClassFile.FieldType.double) E6 0) {n cs ss : Nat} {L : List Slot} {S : List Value} {H : AH} : go (n + 1) (1, L, S, H, cs, ss) = (aGet 0 2 S H cs ss).bind fun r => go n (4, L, r.1, r.2.1, r.2.2.1, r.2.2.2) := by
  subst hgo
  exact s6_1
theorem t6_4 {go : Nat → St → Option ORes} (hgo : go = orun prog_2_method_2_code (Option.some Jvm.ClassFile.FieldType.double) E6 0) {n cs ss : Nat} {L : List Slot} {S : List Value} {H : AH} {q : Option ORes → Prop} (h : Rsq (go n (5, L, (.long 0 :: S), H, cs, ss)) q) : Rsq (go (n + 1) (4, L, S, H, cs, ss)) q := by
  subst hgo
  exact res_of s6_4 h
theorem t6_5 {go : Nat → St → Option ORes} (hgo : go = orun prog_2_method_2_code (Option.some Jvm.ClassFile.FieldType.double) E6 0) {n cs ss : Nat} {L : List Slot} {S : List Value} {H : AH} {q : Option ORes → Prop} {x y : Int64} (h : Rsq (go n (6, L, (.int (lcmpW x y) :: S), H, cs, ss)) q) : Rsq (go (n + 1) (5, L, (.long y :: .long x :: S), H, cs, ss)) q := by
  subst hgo
  exact res_of s6_5 h
theorem t6_6t {go : Nat → St → Option ORes} (hgo : go = orun prog_2_method_2_code (Option.some Jvm.ClassFile.FieldType.double) E6 0) {n cs ss : Nat} {L : List Slot} {S : List Value} {H : AH} {q : Option ORes → Prop} {x : Int32} (hc : x = 0) (h : Rsq (go n (9, L, S, H, cs, ss)) q) : Rsq (go (n + 1) (6, L, (.int x :: S), H, cs, ss)) q := by
  subst hgo
  exact res_of s6_6 (res_t hc h)
theorem t6_6f {go : Nat → St → Option ORes} (hgo : go = orun prog_2_method_2_code (Option.some Jvm.ClassFile.FieldType.double) E6 0) {n cs ss : Nat} {L : List Slot} {S : List Value} {H : AH} {q : Option ORes → Prop} {x : Int32} (hc : ¬ x = 0) (h : Rsq (go n (13, L, S, H, cs, ss)) q) : Rsq (go (n + 1) (6, L, (.int x :: S), H, cs, ss)) q := by
  subst hgo
  exact res_of s6_6 (res_f hc h)
theorem t6_9 {go : Nat → St → Option ORes} (hgo : go = orun prog_2_method_2_code (Option.some Jvm.ClassFile.FieldType.double) E6 0) {n cs ss : Nat} {L : List Slot} {S : List Value} {H : AH} {q : Option ORes → Prop} (h : Rsq (go n (10, L, (.double (dcv 0) :: S), H, cs, ss)) q) : Rsq (go (n + 1) (9, L, S, H, cs, ss)) q := by
  subst hgo
  exact res_of s6_9 h
theorem t6_10 {go : Nat → St → Option ORes} (hgo : go = orun prog_2_method_2_code (Option.some Jvm.ClassFile.FieldType.double) E6 0) {n cs ss : Nat} {L : List Slot} {S : List Value} {H : AH} {q : Option ORes → Prop} (h : Rsq (go n (24, L, S, H, cs, ss)) q) : Rsq (go (n + 1) (10, L, S, H, cs, ss)) q := by
  subst hgo
  exact res_of s6_10 h
theorem t6_13 {go : Nat → St → Option ORes} (hgo : go = orun prog_2_method_2_code (Option.some Jvm.ClassFile.FieldType.double) E6 0) {n cs ss : Nat} {S : List Value} {H : AH} {q : Option ORes → Prop} {v : Value} (hv : isA v = true) (h : Rsq (go n (14, [.val v], (v :: S), H, cs, ss)) q) : Rsq (go (n + 1) (13, [.val v], S, H, cs, ss)) q := by
  subst hgo
  refine res_of s6_13 ?_
  rw [gA_isA (L := [.val v]) (k := 0) (v := v) rfl hv]
  exact h
theorem u6_14 {go : Nat → St → Option ORes} (hgo : go = orun prog_2_method_2_code (Option.some Jvm.ClassFile.FieldType.double) E6 0) {n cs ss : Nat} {L : List Slot} {S : List Value} {H : AH} : go (n + 1) (14, L, S, H, cs, ss) = (aGet 0 1 S H cs ss).bind fun r => go n (17, L, r.1, r.2.1, r.2.2.1, r.2.2.2) := by
  subst hgo
  exact s6_14
theorem t6_17 {go : Nat → St → Option ORes} (hgo : go = orun prog_2_method_2_code (Option.some Jvm.ClassFile.FieldType.double) E6 0) {n cs ss : Nat} {L : List Slot} {S : List Value} {H : AH} {q : Option ORes → Prop} {x : Int64} (h : Rsq (go n (18, L, (.double (FP.l2d x) :: S), H, cs, ss)) q) : Rsq (go (n + 1) (17, L, (.long x :: S), H, cs, ss)) q := by
  subst hgo
  exact res_of s6_17 h
theorem t6_18 {go : Nat → St → Option ORes} (hgo : go = orun prog_2_method_2_code (Option.some Jvm.ClassFile.FieldType.double) E6 0) {n cs ss : Nat} {S : List Value} {H : AH} {q : Option ORes → Prop} {v : Value} (hv : isA v = true) (h : Rsq (go n (19, [.val v], (v :: S), H, cs, ss)) q) : Rsq (go (n + 1) (18, [.val v], S, H, cs, ss)) q := by
  subst hgo
  refine res_of s6_18 ?_
  rw [gA_isA (L := [.val v]) (k := 0) (v := v) rfl hv]
  exact h
theorem u6_19 {go : Nat → St → Option ORes} (hgo : go = orun prog_2_method_2_code (Option.some Jvm.ClassFile.FieldType.double) E6 0) {n cs ss : Nat} {L : List Slot} {S : List Value} {H : AH} : go (n + 1) (19, L, S, H, cs, ss) = (aGet 0 2 S H cs ss).bind fun r => go n (22, L, r.1, r.2.1, r.2.2.1, r.2.2.2) := by
  subst hgo
  exact s6_19
theorem t6_22 {go : Nat → St → Option ORes} (hgo : go = orun prog_2_method_2_code (Option.some Jvm.ClassFile.FieldType.double) E6 0) {n cs ss : Nat} {L : List Slot} {S : List Value} {H : AH} {q : Option ORes → Prop} {x : Int64} (h : Rsq (go n (23, L, (.double (FP.l2d x) :: S), H, cs, ss)) q) : Rsq (go (n + 1) (22, L, (.long x :: S), H, cs, ss)) q := by
  subst hgo
  exact res_of s6_22 h
theorem t6_23 {go : Nat → St → Option ORes} (hgo : go = orun prog_2_method_2_code (Option.some Jvm.ClassFile.FieldType.double) E6 0) {n cs ss : Nat} {L : List Slot} {S : List Value} {H : AH} {q : Option ORes → Prop} {x y : UInt64} (hz : nNaN (FP.ddiv x y) = true) (h : Rsq (go n (24, L, (.double (FP.ddiv x y) :: S), H, cs, ss)) q) : Rsq (go (n + 1) (23, L, (.double y :: .double x :: S), H, cs, ss)) q := by
  subst hgo
  exact res_of s6_23 (res_t hz h)
theorem t6_24 {go : Nat → St → Option ORes} (hgo : go = orun prog_2_method_2_code (Option.some Jvm.ClassFile.FieldType.double) E6 0) {n cs ss : Nat} {L : List Slot} {S : List Value} {H : AH} {q : Option ORes → Prop} {z : UInt64} (h : q (some (some (.double z), H))) : Rsq (go (n + 1) (24, L, (.double z :: S), H, cs, ss)) q := by
  subst hgo
  exact res_of s6_24 h
theorem f3_in {x0 : Int64} {x1 : Int64} {x2 : Int32} {H : AH} : F3 [.long x0, .long x1, .int x2] H = orun method_2_code (Option.some Jvm.ClassFile.FieldType.double) E3 0 60 (0, [.val (.long x0), .second, .val (.long x1), .second, .val (.int x2)], [], H, 0, 0) := rfl
theorem s3_0 {n cs ss : Nat} {L : List Slot} {S : List Value} {H : AH} : orun method_2_code (Option.some Jvm.ClassFile.FieldType.double) E3 0 (n + 1) (0, L, S, H, cs, ss) = (aNew 0 5 1 5 [(.long 0), (.long 0), (.long 0), (.int 0), .null] S H cs ss).bind fun r => orun method_2_code (Option.some Jvm.ClassFile.FieldType.double) E3 0 n (3, L, r.1, r.2.1, r.2.2.1, r.2.2.2) := s_any k3_0
theorem s3_3 {n cs ss : Nat} {L : List Slot} {S : List Value} {H : AH} : orun method_2_code (Option.some Jvm.ClassFile.FieldType.double) E3 0 (n + 1) (3, L, S, H, cs, ss) = ex (Option.some Jvm.ClassFile.FieldType.double) E3 0 (orun method_2_code (Option.some Jvm.ClassFile.FieldType.double) E3 0 n) (.dup) 3 L S H cs ss := s_any k3_3
theorem s3_4 {n cs ss : Nat} {L : List Slot} {S : List Value} {H : AH} : orun method_2_code (Option.some Jvm.ClassFile.FieldType.double) E3 0 (n + 1) (4, L, S, H, cs, ss) = (aJ (7) S H cs ss).bind fun r => orun method_2_code (Option.some Jvm.ClassFile.FieldType.double) E3 0 n (7, L, r.1, r.2.1, r.2.2.1, r.2.2.2) := s_any k3_4
theorem s3_7 {n cs ss : Nat} {L : List Slot} {S : List Value} {H : AH} : orun method_2_code (Option.some Jvm.ClassFile.FieldType.double) E3 0 (n + 1) (7, L, S, H, cs, ss) = (gL L 0).bind fun v => orun method_2_code (Option.some Jvm.ClassFile.FieldType.double) E3 0 n (8, L, .long v :: S, H, cs, ss) := s_any k3_7
theorem s3_8 {n cs ss : Nat} {L : List Slot} {S : List Value} {H : AH} : orun method_2_code (Option.some Jvm.ClassFile.FieldType.double) E3 0 (n + 1) (8, L, S, H, cs, ss) = (gL L 2).bind fun v => orun method_2_code (Option.some Jvm.ClassFile.FieldType.double) E3 0 n (9, L, .long v :: S, H, cs, ss) := s_any k3_8
theorem s3_9 {n cs ss : Nat} {L : List Slot} {S : List Value} {H : AH} : orun method_2_code (Option.some Jvm.ClassFile.FieldType.double) E3 0 (n + 1) (9, L, S, H, cs, ss) = (gI L 4).bind fun v => orun method_2_code (Option.some Jvm.ClassFile.FieldType.double) E3 0 n (11, L, .int v :: S, H, cs, ss) := s_any k3_9
theorem s3_11 {n cs ss : Nat} {L : List Slot} {S : List Value} {H : AH} : orun method_2_code (Option.some Jvm.ClassFile.FieldType.double) E3 0 (n + 1) (11, L, S, H, cs, ss) = orun method_2_code (Option.some Jvm.ClassFile.FieldType.double) E3 0 n (12, L, (.null :: S), H, cs, ss) := s_any k3_11
theorem s3_12 {n cs ss : Nat} {L : List Slot} {S : List Value} {H : AH} : orun method_2_code (Option.some Jvm.ClassFile.FieldType.double) E3 0 (n + 1) (12, L, S, H, cs, ss) = (aRecv 5 0 6 1 5 0 0 F4 S H cs ss).bind fun r => orun method_2_code (Option.some Jvm.ClassFile.FieldType.double) E3 0 n (15, L, r.1, r.2.1, r.2.2.1, r.2.2.2) := s_any k3_12
theorem s3_15 {n cs ss : Nat} {L : List Slot} {S : List Value} {H : AH} : orun method_2_code (Option.some Jvm.ClassFile.FieldType.double) E3 0 (n + 1) (15, L, S, H, cs, ss) = (aRecv 0 0 6 1 5 0 0 F6 S H cs ss).bind fun r => orun method_2_code (Option.some Jvm.ClassFile.FieldType.double) E3 0 n (18, L, r.1, r.2.1, r.2.2.1, r.2.2.2) := s_any k3_15
theorem s3_18 {n cs ss : Nat} {L : List Slot} {S : List Value} {H : AH} : orun method_2_code (Option.some Jvm.ClassFile.FieldType.double) E3 0 (n + 1) (18, L, S, H, cs, ss) = pD S fun z _ => some (some (.double z), H) := s_any k3_18
theorem u3_0 {go : Nat → St → Option ORes} (hgo : go = orun method_2_code (Option.some Jvm.ClassFile.FieldType.double) E3 0) {n cs ss : Nat} {L : List Slot} {S : List Value} {H : AH} : go (n + 1) (0, L, S, H, cs, ss) = (aNew 0 5 1 5 [(.long 0), (.long 0), (.long 0), (.int 0), .null] S H cs ss).bind fun r => go n (3, L, r.1, r.2.1, r.2.2.1, r.2.2.2) := by
  subst hgo
  exact s3_0
theorem t3_3 {go : Nat → St → Option ORes} (hgo : go = orun method_2_code (Option.some Jvm.ClassFile.FieldType.double) E3 0) {n cs ss : Nat} {L : List Slot} {S : List Value} {H : AH} {q : Option ORes → Prop} {v : Value} (hv : isS v = true) (h : Rsq (go n (4, L, (v :: v :: S), H, cs, ss)) q) : Rsq (go (n + 1) (3, L, (v :: S), H, cs, ss)) q := by
  subst hgo
  refine res_of s3_3 ?_
  rw [ex_dup, p1_isS hv]
  exact h
theorem t3_4 {go : Nat → St → Option ORes} (hgo : go = orun method_2_code (Option.some Jvm.ClassFile.FieldType.double) E3 0) {n cs ss : Nat} {L : List Slot} {S : List Value} {H : AH} {q : Option ORes → Prop} (h : Rsq (go n (7, L, (.long (7) :: S), H, cs, ss)) q) : Rsq (go (n + 1) (4, L, S, H, cs, ss)) q := by
  subst hgo
  exact res_of s3_4 h
theorem t3_7 {go : Nat → St → Option ORes} (hgo : go = orun method_2_code (Option.some Jvm.ClassFile.FieldType.double) E3 0) {n cs ss : Nat} {l1 l2 l3 l4 : Slot} {S : List Value} {H : AH} {q : Option ORes → Prop} {v : Int64} (h : Rsq (go n (8, [.val (.long v), l1, l2, l3, l4], (.long v :: S), H, cs, ss)) q) : Rsq (go (n + 1) (7, [.val (.long v), l1, l2, l3, l4], S, H, cs, ss)) q := by
  subst hgo
  exact res_of s3_7 h
theorem t3_8 {go : Nat → St → Option ORes} (hgo : go = orun method_2_code (Option.some Jvm.ClassFile.FieldType.double) E3 0) {n cs ss : Nat} {l0 l1 l3 l4 : Slot} {S : List Value} {H : AH} {q : Option ORes → Prop} {v : Int64} (h : Rsq (go n (9, [l0, l1, .val (.long v), l3, l4], (.long v :: S), H, cs, ss)) q) : Rsq (go (n + 1) (8, [l0, l1, .val (.long v), l3, l4], S, H, cs, ss)) q := by
  subst hgo
  exact res_of s3_8 h
theorem t3_9 {go : Nat → St → Option ORes} (hgo : go = orun method_2_code (Option.some Jvm.ClassFile.FieldType.double) E3 0) {n cs ss : Nat} {l0 l1 l2 l3 : Slot} {S : List Value} {H : AH} {q : Option ORes → Prop} {v : Int32} (h : Rsq (go n (11, [l0, l1, l2, l3, .val (.int v)], (.int v :: S), H, cs, ss)) q) : Rsq (go (n + 1) (9, [l0, l1, l2, l3, .val (.int v)], S, H, cs, ss)) q := by
  subst hgo
  exact res_of s3_9 h
theorem t3_11 {go : Nat → St → Option ORes} (hgo : go = orun method_2_code (Option.some Jvm.ClassFile.FieldType.double) E3 0) {n cs ss : Nat} {L : List Slot} {S : List Value} {H : AH} {q : Option ORes → Prop} (h : Rsq (go n (12, L, (.null :: S), H, cs, ss)) q) : Rsq (go (n + 1) (11, L, S, H, cs, ss)) q := by
  subst hgo
  exact res_of s3_11 h
theorem u3_12 {go : Nat → St → Option ORes} (hgo : go = orun method_2_code (Option.some Jvm.ClassFile.FieldType.double) E3 0) {n cs ss : Nat} {L : List Slot} {S : List Value} {H : AH} : go (n + 1) (12, L, S, H, cs, ss) = (aRecv 5 0 6 1 5 0 0 F4 S H cs ss).bind fun r => go n (15, L, r.1, r.2.1, r.2.2.1, r.2.2.2) := by
  subst hgo
  exact s3_12
theorem u3_15 {go : Nat → St → Option ORes} (hgo : go = orun method_2_code (Option.some Jvm.ClassFile.FieldType.double) E3 0) {n cs ss : Nat} {L : List Slot} {S : List Value} {H : AH} : go (n + 1) (15, L, S, H, cs, ss) = (aRecv 0 0 6 1 5 0 0 F6 S H cs ss).bind fun r => go n (18, L, r.1, r.2.1, r.2.2.1, r.2.2.2) := by
  subst hgo
  exact s3_15
theorem t3_18 {go : Nat → St → Option ORes} (hgo : go = orun method_2_code (Option.some Jvm.ClassFile.FieldType.double) E3 0) {n cs ss : Nat} {L : List Slot} {S : List Value} {H : AH} {q : Option ORes → Prop} {z : UInt64} (h : q (some (some (.double z), H))) : Rsq (go (n + 1) (18, L, (.double z :: S), H, cs, ss)) q := by
  subst hgo
  exact res_of s3_18 h
theorem f1_in {x0 : Int64} {x1 : Int64} {H : AH} : F1 [.long x0, .long x1] H = orun jdk_29_method_70_code (Option.some Jvm.ClassFile.FieldType.long) E1 0 56 (0, [.val (.long x0), .second, .val (.long x1), .second], [], H, 0, 0) := rfl
theorem s1_0 {n cs ss : Nat} {L : List Slot} {S : List Value} {H : AH} : orun jdk_29_method_70_code (Option.some Jvm.ClassFile.FieldType.long) E1 0 (n + 1) (0, L, S, H, cs, ss) = (gL L 0).bind fun v => orun jdk_29_method_70_code (Option.some Jvm.ClassFile.FieldType.long) E1 0 n (1, L, .long v :: S, H, cs, ss) := s_any k1_0
theorem s1_1 {n cs ss : Nat} {L : List Slot} {S : List Value} {H : AH} : orun jdk_29_method_70_code (Option.some Jvm.ClassFile.FieldType.long) E1 0 (n + 1) (1, L, S, H, cs, ss) = (gL L 2).bind fun v => orun jdk_29_method_70_code (Option.some Jvm.ClassFile.FieldType.long) E1 0 n (2, L, .long v :: S, H, cs, ss) := s_any k1_1
theorem s1_2 {n cs ss : Nat} {L : List Slot} {S : List Value} {H : AH} : orun jdk_29_method_70_code (Option.some Jvm.ClassFile.FieldType.long) E1 0 (n + 1) (2, L, S, H, cs, ss) = ex (Option.some Jvm.ClassFile.FieldType.long) E1 0 (orun jdk_29_method_70_code (Option.some Jvm.ClassFile.FieldType.long) E1 0 n) (.lcmp) 2 L S H cs ss := s_any k1_2
theorem s1_3 {n cs ss : Nat} {L : List Slot} {S : List Value} {H : AH} : orun jdk_29_method_70_code (Option.some Jvm.ClassFile.FieldType.long) E1 0 (n + 1) (3, L, S, H, cs, ss) = pI S fun x r => if 0 < x then orun jdk_29_method_70_code (Option.some Jvm.ClassFile.FieldType.long) E1 0 n (10, L, r, H, cs, ss) else orun jdk_29_method_70_code (Option.some Jvm.ClassFile.FieldType.long) E1 0 n (6, L, r, H, cs, ss) := s_if (Q := fun x => 0 < x) (fun _ => z_gt) k1_3 (by decide) (by decide)
theorem s1_6 {n cs ss : Nat} {L : List Slot} {S : List Value} {H : AH} : orun jdk_29_method_70_code (Option.some Jvm.ClassFile.FieldType.long) E1 0 (n + 1) (6, L, S, H, cs, ss) = (gL L 0).bind fun v => orun jdk_29_method_70_code (Option.some Jvm.ClassFile.FieldType.long) E1 0 n (7, L, .long v :: S, H, cs, ss) := s_any k1_6
theorem s1_7 {n cs ss : Nat} {L : List Slot} {S : List Value} {H : AH} : orun jdk_29_method_70_code (Option.some Jvm.ClassFile.FieldType.long) E1 0 (n + 1) (7, L, S, H, cs, ss) = orun jdk_29_method_70_code (Option.some Jvm.ClassFile.FieldType.long) E1 0 n (11, L, S, H, cs, ss) := s_goto k1_7 (by decide) (by decide)
theorem s1_10 {n cs ss : Nat} {L : List Slot} {S : List Value} {H : AH} : orun jdk_29_method_70_code (Option.some Jvm.ClassFile.FieldType.long) E1 0 (n + 1) (10, L, S, H, cs, ss) = (gL L 2).bind fun v => orun jdk_29_method_70_code (Option.some Jvm.ClassFile.FieldType.long) E1 0 n (11, L, .long v :: S, H, cs, ss) := s_any k1_10
theorem s1_11 {n cs ss : Nat} {L : List Slot} {S : List Value} {H : AH} : orun jdk_29_method_70_code (Option.some Jvm.ClassFile.FieldType.long) E1 0 (n + 1) (11, L, S, H, cs, ss) = pL S fun z _ => some (some (.long z), H) := s_any k1_11
theorem t1_0 {go : Nat → St → Option ORes} (hgo : go = orun jdk_29_method_70_code (Option.some Jvm.ClassFile.FieldType.long) E1 0) {n cs ss : Nat} {l1 l2 l3 : Slot} {S : List Value} {H : AH} {q : Option ORes → Prop} {v : Int64} (h : Rsq (go n (1, [.val (.long v), l1, l2, l3], (.long v :: S), H, cs, ss)) q) : Rsq (go (n + 1) (0, [.val (.long v), l1, l2, l3], S, H, cs, ss)) q := by
  subst hgo
  exact res_of s1_0 h
theorem t1_1 {go : Nat → St → Option ORes} (hgo : go = orun jdk_29_method_70_code (Option.some Jvm.ClassFile.FieldType.long) E1 0) {n cs ss : Nat} {l0 l1 l3 : Slot} {S : List Value} {H : AH} {q : Option ORes → Prop} {v : Int64} (h : Rsq (go n (2, [l0, l1, .val (.long v), l3], (.long v :: S), H, cs, ss)) q) : Rsq (go (n + 1) (1, [l0, l1, .val (.long v), l3], S, H, cs, ss)) q := by
  subst hgo
  exact res_of s1_1 h
theorem t1_2 {go : Nat → St → Option ORes} (hgo : go = orun jdk_29_method_70_code (Option.some Jvm.ClassFile.FieldType.long) E1 0) {n cs ss : Nat} {L : List Slot} {S : List Value} {H : AH} {q : Option ORes → Prop} {x y : Int64} (h : Rsq (go n (3, L, (.int (lcmpW x y) :: S), H, cs, ss)) q) : Rsq (go (n + 1) (2, L, (.long y :: .long x :: S), H, cs, ss)) q := by
  subst hgo
  exact res_of s1_2 h
theorem t1_3t {go : Nat → St → Option ORes} (hgo : go = orun jdk_29_method_70_code (Option.some Jvm.ClassFile.FieldType.long) E1 0) {n cs ss : Nat} {L : List Slot} {S : List Value} {H : AH} {q : Option ORes → Prop} {x : Int32} (hc : 0 < x) (h : Rsq (go n (10, L, S, H, cs, ss)) q) : Rsq (go (n + 1) (3, L, (.int x :: S), H, cs, ss)) q := by
  subst hgo
  exact res_of s1_3 (res_t hc h)
theorem t1_3f {go : Nat → St → Option ORes} (hgo : go = orun jdk_29_method_70_code (Option.some Jvm.ClassFile.FieldType.long) E1 0) {n cs ss : Nat} {L : List Slot} {S : List Value} {H : AH} {q : Option ORes → Prop} {x : Int32} (hc : ¬ 0 < x) (h : Rsq (go n (6, L, S, H, cs, ss)) q) : Rsq (go (n + 1) (3, L, (.int x :: S), H, cs, ss)) q := by
  subst hgo
  exact res_of s1_3 (res_f hc h)
theorem t1_6 {go : Nat → St → Option ORes} (hgo : go = orun jdk_29_method_70_code (Option.some Jvm.ClassFile.FieldType.long) E1 0) {n cs ss : Nat} {l1 l2 l3 : Slot} {S : List Value} {H : AH} {q : Option ORes → Prop} {v : Int64} (h : Rsq (go n (7, [.val (.long v), l1, l2, l3], (.long v :: S), H, cs, ss)) q) : Rsq (go (n + 1) (6, [.val (.long v), l1, l2, l3], S, H, cs, ss)) q := by
  subst hgo
  exact res_of s1_6 h
theorem t1_7 {go : Nat → St → Option ORes} (hgo : go = orun jdk_29_method_70_code (Option.some Jvm.ClassFile.FieldType.long) E1 0) {n cs ss : Nat} {L : List Slot} {S : List Value} {H : AH} {q : Option ORes → Prop} (h : Rsq (go n (11, L, S, H, cs, ss)) q) : Rsq (go (n + 1) (7, L, S, H, cs, ss)) q := by
  subst hgo
  exact res_of s1_7 h
theorem t1_10 {go : Nat → St → Option ORes} (hgo : go = orun jdk_29_method_70_code (Option.some Jvm.ClassFile.FieldType.long) E1 0) {n cs ss : Nat} {l0 l1 l3 : Slot} {S : List Value} {H : AH} {q : Option ORes → Prop} {v : Int64} (h : Rsq (go n (11, [l0, l1, .val (.long v), l3], (.long v :: S), H, cs, ss)) q) : Rsq (go (n + 1) (10, [l0, l1, .val (.long v), l3], S, H, cs, ss)) q := by
  subst hgo
  exact res_of s1_10 h
theorem t1_11 {go : Nat → St → Option ORes} (hgo : go = orun jdk_29_method_70_code (Option.some Jvm.ClassFile.FieldType.long) E1 0) {n cs ss : Nat} {L : List Slot} {S : List Value} {H : AH} {q : Option ORes → Prop} {z : Int64} (h : q (some (some (.long z), H))) : Rsq (go (n + 1) (11, L, (.long z :: S), H, cs, ss)) q := by
  subst hgo
  exact res_of s1_11 h
theorem f2_in {x0 : Int64} {x1 : Int64} {H : AH} : F2 [.long x0, .long x1] H = orun jdk_29_method_66_code (Option.some Jvm.ClassFile.FieldType.long) E2 0 56 (0, [.val (.long x0), .second, .val (.long x1), .second], [], H, 0, 0) := rfl
theorem s2_0 {n cs ss : Nat} {L : List Slot} {S : List Value} {H : AH} : orun jdk_29_method_66_code (Option.some Jvm.ClassFile.FieldType.long) E2 0 (n + 1) (0, L, S, H, cs, ss) = (gL L 0).bind fun v => orun jdk_29_method_66_code (Option.some Jvm.ClassFile.FieldType.long) E2 0 n (1, L, .long v :: S, H, cs, ss) := s_any k2_0
theorem s2_1 {n cs ss : Nat} {L : List Slot} {S : List Value} {H : AH} : orun jdk_29_method_66_code (Option.some Jvm.ClassFile.FieldType.long) E2 0 (n + 1) (1, L, S, H, cs, ss) = (gL L 2).bind fun v => orun jdk_29_method_66_code (Option.some Jvm.ClassFile.FieldType.long) E2 0 n (2, L, .long v :: S, H, cs, ss) := s_any k2_1
theorem s2_2 {n cs ss : Nat} {L : List Slot} {S : List Value} {H : AH} : orun jdk_29_method_66_code (Option.some Jvm.ClassFile.FieldType.long) E2 0 (n + 1) (2, L, S, H, cs, ss) = ex (Option.some Jvm.ClassFile.FieldType.long) E2 0 (orun jdk_29_method_66_code (Option.some Jvm.ClassFile.FieldType.long) E2 0 n) (.lcmp) 2 L S H cs ss := s_any k2_2
theorem s2_3 {n cs ss : Nat} {L : List Slot} {S : List Value} {H : AH} : orun jdk_29_method_66_code (Option.some Jvm.ClassFile.FieldType.long) E2 0 (n + 1) (3, L, S, H, cs, ss) = pI S fun x r => if x < 0 then orun jdk_29_method_66_code (Option.some Jvm.ClassFile.FieldType.long) E2 0 n (10, L, r, H, cs, ss) else orun jdk_29_method_66_code (Option.some Jvm.ClassFile.FieldType.long) E2 0 n (6, L, r, H, cs, ss) := s_if (Q := fun x => x < 0) (fun _ => z_lt) k2_3 (by decide) (by decide)
theorem s2_6 {n cs ss : Nat} {L : List Slot} {S : List Value} {H : AH} : orun jdk_29_method_66_code (Option.some Jvm.ClassFile.FieldType.long) E2 0 (n + 1) (6, L, S, H, cs, ss) = (gL L 0).bind fun v => orun jdk_29_method_66_code (Option.some Jvm.ClassFile.FieldType.long) E2 0 n (7, L, .long v :: S, H, cs, ss) := s_any k2_6
theorem s2_7 {n cs ss : Nat} {L : List Slot} {S : List Value} {H : AH} : orun jdk_29_method_66_code (Option.some Jvm.ClassFile.FieldType.long) E2 0 (n + 1) (7, L, S, H, cs, ss) = orun jdk_29_method_66_code (Option.some Jvm.ClassFile.FieldType.long) E2 0 n (11, L, S, H, cs, ss) := s_goto k2_7 (by decide) (by decide)
theorem s2_10 {n cs ss : Nat} {L : List Slot} {S : List Value} {H : AH} : orun jdk_29_method_66_code (Option.some Jvm.ClassFile.FieldType.long) E2 0 (n + 1) (10, L, S, H, cs, ss) = (gL L 2).bind fun v => orun jdk_29_method_66_code (Option.some Jvm.ClassFile.FieldType.long) E2 0 n (11, L, .long v :: S, H, cs, ss) := s_any k2_10
theorem s2_11 {n cs ss : Nat} {L : List Slot} {S : List Value} {H : AH} : orun jdk_29_method_66_code (Option.some Jvm.ClassFile.FieldType.long) E2 0 (n + 1) (11, L, S, H, cs, ss) = pL S fun z _ => some (some (.long z), H) := s_any k2_11
theorem t2_0 {go : Nat → St → Option ORes} (hgo : go = orun jdk_29_method_66_code (Option.some Jvm.ClassFile.FieldType.long) E2 0) {n cs ss : Nat} {l1 l2 l3 : Slot} {S : List Value} {H : AH} {q : Option ORes → Prop} {v : Int64} (h : Rsq (go n (1, [.val (.long v), l1, l2, l3], (.long v :: S), H, cs, ss)) q) : Rsq (go (n + 1) (0, [.val (.long v), l1, l2, l3], S, H, cs, ss)) q := by
  subst hgo
  exact res_of s2_0 h
theorem t2_1 {go : Nat → St → Option ORes} (hgo : go = orun jdk_29_method_66_code (Option.some Jvm.ClassFile.FieldType.long) E2 0) {n cs ss : Nat} {l0 l1 l3 : Slot} {S : List Value} {H : AH} {q : Option ORes → Prop} {v : Int64} (h : Rsq (go n (2, [l0, l1, .val (.long v), l3], (.long v :: S), H, cs, ss)) q) : Rsq (go (n + 1) (1, [l0, l1, .val (.long v), l3], S, H, cs, ss)) q := by
  subst hgo
  exact res_of s2_1 h
theorem t2_2 {go : Nat → St → Option ORes} (hgo : go = orun jdk_29_method_66_code (Option.some Jvm.ClassFile.FieldType.long) E2 0) {n cs ss : Nat} {L : List Slot} {S : List Value} {H : AH} {q : Option ORes → Prop} {x y : Int64} (h : Rsq (go n (3, L, (.int (lcmpW x y) :: S), H, cs, ss)) q) : Rsq (go (n + 1) (2, L, (.long y :: .long x :: S), H, cs, ss)) q := by
  subst hgo
  exact res_of s2_2 h
theorem t2_3t {go : Nat → St → Option ORes} (hgo : go = orun jdk_29_method_66_code (Option.some Jvm.ClassFile.FieldType.long) E2 0) {n cs ss : Nat} {L : List Slot} {S : List Value} {H : AH} {q : Option ORes → Prop} {x : Int32} (hc : x < 0) (h : Rsq (go n (10, L, S, H, cs, ss)) q) : Rsq (go (n + 1) (3, L, (.int x :: S), H, cs, ss)) q := by
  subst hgo
  exact res_of s2_3 (res_t hc h)
theorem t2_3f {go : Nat → St → Option ORes} (hgo : go = orun jdk_29_method_66_code (Option.some Jvm.ClassFile.FieldType.long) E2 0) {n cs ss : Nat} {L : List Slot} {S : List Value} {H : AH} {q : Option ORes → Prop} {x : Int32} (hc : ¬ x < 0) (h : Rsq (go n (6, L, S, H, cs, ss)) q) : Rsq (go (n + 1) (3, L, (.int x :: S), H, cs, ss)) q := by
  subst hgo
  exact res_of s2_3 (res_f hc h)
theorem t2_6 {go : Nat → St → Option ORes} (hgo : go = orun jdk_29_method_66_code (Option.some Jvm.ClassFile.FieldType.long) E2 0) {n cs ss : Nat} {l1 l2 l3 : Slot} {S : List Value} {H : AH} {q : Option ORes → Prop} {v : Int64} (h : Rsq (go n (7, [.val (.long v), l1, l2, l3], (.long v :: S), H, cs, ss)) q) : Rsq (go (n + 1) (6, [.val (.long v), l1, l2, l3], S, H, cs, ss)) q := by
  subst hgo
  exact res_of s2_6 h
theorem t2_7 {go : Nat → St → Option ORes} (hgo : go = orun jdk_29_method_66_code (Option.some Jvm.ClassFile.FieldType.long) E2 0) {n cs ss : Nat} {L : List Slot} {S : List Value} {H : AH} {q : Option ORes → Prop} (h : Rsq (go n (11, L, S, H, cs, ss)) q) : Rsq (go (n + 1) (7, L, S, H, cs, ss)) q := by
  subst hgo
  exact res_of s2_7 h
theorem t2_10 {go : Nat → St → Option ORes} (hgo : go = orun jdk_29_method_66_code (Option.some Jvm.ClassFile.FieldType.long) E2 0) {n cs ss : Nat} {l0 l1 l3 : Slot} {S : List Value} {H : AH} {q : Option ORes → Prop} {v : Int64} (h : Rsq (go n (11, [l0, l1, .val (.long v), l3], (.long v :: S), H, cs, ss)) q) : Rsq (go (n + 1) (10, [l0, l1, .val (.long v), l3], S, H, cs, ss)) q := by
  subst hgo
  exact res_of s2_10 h
theorem t2_11 {go : Nat → St → Option ORes} (hgo : go = orun jdk_29_method_66_code (Option.some Jvm.ClassFile.FieldType.long) E2 0) {n cs ss : Nat} {L : List Slot} {S : List Value} {H : AH} {q : Option ORes → Prop} {z : Int64} (h : q (some (some (.long z), H))) : Rsq (go (n + 1) (11, L, (.long z :: S), H, cs, ss)) q := by
  subst hgo
  exact res_of s2_11 h
theorem f0_in {x0 : Int64} {x1 : Int64} {x2 : Int64} {x3 : Int32} {H : AH} : F0 [.long x0, .long x1, .long x2, .int x3] H = orun code ret E0 0 300 (0, [.val (.long x0), .second, .val (.long x1), .second, .val (.long x2), .second, .val (.int x3), .unset, .unset, .unset, .unset, .unset, .unset, .unset, .unset, .unset, .unset, .unset, .unset, .unset, .unset, .unset, .unset, .unset, .unset, .unset, .unset, .unset, .unset, .unset, .unset, .unset], [], H, 0, 0) := rfl
theorem s0_0 {n cs ss : Nat} {L : List Slot} {S : List Value} {H : AH} : orun code ret E0 0 (n + 1) (0, L, S, H, cs, ss) = (gI L 6).bind fun v => orun code ret E0 0 n (2, L, .int v :: S, H, cs, ss) := s_any k0_0
theorem s0_2 {n cs ss : Nat} {L : List Slot} {S : List Value} {H : AH} : orun code ret E0 0 (n + 1) (2, L, S, H, cs, ss) = orun code ret E0 0 n (4, L, (.int 8 :: S), H, cs, ss) := s_any k0_2
theorem s0_4 {n cs ss : Nat} {L : List Slot} {S : List Value} {H : AH} : orun code ret E0 0 (n + 1) (4, L, S, H, cs, ss) = pI S fun y S => pI S fun x r => orun code ret E0 0 n (5, L, .int (x &&& y) :: r, H, cs, ss) := s_any k0_4
theorem s0_5 {n cs ss : Nat} {L : List Slot} {S : List Value} {H : AH} : orun code ret E0 0 (n + 1) (5, L, S, H, cs, ss) = pI S fun x r => if x = 0 then orun code ret E0 0 n (12, L, r, H, cs, ss) else orun code ret E0 0 n (8, L, r, H, cs, ss) := s_if (Q := fun x => x = 0) (fun _ => z_eq) k0_5 (by decide) (by decide)
theorem s0_8 {n cs ss : Nat} {L : List Slot} {S : List Value} {H : AH} : orun code ret E0 0 (n + 1) (8, L, S, H, cs, ss) = orun code ret E0 0 n (9, L, (.int 1 :: S), H, cs, ss) := s_any k0_8
theorem s0_9 {n cs ss : Nat} {L : List Slot} {S : List Value} {H : AH} : orun code ret E0 0 (n + 1) (9, L, S, H, cs, ss) = orun code ret E0 0 n (13, L, S, H, cs, ss) := s_goto k0_9 (by decide) (by decide)
theorem s0_12 {n cs ss : Nat} {L : List Slot} {S : List Value} {H : AH} : orun code ret E0 0 (n + 1) (12, L, S, H, cs, ss) = orun code ret E0 0 n (13, L, (.int 0 :: S), H, cs, ss) := s_any k0_12
theorem s0_13 {n cs ss : Nat} {L : List Slot} {S : List Value} {H : AH} : orun code ret E0 0 (n + 1) (13, L, S, H, cs, ss) = pI S fun x r => (st1 L 7 (.int x)).bind fun L' => orun code ret E0 0 n (15, L', r, H, cs, ss) := s_any k0_13
theorem s0_15 {n cs ss : Nat} {L : List Slot} {S : List Value} {H : AH} : orun code ret E0 0 (n + 1) (15, L, S, H, cs, ss) = (gL L 2).bind fun v => orun code ret E0 0 n (16, L, .long v :: S, H, cs, ss) := s_any k0_15
theorem s0_16 {n cs ss : Nat} {L : List Slot} {S : List Value} {H : AH} : orun code ret E0 0 (n + 1) (16, L, S, H, cs, ss) = (aJ (9223372036854775807) S H cs ss).bind fun r => orun code ret E0 0 n (19, L, r.1, r.2.1, r.2.2.1, r.2.2.2) := s_any k0_16
theorem s0_19 {n cs ss : Nat} {L : List Slot} {S : List Value} {H : AH} : orun code ret E0 0 (n + 1) (19, L, S, H, cs, ss) = pL S fun y S => pL S fun x r => orun code ret E0 0 n (20, L, .long (x &&& y) :: r, H, cs, ss) := s_any k0_19
theorem s0_20 {n cs ss : Nat} {L : List Slot} {S : List Value} {H : AH} : orun code ret E0 0 (n + 1) (20, L, S, H, cs, ss) = pL S fun x r => (st2 L 8 x).bind fun L' => orun code ret E0 0 n (22, L', r, H, cs, ss) := s_any k0_20
theorem s0_22 {n cs ss : Nat} {L : List Slot} {S : List Value} {H : AH} : orun code ret E0 0 (n + 1) (22, L, S, H, cs, ss) = (gI L 6).bind fun v => orun code ret E0 0 n (24, L, .int v :: S, H, cs, ss) := s_any k0_22
theorem s0_24 {n cs ss : Nat} {L : List Slot} {S : List Value} {H : AH} : orun code ret E0 0 (n + 1) (24, L, S, H, cs, ss) = orun code ret E0 0 n (25, L, (.int 3 :: S), H, cs, ss) := s_any k0_24
theorem s0_25 {n cs ss : Nat} {L : List Slot} {S : List Value} {H : AH} : orun code ret E0 0 (n + 1) (25, L, S, H, cs, ss) = pI S fun y S => pI S fun x r => orun code ret E0 0 n (26, L, .int (x &&& y) :: r, H, cs, ss) := s_any k0_25
theorem s0_26 {n cs ss : Nat} {L : List Slot} {S : List Value} {H : AH} : orun code ret E0 0 (n + 1) (26, L, S, H, cs, ss) = pI S fun x r => if x = 0 then orun code ret E0 0 n (29, L, r, H, cs, ss) else orun code ret E0 0 n (32, L, r, H, cs, ss) := s_ifN (Q := fun x => x = 0) (fun _ => z_ne) k0_26 (by decide) (by decide)
theorem s0_29 {n cs ss : Nat} {L : List Slot} {S : List Value} {H : AH} : orun code ret E0 0 (n + 1) (29, L, S, H, cs, ss) = orun code ret E0 0 n (30, L, (.long 0 :: S), H, cs, ss) := s_any k0_29
theorem s0_30 {n cs ss : Nat} {L : List Slot} {S : List Value} {H : AH} : orun code ret E0 0 (n + 1) (30, L, S, H, cs, ss) = pL S fun x r => (st2 L 8 x).bind fun L' => orun code ret E0 0 n (32, L', r, H, cs, ss) := s_any k0_30
theorem s0_32 {n cs ss : Nat} {L : List Slot} {S : List Value} {H : AH} : orun code ret E0 0 (n + 1) (32, L, S, H, cs, ss) = (gL L 8).bind fun v => orun code ret E0 0 n (34, L, .long v :: S, H, cs, ss) := s_any k0_32
theorem s0_34 {n cs ss : Nat} {L : List Slot} {S : List Value} {H : AH} : orun code ret E0 0 (n + 1) (34, L, S, H, cs, ss) = orun code ret E0 0 n (35, L, (.long 0 :: S), H, cs, ss) := s_any k0_34
theorem s0_35 {n cs ss : Nat} {L : List Slot} {S : List Value} {H : AH} : orun code ret E0 0 (n + 1) (35, L, S, H, cs, ss) = ex ret E0 0 (orun code ret E0 0 n) (.lcmp) 35 L S H cs ss := s_any k0_35
theorem s0_36 {n cs ss : Nat} {L : List Slot} {S : List Value} {H : AH} : orun code ret E0 0 (n + 1) (36, L, S, H, cs, ss) = pI S fun x r => if x = 0 then orun code ret E0 0 n (39, L, r, H, cs, ss) else orun code ret E0 0 n (57, L, r, H, cs, ss) := s_ifN (Q := fun x => x = 0) (fun _ => z_ne) k0_36 (by decide) (by decide)
theorem s0_39 {n cs ss : Nat} {L : List Slot} {S : List Value} {H : AH} : orun code ret E0 0 (n + 1) (39, L, S, H, cs, ss) = (gL L 0).bind fun v => orun code ret E0 0 n (40, L, .long v :: S, H, cs, ss) := s_any k0_39
theorem s0_40 {n cs ss : Nat} {L : List Slot} {S : List Value} {H : AH} : orun code ret E0 0 (n + 1) (40, L, S, H, cs, ss) = orun code ret E0 0 n (41, L, (.long 0 :: S), H, cs, ss) := s_any k0_40
theorem s0_41 {n cs ss : Nat} {L : List Slot} {S : List Value} {H : AH} : orun code ret E0 0 (n + 1) (41, L, S, H, cs, ss) = (gI L 7).bind fun v => orun code ret E0 0 n (43, L, .int v :: S, H, cs, ss) := s_any k0_41
theorem s0_43 {n cs ss : Nat} {L : List Slot} {S : List Value} {H : AH} : orun code ret E0 0 (n + 1) (43, L, S, H, cs, ss) = (aCall 3 6 24 128 1 5 F3 S H cs ss).bind fun r => orun code ret E0 0 n (46, L, r.1, r.2.1, r.2.2.1, r.2.2.2) := s_any k0_43
theorem s0_46 {n cs ss : Nat} {L : List Slot} {S : List Value} {H : AH} : orun code ret E0 0 (n + 1) (46, L, S, H, cs, ss) = orun code ret E0 0 n (47, L, (.double (dcv 0) :: S), H, cs, ss) := s_any k0_46
theorem s0_47 {n cs ss : Nat} {L : List Slot} {S : List Value} {H : AH} : orun code ret E0 0 (n + 1) (47, L, S, H, cs, ss) = pD S fun y S => pD S fun x r => orun code ret E0 0 n (48, L, .int (cmpValue (FP.dcmp x y) .l) :: r, H, cs, ss) := s_any k0_47
theorem s0_48 {n cs ss : Nat} {L : List Slot} {S : List Value} {H : AH} : orun code ret E0 0 (n + 1) (48, L, S, H, cs, ss) = pI S fun x r => if x = 0 then orun code ret E0 0 n (51, L, r, H, cs, ss) else orun code ret E0 0 n (55, L, r, H, cs, ss) := s_ifN (Q := fun x => x = 0) (fun _ => z_ne) k0_48 (by decide) (by decide)
theorem s0_51 {n cs ss : Nat} {L : List Slot} {S : List Value} {H : AH} : orun code ret E0 0 (n + 1) (51, L, S, H, cs, ss) = orun code ret E0 0 n (52, L, (.int 1 :: S), H, cs, ss) := s_any k0_51
theorem s0_52 {n cs ss : Nat} {L : List Slot} {S : List Value} {H : AH} : orun code ret E0 0 (n + 1) (52, L, S, H, cs, ss) = orun code ret E0 0 n (56, L, S, H, cs, ss) := s_goto k0_52 (by decide) (by decide)
theorem s0_55 {n cs ss : Nat} {L : List Slot} {S : List Value} {H : AH} : orun code ret E0 0 (n + 1) (55, L, S, H, cs, ss) = orun code ret E0 0 n (56, L, (.int 0 :: S), H, cs, ss) := s_any k0_55
theorem s0_56 {n cs ss : Nat} {L : List Slot} {S : List Value} {H : AH} : orun code ret E0 0 (n + 1) (56, L, S, H, cs, ss) = pI S fun z _ => some (some (.int (z &&& 1)), H) := s_any k0_56
theorem s0_57 {n cs ss : Nat} {L : List Slot} {S : List Value} {H : AH} : orun code ret E0 0 (n + 1) (57, L, S, H, cs, ss) = (gI L 6).bind fun v => orun code ret E0 0 n (59, L, .int v :: S, H, cs, ss) := s_any k0_57
theorem s0_59 {n cs ss : Nat} {L : List Slot} {S : List Value} {H : AH} : orun code ret E0 0 (n + 1) (59, L, S, H, cs, ss) = orun code ret E0 0 n (60, L, (.int 4 :: S), H, cs, ss) := s_any k0_59
theorem s0_60 {n cs ss : Nat} {L : List Slot} {S : List Value} {H : AH} : orun code ret E0 0 (n + 1) (60, L, S, H, cs, ss) = pI S fun y S => pI S fun x r => orun code ret E0 0 n (61, L, .int (x &&& y) :: r, H, cs, ss) := s_any k0_60
theorem s0_61 {n cs ss : Nat} {L : List Slot} {S : List Value} {H : AH} : orun code ret E0 0 (n + 1) (61, L, S, H, cs, ss) = pI S fun x r => if x = 0 then orun code ret E0 0 n (68, L, r, H, cs, ss) else orun code ret E0 0 n (64, L, r, H, cs, ss) := s_if (Q := fun x => x = 0) (fun _ => z_eq) k0_61 (by decide) (by decide)
theorem s0_64 {n cs ss : Nat} {L : List Slot} {S : List Value} {H : AH} : orun code ret E0 0 (n + 1) (64, L, S, H, cs, ss) = orun code ret E0 0 n (65, L, (.int 1 :: S), H, cs, ss) := s_any k0_64
theorem s0_65 {n cs ss : Nat} {L : List Slot} {S : List Value} {H : AH} : orun code ret E0 0 (n + 1) (65, L, S, H, cs, ss) = orun code ret E0 0 n (69, L, S, H, cs, ss) := s_goto k0_65 (by decide) (by decide)
theorem s0_68 {n cs ss : Nat} {L : List Slot} {S : List Value} {H : AH} : orun code ret E0 0 (n + 1) (68, L, S, H, cs, ss) = orun code ret E0 0 n (69, L, (.int 0 :: S), H, cs, ss) := s_any k0_68
theorem s0_69 {n cs ss : Nat} {L : List Slot} {S : List Value} {H : AH} : orun code ret E0 0 (n + 1) (69, L, S, H, cs, ss) = pI S fun x r => (st1 L 10 (.int x)).bind fun L' => orun code ret E0 0 n (71, L', r, H, cs, ss) := s_any k0_69
theorem s0_71 {n cs ss : Nat} {L : List Slot} {S : List Value} {H : AH} : orun code ret E0 0 (n + 1) (71, L, S, H, cs, ss) = (gI L 10).bind fun v => orun code ret E0 0 n (73, L, .int v :: S, H, cs, ss) := s_any k0_71
theorem s0_73 {n cs ss : Nat} {L : List Slot} {S : List Value} {H : AH} : orun code ret E0 0 (n + 1) (73, L, S, H, cs, ss) = pI S fun x r => if x = 0 then orun code ret E0 0 n (81, L, r, H, cs, ss) else orun code ret E0 0 n (76, L, r, H, cs, ss) := s_if (Q := fun x => x = 0) (fun _ => z_eq) k0_73 (by decide) (by decide)
theorem s0_76 {n cs ss : Nat} {L : List Slot} {S : List Value} {H : AH} : orun code ret E0 0 (n + 1) (76, L, S, H, cs, ss) = (gL L 8).bind fun v => orun code ret E0 0 n (78, L, .long v :: S, H, cs, ss) := s_any k0_76
theorem s0_78 {n cs ss : Nat} {L : List Slot} {S : List Value} {H : AH} : orun code ret E0 0 (n + 1) (78, L, S, H, cs, ss) = orun code ret E0 0 n (89, L, S, H, cs, ss) := s_goto k0_78 (by decide) (by decide)
theorem s0_81 {n cs ss : Nat} {L : List Slot} {S : List Value} {H : AH} : orun code ret E0 0 (n + 1) (81, L, S, H, cs, ss) = (gL L 0).bind fun v => orun code ret E0 0 n (82, L, .long v :: S, H, cs, ss) := s_any k0_81
theorem s0_82 {n cs ss : Nat} {L : List Slot} {S : List Value} {H : AH} : orun code ret E0 0 (n + 1) (82, L, S, H, cs, ss) = (aJ (9223372036854775807) S H cs ss).bind fun r => orun code ret E0 0 n (85, L, r.1, r.2.1, r.2.2.1, r.2.2.2) := s_any k0_82
theorem s0_85 {n cs ss : Nat} {L : List Slot} {S : List Value} {H : AH} : orun code ret E0 0 (n + 1) (85, L, S, H, cs, ss) = pL S fun y S => pL S fun x r => orun code ret E0 0 n (86, L, .long (x &&& y) :: r, H, cs, ss) := s_any k0_85
theorem s0_86 {n cs ss : Nat} {L : List Slot} {S : List Value} {H : AH} : orun code ret E0 0 (n + 1) (86, L, S, H, cs, ss) = (gL L 8).bind fun v => orun code ret E0 0 n (88, L, .long v :: S, H, cs, ss) := s_any k0_86
theorem s0_88 {n cs ss : Nat} {L : List Slot} {S : List Value} {H : AH} : orun code ret E0 0 (n + 1) (88, L, S, H, cs, ss) = ex ret E0 0 (orun code ret E0 0 n) (.lrem) 88 L S H cs ss := s_any k0_88
theorem s0_89 {n cs ss : Nat} {L : List Slot} {S : List Value} {H : AH} : orun code ret E0 0 (n + 1) (89, L, S, H, cs, ss) = pL S fun x r => (st2 L 11 x).bind fun L' => orun code ret E0 0 n (91, L', r, H, cs, ss) := s_any k0_89
theorem s0_91 {n cs ss : Nat} {L : List Slot} {S : List Value} {H : AH} : orun code ret E0 0 (n + 1) (91, L, S, H, cs, ss) = (gL L 4).bind fun v => orun code ret E0 0 n (93, L, .long v :: S, H, cs, ss) := s_any k0_91
theorem s0_93 {n cs ss : Nat} {L : List Slot} {S : List Value} {H : AH} : orun code ret E0 0 (n + 1) (93, L, S, H, cs, ss) = (aJ (9223372036854775807) S H cs ss).bind fun r => orun code ret E0 0 n (96, L, r.1, r.2.1, r.2.2.1, r.2.2.2) := s_any k0_93
theorem s0_96 {n cs ss : Nat} {L : List Slot} {S : List Value} {H : AH} : orun code ret E0 0 (n + 1) (96, L, S, H, cs, ss) = pL S fun y S => pL S fun x r => orun code ret E0 0 n (97, L, .long (x &&& y) :: r, H, cs, ss) := s_any k0_96
theorem s0_97 {n cs ss : Nat} {L : List Slot} {S : List Value} {H : AH} : orun code ret E0 0 (n + 1) (97, L, S, H, cs, ss) = (gL L 8).bind fun v => orun code ret E0 0 n (99, L, .long v :: S, H, cs, ss) := s_any k0_97
theorem s0_99 {n cs ss : Nat} {L : List Slot} {S : List Value} {H : AH} : orun code ret E0 0 (n + 1) (99, L, S, H, cs, ss) = ex ret E0 0 (orun code ret E0 0 n) (.lrem) 99 L S H cs ss := s_any k0_99
theorem s0_100 {n cs ss : Nat} {L : List Slot} {S : List Value} {H : AH} : orun code ret E0 0 (n + 1) (100, L, S, H, cs, ss) = pL S fun x r => (st2 L 13 x).bind fun L' => orun code ret E0 0 n (102, L', r, H, cs, ss) := s_any k0_100
theorem s0_102 {n cs ss : Nat} {L : List Slot} {S : List Value} {H : AH} : orun code ret E0 0 (n + 1) (102, L, S, H, cs, ss) = (gL L 11).bind fun v => orun code ret E0 0 n (104, L, .long v :: S, H, cs, ss) := s_any k0_102
theorem s0_104 {n cs ss : Nat} {L : List Slot} {S : List Value} {H : AH} : orun code ret E0 0 (n + 1) (104, L, S, H, cs, ss) = (gL L 13).bind fun v => orun code ret E0 0 n (106, L, .long v :: S, H, cs, ss) := s_any k0_104
theorem s0_106 {n cs ss : Nat} {L : List Slot} {S : List Value} {H : AH} : orun code ret E0 0 (n + 1) (106, L, S, H, cs, ss) = (aCall 2 6 24 128 0 0 F1 S H cs ss).bind fun r => orun code ret E0 0 n (109, L, r.1, r.2.1, r.2.2.1, r.2.2.2) := s_any k0_106
theorem s0_109 {n cs ss : Nat} {L : List Slot} {S : List Value} {H : AH} : orun code ret E0 0 (n + 1) (109, L, S, H, cs, ss) = pL S fun x r => (st2 L 15 x).bind fun L' => orun code ret E0 0 n (111, L', r, H, cs, ss) := s_any k0_109
theorem s0_111 {n cs ss : Nat} {L : List Slot} {S : List Value} {H : AH} : orun code ret E0 0 (n + 1) (111, L, S, H, cs, ss) = (gL L 11).bind fun v => orun code ret E0 0 n (113, L, .long v :: S, H, cs, ss) := s_any k0_111
theorem s0_113 {n cs ss : Nat} {L : List Slot} {S : List Value} {H : AH} : orun code ret E0 0 (n + 1) (113, L, S, H, cs, ss) = (gL L 13).bind fun v => orun code ret E0 0 n (115, L, .long v :: S, H, cs, ss) := s_any k0_113
theorem s0_115 {n cs ss : Nat} {L : List Slot} {S : List Value} {H : AH} : orun code ret E0 0 (n + 1) (115, L, S, H, cs, ss) = (aCall 2 6 24 128 0 0 F2 S H cs ss).bind fun r => orun code ret E0 0 n (118, L, r.1, r.2.1, r.2.2.1, r.2.2.2) := s_any k0_115
theorem s0_118 {n cs ss : Nat} {L : List Slot} {S : List Value} {H : AH} : orun code ret E0 0 (n + 1) (118, L, S, H, cs, ss) = pL S fun x r => (st2 L 17 x).bind fun L' => orun code ret E0 0 n (120, L', r, H, cs, ss) := s_any k0_118
theorem s0_120 {n cs ss : Nat} {L : List Slot} {S : List Value} {H : AH} : orun code ret E0 0 (n + 1) (120, L, S, H, cs, ss) = (gL L 11).bind fun v => orun code ret E0 0 n (122, L, .long v :: S, H, cs, ss) := s_any k0_120
theorem s0_122 {n cs ss : Nat} {L : List Slot} {S : List Value} {H : AH} : orun code ret E0 0 (n + 1) (122, L, S, H, cs, ss) = (gL L 8).bind fun v => orun code ret E0 0 n (124, L, .long v :: S, H, cs, ss) := s_any k0_122
theorem s0_124 {n cs ss : Nat} {L : List Slot} {S : List Value} {H : AH} : orun code ret E0 0 (n + 1) (124, L, S, H, cs, ss) = (gI L 7).bind fun v => orun code ret E0 0 n (126, L, .int v :: S, H, cs, ss) := s_any k0_124
theorem s0_126 {n cs ss : Nat} {L : List Slot} {S : List Value} {H : AH} : orun code ret E0 0 (n + 1) (126, L, S, H, cs, ss) = (aCall 3 6 24 128 1 5 F3 S H cs ss).bind fun r => orun code ret E0 0 n (129, L, r.1, r.2.1, r.2.2.1, r.2.2.2) := s_any k0_126
theorem s0_129 {n cs ss : Nat} {L : List Slot} {S : List Value} {H : AH} : orun code ret E0 0 (n + 1) (129, L, S, H, cs, ss) = pD S fun x r => (st2D L 19 x).bind fun L' => orun code ret E0 0 n (131, L', r, H, cs, ss) := s_any k0_129
theorem s0_131 {n cs ss : Nat} {L : List Slot} {S : List Value} {H : AH} : orun code ret E0 0 (n + 1) (131, L, S, H, cs, ss) = orun code ret E0 0 n (132, L, (.double (dcv 0) :: S), H, cs, ss) := s_any k0_131
theorem s0_132 {n cs ss : Nat} {L : List Slot} {S : List Value} {H : AH} : orun code ret E0 0 (n + 1) (132, L, S, H, cs, ss) = (gD L 19).bind fun v => orun code ret E0 0 n (134, L, .double v :: S, H, cs, ss) := s_any k0_132
theorem s0_134 {n cs ss : Nat} {L : List Slot} {S : List Value} {H : AH} : orun code ret E0 0 (n + 1) (134, L, S, H, cs, ss) = pD S fun y S => pD S fun x r => orun code ret E0 0 n (135, L, .int (cmpValue (FP.dcmp x y) .g) :: r, H, cs, ss) := s_any k0_134
theorem s0_135 {n cs ss : Nat} {L : List Slot} {S : List Value} {H : AH} : orun code ret E0 0 (n + 1) (135, L, S, H, cs, ss) = pI S fun x r => if 0 < x then orun code ret E0 0 n (149, L, r, H, cs, ss) else orun code ret E0 0 n (138, L, r, H, cs, ss) := s_if (Q := fun x => 0 < x) (fun _ => z_gt) k0_135 (by decide) (by decide)
theorem s0_138 {n cs ss : Nat} {L : List Slot} {S : List Value} {H : AH} : orun code ret E0 0 (n + 1) (138, L, S, H, cs, ss) = (gD L 19).bind fun v => orun code ret E0 0 n (140, L, .double v :: S, H, cs, ss) := s_any k0_138
theorem s0_140 {n cs ss : Nat} {L : List Slot} {S : List Value} {H : AH} : orun code ret E0 0 (n + 1) (140, L, S, H, cs, ss) = orun code ret E0 0 n (141, L, (.double (dcv 1) :: S), H, cs, ss) := s_any k0_140
theorem s0_141 {n cs ss : Nat} {L : List Slot} {S : List Value} {H : AH} : orun code ret E0 0 (n + 1) (141, L, S, H, cs, ss) = pD S fun y S => pD S fun x r => orun code ret E0 0 n (142, L, .int (cmpValue (FP.dcmp x y) .g) :: r, H, cs, ss) := s_any k0_141
theorem s0_142 {n cs ss : Nat} {L : List Slot} {S : List Value} {H : AH} : orun code ret E0 0 (n + 1) (142, L, S, H, cs, ss) = pI S fun x r => if 0 < x then orun code ret E0 0 n (149, L, r, H, cs, ss) else orun code ret E0 0 n (145, L, r, H, cs, ss) := s_if (Q := fun x => 0 < x) (fun _ => z_gt) k0_142 (by decide) (by decide)
theorem s0_145 {n cs ss : Nat} {L : List Slot} {S : List Value} {H : AH} : orun code ret E0 0 (n + 1) (145, L, S, H, cs, ss) = orun code ret E0 0 n (146, L, (.int 1 :: S), H, cs, ss) := s_any k0_145
theorem s0_146 {n cs ss : Nat} {L : List Slot} {S : List Value} {H : AH} : orun code ret E0 0 (n + 1) (146, L, S, H, cs, ss) = orun code ret E0 0 n (150, L, S, H, cs, ss) := s_goto k0_146 (by decide) (by decide)
theorem s0_149 {n cs ss : Nat} {L : List Slot} {S : List Value} {H : AH} : orun code ret E0 0 (n + 1) (149, L, S, H, cs, ss) = orun code ret E0 0 n (150, L, (.int 0 :: S), H, cs, ss) := s_any k0_149
theorem s0_150 {n cs ss : Nat} {L : List Slot} {S : List Value} {H : AH} : orun code ret E0 0 (n + 1) (150, L, S, H, cs, ss) = pI S fun x r => (st1 L 21 (.int x)).bind fun L' => orun code ret E0 0 n (152, L', r, H, cs, ss) := s_any k0_150
theorem s0_152 {n cs ss : Nat} {L : List Slot} {S : List Value} {H : AH} : orun code ret E0 0 (n + 1) (152, L, S, H, cs, ss) = (gI L 21).bind fun v => orun code ret E0 0 n (154, L, .int v :: S, H, cs, ss) := s_any k0_152
theorem s0_154 {n cs ss : Nat} {L : List Slot} {S : List Value} {H : AH} : orun code ret E0 0 (n + 1) (154, L, S, H, cs, ss) = pI S fun x r => if x = 0 then orun code ret E0 0 n (188, L, r, H, cs, ss) else orun code ret E0 0 n (157, L, r, H, cs, ss) := s_if (Q := fun x => x = 0) (fun _ => z_eq) k0_154 (by decide) (by decide)
theorem s0_157 {n cs ss : Nat} {L : List Slot} {S : List Value} {H : AH} : orun code ret E0 0 (n + 1) (157, L, S, H, cs, ss) = (gL L 11).bind fun v => orun code ret E0 0 n (159, L, .long v :: S, H, cs, ss) := s_any k0_157
theorem s0_159 {n cs ss : Nat} {L : List Slot} {S : List Value} {H : AH} : orun code ret E0 0 (n + 1) (159, L, S, H, cs, ss) = orun code ret E0 0 n (160, L, (.long 0 :: S), H, cs, ss) := s_any k0_159
theorem s0_160 {n cs ss : Nat} {L : List Slot} {S : List Value} {H : AH} : orun code ret E0 0 (n + 1) (160, L, S, H, cs, ss) = ex ret E0 0 (orun code ret E0 0 n) (.lcmp) 160 L S H cs ss := s_any k0_160
theorem s0_161 {n cs ss : Nat} {L : List Slot} {S : List Value} {H : AH} : orun code ret E0 0 (n + 1) (161, L, S, H, cs, ss) = pI S fun x r => if x = 0 then orun code ret E0 0 n (164, L, r, H, cs, ss) else orun code ret E0 0 n (168, L, r, H, cs, ss) := s_ifN (Q := fun x => x = 0) (fun _ => z_ne) k0_161 (by decide) (by decide)
theorem s0_164 {n cs ss : Nat} {L : List Slot} {S : List Value} {H : AH} : orun code ret E0 0 (n + 1) (164, L, S, H, cs, ss) = orun code ret E0 0 n (165, L, (.int 1 :: S), H, cs, ss) := s_any k0_164
theorem s0_165 {n cs ss : Nat} {L : List Slot} {S : List Value} {H : AH} : orun code ret E0 0 (n + 1) (165, L, S, H, cs, ss) = orun code ret E0 0 n (169, L, S, H, cs, ss) := s_goto k0_165 (by decide) (by decide)
theorem s0_168 {n cs ss : Nat} {L : List Slot} {S : List Value} {H : AH} : orun code ret E0 0 (n + 1) (168, L, S, H, cs, ss) = orun code ret E0 0 n (169, L, (.int 0 :: S), H, cs, ss) := s_any k0_168
theorem s0_169 {n cs ss : Nat} {L : List Slot} {S : List Value} {H : AH} : orun code ret E0 0 (n + 1) (169, L, S, H, cs, ss) = (gD L 19).bind fun v => orun code ret E0 0 n (171, L, .double v :: S, H, cs, ss) := s_any k0_169
theorem s0_171 {n cs ss : Nat} {L : List Slot} {S : List Value} {H : AH} : orun code ret E0 0 (n + 1) (171, L, S, H, cs, ss) = orun code ret E0 0 n (172, L, (.double (dcv 0) :: S), H, cs, ss) := s_any k0_171
theorem s0_172 {n cs ss : Nat} {L : List Slot} {S : List Value} {H : AH} : orun code ret E0 0 (n + 1) (172, L, S, H, cs, ss) = pD S fun y S => pD S fun x r => orun code ret E0 0 n (173, L, .int (cmpValue (FP.dcmp x y) .l) :: r, H, cs, ss) := s_any k0_172
theorem s0_173 {n cs ss : Nat} {L : List Slot} {S : List Value} {H : AH} : orun code ret E0 0 (n + 1) (173, L, S, H, cs, ss) = pI S fun x r => if x = 0 then orun code ret E0 0 n (176, L, r, H, cs, ss) else orun code ret E0 0 n (180, L, r, H, cs, ss) := s_ifN (Q := fun x => x = 0) (fun _ => z_ne) k0_173 (by decide) (by decide)
theorem s0_176 {n cs ss : Nat} {L : List Slot} {S : List Value} {H : AH} : orun code ret E0 0 (n + 1) (176, L, S, H, cs, ss) = orun code ret E0 0 n (177, L, (.int 1 :: S), H, cs, ss) := s_any k0_176
theorem s0_177 {n cs ss : Nat} {L : List Slot} {S : List Value} {H : AH} : orun code ret E0 0 (n + 1) (177, L, S, H, cs, ss) = orun code ret E0 0 n (181, L, S, H, cs, ss) := s_goto k0_177 (by decide) (by decide)
theorem s0_180 {n cs ss : Nat} {L : List Slot} {S : List Value} {H : AH} : orun code ret E0 0 (n + 1) (180, L, S, H, cs, ss) = orun code ret E0 0 n (181, L, (.int 0 :: S), H, cs, ss) := s_any k0_180
theorem s0_181 {n cs ss : Nat} {L : List Slot} {S : List Value} {H : AH} : orun code ret E0 0 (n + 1) (181, L, S, H, cs, ss) = pI S fun y S => pI S fun x r => if x = y then orun code ret E0 0 n (184, L, r, H, cs, ss) else orun code ret E0 0 n (188, L, r, H, cs, ss) := s_icmpN (Q := fun x y => x = y) (fun _ _ => h_ne) k0_181 (by decide) (by decide)
theorem s0_184 {n cs ss : Nat} {L : List Slot} {S : List Value} {H : AH} : orun code ret E0 0 (n + 1) (184, L, S, H, cs, ss) = orun code ret E0 0 n (185, L, (.int 1 :: S), H, cs, ss) := s_any k0_184
theorem s0_185 {n cs ss : Nat} {L : List Slot} {S : List Value} {H : AH} : orun code ret E0 0 (n + 1) (185, L, S, H, cs, ss) = orun code ret E0 0 n (189, L, S, H, cs, ss) := s_goto k0_185 (by decide) (by decide)
theorem s0_188 {n cs ss : Nat} {L : List Slot} {S : List Value} {H : AH} : orun code ret E0 0 (n + 1) (188, L, S, H, cs, ss) = orun code ret E0 0 n (189, L, (.int 0 :: S), H, cs, ss) := s_any k0_188
theorem s0_189 {n cs ss : Nat} {L : List Slot} {S : List Value} {H : AH} : orun code ret E0 0 (n + 1) (189, L, S, H, cs, ss) = pI S fun x r => (st1 L 21 (.int x)).bind fun L' => orun code ret E0 0 n (191, L', r, H, cs, ss) := s_any k0_189
theorem s0_191 {n cs ss : Nat} {L : List Slot} {S : List Value} {H : AH} : orun code ret E0 0 (n + 1) (191, L, S, H, cs, ss) = (gL L 11).bind fun v => orun code ret E0 0 n (193, L, .long v :: S, H, cs, ss) := s_any k0_191
theorem s0_193 {n cs ss : Nat} {L : List Slot} {S : List Value} {H : AH} : orun code ret E0 0 (n + 1) (193, L, S, H, cs, ss) = (gL L 8).bind fun v => orun code ret E0 0 n (195, L, .long v :: S, H, cs, ss) := s_any k0_193
theorem s0_195 {n cs ss : Nat} {L : List Slot} {S : List Value} {H : AH} : orun code ret E0 0 (n + 1) (195, L, S, H, cs, ss) = ex ret E0 0 (orun code ret E0 0 n) (.lcmp) 195 L S H cs ss := s_any k0_195
theorem s0_196 {n cs ss : Nat} {L : List Slot} {S : List Value} {H : AH} : orun code ret E0 0 (n + 1) (196, L, S, H, cs, ss) = pI S fun x r => if x = 0 then orun code ret E0 0 n (199, L, r, H, cs, ss) else orun code ret E0 0 n (218, L, r, H, cs, ss) := s_ifN (Q := fun x => x = 0) (fun _ => z_ne) k0_196 (by decide) (by decide)
theorem s0_199 {n cs ss : Nat} {L : List Slot} {S : List Value} {H : AH} : orun code ret E0 0 (n + 1) (199, L, S, H, cs, ss) = (gI L 21).bind fun v => orun code ret E0 0 n (201, L, .int v :: S, H, cs, ss) := s_any k0_199
theorem s0_201 {n cs ss : Nat} {L : List Slot} {S : List Value} {H : AH} : orun code ret E0 0 (n + 1) (201, L, S, H, cs, ss) = pI S fun x r => if x = 0 then orun code ret E0 0 n (215, L, r, H, cs, ss) else orun code ret E0 0 n (204, L, r, H, cs, ss) := s_if (Q := fun x => x = 0) (fun _ => z_eq) k0_201 (by decide) (by decide)
theorem s0_204 {n cs ss : Nat} {L : List Slot} {S : List Value} {H : AH} : orun code ret E0 0 (n + 1) (204, L, S, H, cs, ss) = (gD L 19).bind fun v => orun code ret E0 0 n (206, L, .double v :: S, H, cs, ss) := s_any k0_204
theorem s0_206 {n cs ss : Nat} {L : List Slot} {S : List Value} {H : AH} : orun code ret E0 0 (n + 1) (206, L, S, H, cs, ss) = orun code ret E0 0 n (207, L, (.double (dcv 1) :: S), H, cs, ss) := s_any k0_206
theorem s0_207 {n cs ss : Nat} {L : List Slot} {S : List Value} {H : AH} : orun code ret E0 0 (n + 1) (207, L, S, H, cs, ss) = pD S fun y S => pD S fun x r => orun code ret E0 0 n (208, L, .int (cmpValue (FP.dcmp x y) .l) :: r, H, cs, ss) := s_any k0_207
theorem s0_208 {n cs ss : Nat} {L : List Slot} {S : List Value} {H : AH} : orun code ret E0 0 (n + 1) (208, L, S, H, cs, ss) = pI S fun x r => if x = 0 then orun code ret E0 0 n (211, L, r, H, cs, ss) else orun code ret E0 0 n (215, L, r, H, cs, ss) := s_ifN (Q := fun x => x = 0) (fun _ => z_ne) k0_208 (by decide) (by decide)
theorem s0_211 {n cs ss : Nat} {L : List Slot} {S : List Value} {H : AH} : orun code ret E0 0 (n + 1) (211, L, S, H, cs, ss) = orun code ret E0 0 n (212, L, (.int 1 :: S), H, cs, ss) := s_any k0_211
theorem s0_212 {n cs ss : Nat} {L : List Slot} {S : List Value} {H : AH} : orun code ret E0 0 (n + 1) (212, L, S, H, cs, ss) = orun code ret E0 0 n (216, L, S, H, cs, ss) := s_goto k0_212 (by decide) (by decide)
theorem s0_215 {n cs ss : Nat} {L : List Slot} {S : List Value} {H : AH} : orun code ret E0 0 (n + 1) (215, L, S, H, cs, ss) = orun code ret E0 0 n (216, L, (.int 0 :: S), H, cs, ss) := s_any k0_215
theorem s0_216 {n cs ss : Nat} {L : List Slot} {S : List Value} {H : AH} : orun code ret E0 0 (n + 1) (216, L, S, H, cs, ss) = pI S fun x r => (st1 L 21 (.int x)).bind fun L' => orun code ret E0 0 n (218, L', r, H, cs, ss) := s_any k0_216
theorem s0_218 {n cs ss : Nat} {L : List Slot} {S : List Value} {H : AH} : orun code ret E0 0 (n + 1) (218, L, S, H, cs, ss) = (gL L 11).bind fun v => orun code ret E0 0 n (220, L, .long v :: S, H, cs, ss) := s_any k0_218
theorem s0_220 {n cs ss : Nat} {L : List Slot} {S : List Value} {H : AH} : orun code ret E0 0 (n + 1) (220, L, S, H, cs, ss) = (gL L 8).bind fun v => orun code ret E0 0 n (222, L, .long v :: S, H, cs, ss) := s_any k0_220
theorem s0_222 {n cs ss : Nat} {L : List Slot} {S : List Value} {H : AH} : orun code ret E0 0 (n + 1) (222, L, S, H, cs, ss) = ex ret E0 0 (orun code ret E0 0 n) (.lcmp) 222 L S H cs ss := s_any k0_222
theorem s0_223 {n cs ss : Nat} {L : List Slot} {S : List Value} {H : AH} : orun code ret E0 0 (n + 1) (223, L, S, H, cs, ss) = pI S fun x r => if x < 0 then orun code ret E0 0 n (226, L, r, H, cs, ss) else orun code ret E0 0 n (254, L, r, H, cs, ss) := s_ifN (Q := fun x => x < 0) (fun _ => z_ge) k0_223 (by decide) (by decide)
theorem s0_226 {n cs ss : Nat} {L : List Slot} {S : List Value} {H : AH} : orun code ret E0 0 (n + 1) (226, L, S, H, cs, ss) = (gL L 8).bind fun v => orun code ret E0 0 n (228, L, .long v :: S, H, cs, ss) := s_any k0_226
theorem s0_228 {n cs ss : Nat} {L : List Slot} {S : List Value} {H : AH} : orun code ret E0 0 (n + 1) (228, L, S, H, cs, ss) = (aJ (9007199254740992) S H cs ss).bind fun r => orun code ret E0 0 n (231, L, r.1, r.2.1, r.2.2.1, r.2.2.2) := s_any k0_228
theorem s0_231 {n cs ss : Nat} {L : List Slot} {S : List Value} {H : AH} : orun code ret E0 0 (n + 1) (231, L, S, H, cs, ss) = ex ret E0 0 (orun code ret E0 0 n) (.lcmp) 231 L S H cs ss := s_any k0_231
theorem s0_232 {n cs ss : Nat} {L : List Slot} {S : List Value} {H : AH} : orun code ret E0 0 (n + 1) (232, L, S, H, cs, ss) = pI S fun x r => if 0 < x then orun code ret E0 0 n (254, L, r, H, cs, ss) else orun code ret E0 0 n (235, L, r, H, cs, ss) := s_if (Q := fun x => 0 < x) (fun _ => z_gt) k0_232 (by decide) (by decide)
theorem s0_235 {n cs ss : Nat} {L : List Slot} {S : List Value} {H : AH} : orun code ret E0 0 (n + 1) (235, L, S, H, cs, ss) = (gI L 21).bind fun v => orun code ret E0 0 n (237, L, .int v :: S, H, cs, ss) := s_any k0_235
theorem s0_237 {n cs ss : Nat} {L : List Slot} {S : List Value} {H : AH} : orun code ret E0 0 (n + 1) (237, L, S, H, cs, ss) = pI S fun x r => if x = 0 then orun code ret E0 0 n (251, L, r, H, cs, ss) else orun code ret E0 0 n (240, L, r, H, cs, ss) := s_if (Q := fun x => x = 0) (fun _ => z_eq) k0_237 (by decide) (by decide)
theorem s0_240 {n cs ss : Nat} {L : List Slot} {S : List Value} {H : AH} : orun code ret E0 0 (n + 1) (240, L, S, H, cs, ss) = (gD L 19).bind fun v => orun code ret E0 0 n (242, L, .double v :: S, H, cs, ss) := s_any k0_240
theorem s0_242 {n cs ss : Nat} {L : List Slot} {S : List Value} {H : AH} : orun code ret E0 0 (n + 1) (242, L, S, H, cs, ss) = orun code ret E0 0 n (243, L, (.double (dcv 1) :: S), H, cs, ss) := s_any k0_242
theorem s0_243 {n cs ss : Nat} {L : List Slot} {S : List Value} {H : AH} : orun code ret E0 0 (n + 1) (243, L, S, H, cs, ss) = pD S fun y S => pD S fun x r => orun code ret E0 0 n (244, L, .int (cmpValue (FP.dcmp x y) .g) :: r, H, cs, ss) := s_any k0_243
theorem s0_244 {n cs ss : Nat} {L : List Slot} {S : List Value} {H : AH} : orun code ret E0 0 (n + 1) (244, L, S, H, cs, ss) = pI S fun x r => if x < 0 then orun code ret E0 0 n (247, L, r, H, cs, ss) else orun code ret E0 0 n (251, L, r, H, cs, ss) := s_ifN (Q := fun x => x < 0) (fun _ => z_ge) k0_244 (by decide) (by decide)
theorem s0_247 {n cs ss : Nat} {L : List Slot} {S : List Value} {H : AH} : orun code ret E0 0 (n + 1) (247, L, S, H, cs, ss) = orun code ret E0 0 n (248, L, (.int 1 :: S), H, cs, ss) := s_any k0_247
theorem s0_248 {n cs ss : Nat} {L : List Slot} {S : List Value} {H : AH} : orun code ret E0 0 (n + 1) (248, L, S, H, cs, ss) = orun code ret E0 0 n (252, L, S, H, cs, ss) := s_goto k0_248 (by decide) (by decide)
theorem s0_251 {n cs ss : Nat} {L : List Slot} {S : List Value} {H : AH} : orun code ret E0 0 (n + 1) (251, L, S, H, cs, ss) = orun code ret E0 0 n (252, L, (.int 0 :: S), H, cs, ss) := s_any k0_251
theorem s0_252 {n cs ss : Nat} {L : List Slot} {S : List Value} {H : AH} : orun code ret E0 0 (n + 1) (252, L, S, H, cs, ss) = pI S fun x r => (st1 L 21 (.int x)).bind fun L' => orun code ret E0 0 n (254, L', r, H, cs, ss) := s_any k0_252
theorem s0_254 {n cs ss : Nat} {L : List Slot} {S : List Value} {H : AH} : orun code ret E0 0 (n + 1) (254, L, S, H, cs, ss) = (gL L 15).bind fun v => orun code ret E0 0 n (256, L, .long v :: S, H, cs, ss) := s_any k0_254
theorem s0_256 {n cs ss : Nat} {L : List Slot} {S : List Value} {H : AH} : orun code ret E0 0 (n + 1) (256, L, S, H, cs, ss) = (gL L 8).bind fun v => orun code ret E0 0 n (258, L, .long v :: S, H, cs, ss) := s_any k0_256
theorem s0_258 {n cs ss : Nat} {L : List Slot} {S : List Value} {H : AH} : orun code ret E0 0 (n + 1) (258, L, S, H, cs, ss) = (gI L 7).bind fun v => orun code ret E0 0 n (260, L, .int v :: S, H, cs, ss) := s_any k0_258
theorem s0_260 {n cs ss : Nat} {L : List Slot} {S : List Value} {H : AH} : orun code ret E0 0 (n + 1) (260, L, S, H, cs, ss) = (aCall 3 6 24 128 1 5 F3 S H cs ss).bind fun r => orun code ret E0 0 n (263, L, r.1, r.2.1, r.2.2.1, r.2.2.2) := s_any k0_260
theorem s0_263 {n cs ss : Nat} {L : List Slot} {S : List Value} {H : AH} : orun code ret E0 0 (n + 1) (263, L, S, H, cs, ss) = pD S fun x r => (st2D L 22 x).bind fun L' => orun code ret E0 0 n (265, L', r, H, cs, ss) := s_any k0_263
theorem s0_265 {n cs ss : Nat} {L : List Slot} {S : List Value} {H : AH} : orun code ret E0 0 (n + 1) (265, L, S, H, cs, ss) = (gL L 17).bind fun v => orun code ret E0 0 n (267, L, .long v :: S, H, cs, ss) := s_any k0_265
theorem s0_267 {n cs ss : Nat} {L : List Slot} {S : List Value} {H : AH} : orun code ret E0 0 (n + 1) (267, L, S, H, cs, ss) = (gL L 8).bind fun v => orun code ret E0 0 n (269, L, .long v :: S, H, cs, ss) := s_any k0_267
theorem s0_269 {n cs ss : Nat} {L : List Slot} {S : List Value} {H : AH} : orun code ret E0 0 (n + 1) (269, L, S, H, cs, ss) = (gI L 7).bind fun v => orun code ret E0 0 n (271, L, .int v :: S, H, cs, ss) := s_any k0_269
theorem s0_271 {n cs ss : Nat} {L : List Slot} {S : List Value} {H : AH} : orun code ret E0 0 (n + 1) (271, L, S, H, cs, ss) = (aCall 3 6 24 128 1 5 F3 S H cs ss).bind fun r => orun code ret E0 0 n (274, L, r.1, r.2.1, r.2.2.1, r.2.2.2) := s_any k0_271
theorem s0_274 {n cs ss : Nat} {L : List Slot} {S : List Value} {H : AH} : orun code ret E0 0 (n + 1) (274, L, S, H, cs, ss) = pD S fun x r => (st2D L 24 x).bind fun L' => orun code ret E0 0 n (276, L', r, H, cs, ss) := s_any k0_274
theorem s0_276 {n cs ss : Nat} {L : List Slot} {S : List Value} {H : AH} : orun code ret E0 0 (n + 1) (276, L, S, H, cs, ss) = (gI L 21).bind fun v => orun code ret E0 0 n (278, L, .int v :: S, H, cs, ss) := s_any k0_276
theorem s0_278 {n cs ss : Nat} {L : List Slot} {S : List Value} {H : AH} : orun code ret E0 0 (n + 1) (278, L, S, H, cs, ss) = pI S fun x r => if x = 0 then orun code ret E0 0 n (293, L, r, H, cs, ss) else orun code ret E0 0 n (281, L, r, H, cs, ss) := s_if (Q := fun x => x = 0) (fun _ => z_eq) k0_278 (by decide) (by decide)
theorem s0_281 {n cs ss : Nat} {L : List Slot} {S : List Value} {H : AH} : orun code ret E0 0 (n + 1) (281, L, S, H, cs, ss) = (gD L 22).bind fun v => orun code ret E0 0 n (283, L, .double v :: S, H, cs, ss) := s_any k0_281
theorem s0_283 {n cs ss : Nat} {L : List Slot} {S : List Value} {H : AH} : orun code ret E0 0 (n + 1) (283, L, S, H, cs, ss) = (gD L 24).bind fun v => orun code ret E0 0 n (285, L, .double v :: S, H, cs, ss) := s_any k0_283
theorem s0_285 {n cs ss : Nat} {L : List Slot} {S : List Value} {H : AH} : orun code ret E0 0 (n + 1) (285, L, S, H, cs, ss) = pD S fun y S => pD S fun x r => orun code ret E0 0 n (286, L, .int (cmpValue (FP.dcmp x y) .g) :: r, H, cs, ss) := s_any k0_285
theorem s0_286 {n cs ss : Nat} {L : List Slot} {S : List Value} {H : AH} : orun code ret E0 0 (n + 1) (286, L, S, H, cs, ss) = pI S fun x r => if 0 < x then orun code ret E0 0 n (293, L, r, H, cs, ss) else orun code ret E0 0 n (289, L, r, H, cs, ss) := s_if (Q := fun x => 0 < x) (fun _ => z_gt) k0_286 (by decide) (by decide)
theorem s0_289 {n cs ss : Nat} {L : List Slot} {S : List Value} {H : AH} : orun code ret E0 0 (n + 1) (289, L, S, H, cs, ss) = orun code ret E0 0 n (290, L, (.int 1 :: S), H, cs, ss) := s_any k0_289
theorem s0_290 {n cs ss : Nat} {L : List Slot} {S : List Value} {H : AH} : orun code ret E0 0 (n + 1) (290, L, S, H, cs, ss) = orun code ret E0 0 n (294, L, S, H, cs, ss) := s_goto k0_290 (by decide) (by decide)
theorem s0_293 {n cs ss : Nat} {L : List Slot} {S : List Value} {H : AH} : orun code ret E0 0 (n + 1) (293, L, S, H, cs, ss) = orun code ret E0 0 n (294, L, (.int 0 :: S), H, cs, ss) := s_any k0_293
theorem s0_294 {n cs ss : Nat} {L : List Slot} {S : List Value} {H : AH} : orun code ret E0 0 (n + 1) (294, L, S, H, cs, ss) = pI S fun x r => (st1 L 21 (.int x)).bind fun L' => orun code ret E0 0 n (296, L', r, H, cs, ss) := s_any k0_294
theorem s0_296 {n cs ss : Nat} {L : List Slot} {S : List Value} {H : AH} : orun code ret E0 0 (n + 1) (296, L, S, H, cs, ss) = (gL L 8).bind fun v => orun code ret E0 0 n (298, L, .long v :: S, H, cs, ss) := s_any k0_296
theorem s0_298 {n cs ss : Nat} {L : List Slot} {S : List Value} {H : AH} : orun code ret E0 0 (n + 1) (298, L, S, H, cs, ss) = (gL L 4).bind fun v => orun code ret E0 0 n (300, L, .long v :: S, H, cs, ss) := s_any k0_298
theorem s0_300 {n cs ss : Nat} {L : List Slot} {S : List Value} {H : AH} : orun code ret E0 0 (n + 1) (300, L, S, H, cs, ss) = (aJ (9223372036854775807) S H cs ss).bind fun r => orun code ret E0 0 n (303, L, r.1, r.2.1, r.2.2.1, r.2.2.2) := s_any k0_300
theorem s0_303 {n cs ss : Nat} {L : List Slot} {S : List Value} {H : AH} : orun code ret E0 0 (n + 1) (303, L, S, H, cs, ss) = pL S fun y S => pL S fun x r => orun code ret E0 0 n (304, L, .long (x &&& y) :: r, H, cs, ss) := s_any k0_303
theorem s0_304 {n cs ss : Nat} {L : List Slot} {S : List Value} {H : AH} : orun code ret E0 0 (n + 1) (304, L, S, H, cs, ss) = (aCall 2 6 24 128 0 0 F2 S H cs ss).bind fun r => orun code ret E0 0 n (307, L, r.1, r.2.1, r.2.2.1, r.2.2.2) := s_any k0_304
theorem s0_307 {n cs ss : Nat} {L : List Slot} {S : List Value} {H : AH} : orun code ret E0 0 (n + 1) (307, L, S, H, cs, ss) = pL S fun x r => (st2 L 26 x).bind fun L' => orun code ret E0 0 n (309, L', r, H, cs, ss) := s_any k0_307
theorem s0_309 {n cs ss : Nat} {L : List Slot} {S : List Value} {H : AH} : orun code ret E0 0 (n + 1) (309, L, S, H, cs, ss) = (gL L 11).bind fun v => orun code ret E0 0 n (311, L, .long v :: S, H, cs, ss) := s_any k0_309
theorem s0_311 {n cs ss : Nat} {L : List Slot} {S : List Value} {H : AH} : orun code ret E0 0 (n + 1) (311, L, S, H, cs, ss) = (gL L 26).bind fun v => orun code ret E0 0 n (313, L, .long v :: S, H, cs, ss) := s_any k0_311
theorem s0_313 {n cs ss : Nat} {L : List Slot} {S : List Value} {H : AH} : orun code ret E0 0 (n + 1) (313, L, S, H, cs, ss) = (gI L 7).bind fun v => orun code ret E0 0 n (315, L, .int v :: S, H, cs, ss) := s_any k0_313
theorem s0_315 {n cs ss : Nat} {L : List Slot} {S : List Value} {H : AH} : orun code ret E0 0 (n + 1) (315, L, S, H, cs, ss) = (aCall 3 6 24 128 1 5 F3 S H cs ss).bind fun r => orun code ret E0 0 n (318, L, r.1, r.2.1, r.2.2.1, r.2.2.2) := s_any k0_315
theorem s0_318 {n cs ss : Nat} {L : List Slot} {S : List Value} {H : AH} : orun code ret E0 0 (n + 1) (318, L, S, H, cs, ss) = pD S fun x r => (st2D L 28 x).bind fun L' => orun code ret E0 0 n (320, L', r, H, cs, ss) := s_any k0_318
theorem s0_320 {n cs ss : Nat} {L : List Slot} {S : List Value} {H : AH} : orun code ret E0 0 (n + 1) (320, L, S, H, cs, ss) = (gI L 21).bind fun v => orun code ret E0 0 n (322, L, .int v :: S, H, cs, ss) := s_any k0_320
theorem s0_322 {n cs ss : Nat} {L : List Slot} {S : List Value} {H : AH} : orun code ret E0 0 (n + 1) (322, L, S, H, cs, ss) = pI S fun x r => if x = 0 then orun code ret E0 0 n (337, L, r, H, cs, ss) else orun code ret E0 0 n (325, L, r, H, cs, ss) := s_if (Q := fun x => x = 0) (fun _ => z_eq) k0_322 (by decide) (by decide)
theorem s0_325 {n cs ss : Nat} {L : List Slot} {S : List Value} {H : AH} : orun code ret E0 0 (n + 1) (325, L, S, H, cs, ss) = (gD L 28).bind fun v => orun code ret E0 0 n (327, L, .double v :: S, H, cs, ss) := s_any k0_325
theorem s0_327 {n cs ss : Nat} {L : List Slot} {S : List Value} {H : AH} : orun code ret E0 0 (n + 1) (327, L, S, H, cs, ss) = (gD L 19).bind fun v => orun code ret E0 0 n (329, L, .double v :: S, H, cs, ss) := s_any k0_327
theorem s0_329 {n cs ss : Nat} {L : List Slot} {S : List Value} {H : AH} : orun code ret E0 0 (n + 1) (329, L, S, H, cs, ss) = pD S fun y S => pD S fun x r => orun code ret E0 0 n (330, L, .int (cmpValue (FP.dcmp x y) .g) :: r, H, cs, ss) := s_any k0_329
theorem s0_330 {n cs ss : Nat} {L : List Slot} {S : List Value} {H : AH} : orun code ret E0 0 (n + 1) (330, L, S, H, cs, ss) = pI S fun x r => if 0 < x then orun code ret E0 0 n (337, L, r, H, cs, ss) else orun code ret E0 0 n (333, L, r, H, cs, ss) := s_if (Q := fun x => 0 < x) (fun _ => z_gt) k0_330 (by decide) (by decide)
theorem s0_333 {n cs ss : Nat} {L : List Slot} {S : List Value} {H : AH} : orun code ret E0 0 (n + 1) (333, L, S, H, cs, ss) = orun code ret E0 0 n (334, L, (.int 1 :: S), H, cs, ss) := s_any k0_333
theorem s0_334 {n cs ss : Nat} {L : List Slot} {S : List Value} {H : AH} : orun code ret E0 0 (n + 1) (334, L, S, H, cs, ss) = orun code ret E0 0 n (338, L, S, H, cs, ss) := s_goto k0_334 (by decide) (by decide)
theorem s0_337 {n cs ss : Nat} {L : List Slot} {S : List Value} {H : AH} : orun code ret E0 0 (n + 1) (337, L, S, H, cs, ss) = orun code ret E0 0 n (338, L, (.int 0 :: S), H, cs, ss) := s_any k0_337
theorem s0_338 {n cs ss : Nat} {L : List Slot} {S : List Value} {H : AH} : orun code ret E0 0 (n + 1) (338, L, S, H, cs, ss) = pI S fun x r => (st1 L 21 (.int x)).bind fun L' => orun code ret E0 0 n (340, L', r, H, cs, ss) := s_any k0_338
theorem s0_340 {n cs ss : Nat} {L : List Slot} {S : List Value} {H : AH} : orun code ret E0 0 (n + 1) (340, L, S, H, cs, ss) = (gL L 8).bind fun v => orun code ret E0 0 n (342, L, .long v :: S, H, cs, ss) := s_any k0_340
theorem s0_342 {n cs ss : Nat} {L : List Slot} {S : List Value} {H : AH} : orun code ret E0 0 (n + 1) (342, L, S, H, cs, ss) = (aJ (4611686018427387903) S H cs ss).bind fun r => orun code ret E0 0 n (345, L, r.1, r.2.1, r.2.2.1, r.2.2.2) := s_any k0_342
theorem s0_345 {n cs ss : Nat} {L : List Slot} {S : List Value} {H : AH} : orun code ret E0 0 (n + 1) (345, L, S, H, cs, ss) = ex ret E0 0 (orun code ret E0 0 n) (.lcmp) 345 L S H cs ss := s_any k0_345
theorem s0_346 {n cs ss : Nat} {L : List Slot} {S : List Value} {H : AH} : orun code ret E0 0 (n + 1) (346, L, S, H, cs, ss) = pI S fun x r => if 0 < x then orun code ret E0 0 n (396, L, r, H, cs, ss) else orun code ret E0 0 n (349, L, r, H, cs, ss) := s_if (Q := fun x => 0 < x) (fun _ => z_gt) k0_346 (by decide) (by decide)
theorem s0_349 {n cs ss : Nat} {L : List Slot} {S : List Value} {H : AH} : orun code ret E0 0 (n + 1) (349, L, S, H, cs, ss) = (aJ (2) S H cs ss).bind fun r => orun code ret E0 0 n (352, L, r.1, r.2.1, r.2.2.1, r.2.2.2) := s_any k0_349
theorem s0_352 {n cs ss : Nat} {L : List Slot} {S : List Value} {H : AH} : orun code ret E0 0 (n + 1) (352, L, S, H, cs, ss) = (gL L 11).bind fun v => orun code ret E0 0 n (354, L, .long v :: S, H, cs, ss) := s_any k0_352
theorem s0_354 {n cs ss : Nat} {L : List Slot} {S : List Value} {H : AH} : orun code ret E0 0 (n + 1) (354, L, S, H, cs, ss) = pL S fun y S => pL S fun x r => orun code ret E0 0 n (355, L, .long (x * y) :: r, H, cs, ss) := s_any k0_354
theorem s0_355 {n cs ss : Nat} {L : List Slot} {S : List Value} {H : AH} : orun code ret E0 0 (n + 1) (355, L, S, H, cs, ss) = (aJ (2) S H cs ss).bind fun r => orun code ret E0 0 n (358, L, r.1, r.2.1, r.2.2.1, r.2.2.2) := s_any k0_355
theorem s0_358 {n cs ss : Nat} {L : List Slot} {S : List Value} {H : AH} : orun code ret E0 0 (n + 1) (358, L, S, H, cs, ss) = (gL L 8).bind fun v => orun code ret E0 0 n (360, L, .long v :: S, H, cs, ss) := s_any k0_358
theorem s0_360 {n cs ss : Nat} {L : List Slot} {S : List Value} {H : AH} : orun code ret E0 0 (n + 1) (360, L, S, H, cs, ss) = pL S fun y S => pL S fun x r => orun code ret E0 0 n (361, L, .long (x * y) :: r, H, cs, ss) := s_any k0_360
theorem s0_361 {n cs ss : Nat} {L : List Slot} {S : List Value} {H : AH} : orun code ret E0 0 (n + 1) (361, L, S, H, cs, ss) = (gI L 7).bind fun v => orun code ret E0 0 n (363, L, .int v :: S, H, cs, ss) := s_any k0_361
theorem s0_363 {n cs ss : Nat} {L : List Slot} {S : List Value} {H : AH} : orun code ret E0 0 (n + 1) (363, L, S, H, cs, ss) = pI S fun x r => if x = 0 then orun code ret E0 0 n (366, L, r, H, cs, ss) else orun code ret E0 0 n (370, L, r, H, cs, ss) := s_ifN (Q := fun x => x = 0) (fun _ => z_ne) k0_363 (by decide) (by decide)
theorem s0_366 {n cs ss : Nat} {L : List Slot} {S : List Value} {H : AH} : orun code ret E0 0 (n + 1) (366, L, S, H, cs, ss) = orun code ret E0 0 n (367, L, (.int 1 :: S), H, cs, ss) := s_any k0_366
theorem s0_367 {n cs ss : Nat} {L : List Slot} {S : List Value} {H : AH} : orun code ret E0 0 (n + 1) (367, L, S, H, cs, ss) = orun code ret E0 0 n (371, L, S, H, cs, ss) := s_goto k0_367 (by decide) (by decide)
theorem s0_370 {n cs ss : Nat} {L : List Slot} {S : List Value} {H : AH} : orun code ret E0 0 (n + 1) (370, L, S, H, cs, ss) = orun code ret E0 0 n (371, L, (.int 0 :: S), H, cs, ss) := s_any k0_370
theorem s0_371 {n cs ss : Nat} {L : List Slot} {S : List Value} {H : AH} : orun code ret E0 0 (n + 1) (371, L, S, H, cs, ss) = (aCall 3 6 24 128 1 5 F3 S H cs ss).bind fun r => orun code ret E0 0 n (374, L, r.1, r.2.1, r.2.2.1, r.2.2.2) := s_any k0_371
theorem s0_374 {n cs ss : Nat} {L : List Slot} {S : List Value} {H : AH} : orun code ret E0 0 (n + 1) (374, L, S, H, cs, ss) = pD S fun x r => (st2D L 30 x).bind fun L' => orun code ret E0 0 n (376, L', r, H, cs, ss) := s_any k0_374
theorem s0_376 {n cs ss : Nat} {L : List Slot} {S : List Value} {H : AH} : orun code ret E0 0 (n + 1) (376, L, S, H, cs, ss) = (gI L 21).bind fun v => orun code ret E0 0 n (378, L, .int v :: S, H, cs, ss) := s_any k0_376
theorem s0_378 {n cs ss : Nat} {L : List Slot} {S : List Value} {H : AH} : orun code ret E0 0 (n + 1) (378, L, S, H, cs, ss) = pI S fun x r => if x = 0 then orun code ret E0 0 n (393, L, r, H, cs, ss) else orun code ret E0 0 n (381, L, r, H, cs, ss) := s_if (Q := fun x => x = 0) (fun _ => z_eq) k0_378 (by decide) (by decide)
theorem s0_381 {n cs ss : Nat} {L : List Slot} {S : List Value} {H : AH} : orun code ret E0 0 (n + 1) (381, L, S, H, cs, ss) = (gD L 30).bind fun v => orun code ret E0 0 n (383, L, .double v :: S, H, cs, ss) := s_any k0_381
theorem s0_383 {n cs ss : Nat} {L : List Slot} {S : List Value} {H : AH} : orun code ret E0 0 (n + 1) (383, L, S, H, cs, ss) = (gD L 19).bind fun v => orun code ret E0 0 n (385, L, .double v :: S, H, cs, ss) := s_any k0_383
theorem s0_385 {n cs ss : Nat} {L : List Slot} {S : List Value} {H : AH} : orun code ret E0 0 (n + 1) (385, L, S, H, cs, ss) = pD S fun y S => pD S fun x r => orun code ret E0 0 n (386, L, .int (cmpValue (FP.dcmp x y) .l) :: r, H, cs, ss) := s_any k0_385
theorem s0_386 {n cs ss : Nat} {L : List Slot} {S : List Value} {H : AH} : orun code ret E0 0 (n + 1) (386, L, S, H, cs, ss) = pI S fun x r => if x = 0 then orun code ret E0 0 n (389, L, r, H, cs, ss) else orun code ret E0 0 n (393, L, r, H, cs, ss) := s_ifN (Q := fun x => x = 0) (fun _ => z_ne) k0_386 (by decide) (by decide)
theorem s0_389 {n cs ss : Nat} {L : List Slot} {S : List Value} {H : AH} : orun code ret E0 0 (n + 1) (389, L, S, H, cs, ss) = orun code ret E0 0 n (390, L, (.int 1 :: S), H, cs, ss) := s_any k0_389
theorem s0_390 {n cs ss : Nat} {L : List Slot} {S : List Value} {H : AH} : orun code ret E0 0 (n + 1) (390, L, S, H, cs, ss) = orun code ret E0 0 n (394, L, S, H, cs, ss) := s_goto k0_390 (by decide) (by decide)
theorem s0_393 {n cs ss : Nat} {L : List Slot} {S : List Value} {H : AH} : orun code ret E0 0 (n + 1) (393, L, S, H, cs, ss) = orun code ret E0 0 n (394, L, (.int 0 :: S), H, cs, ss) := s_any k0_393
theorem s0_394 {n cs ss : Nat} {L : List Slot} {S : List Value} {H : AH} : orun code ret E0 0 (n + 1) (394, L, S, H, cs, ss) = pI S fun x r => (st1 L 21 (.int x)).bind fun L' => orun code ret E0 0 n (396, L', r, H, cs, ss) := s_any k0_394
theorem s0_396 {n cs ss : Nat} {L : List Slot} {S : List Value} {H : AH} : orun code ret E0 0 (n + 1) (396, L, S, H, cs, ss) = (gL L 17).bind fun v => orun code ret E0 0 n (398, L, .long v :: S, H, cs, ss) := s_any k0_396
theorem s0_398 {n cs ss : Nat} {L : List Slot} {S : List Value} {H : AH} : orun code ret E0 0 (n + 1) (398, L, S, H, cs, ss) = orun code ret E0 0 n (399, L, (.long 0 :: S), H, cs, ss) := s_any k0_398
theorem s0_399 {n cs ss : Nat} {L : List Slot} {S : List Value} {H : AH} : orun code ret E0 0 (n + 1) (399, L, S, H, cs, ss) = ex ret E0 0 (orun code ret E0 0 n) (.lcmp) 399 L S H cs ss := s_any k0_399
theorem s0_400 {n cs ss : Nat} {L : List Slot} {S : List Value} {H : AH} : orun code ret E0 0 (n + 1) (400, L, S, H, cs, ss) = pI S fun x r => if 0 < x then orun code ret E0 0 n (403, L, r, H, cs, ss) else orun code ret E0 0 n (448, L, r, H, cs, ss) := s_ifN (Q := fun x => 0 < x) (fun _ => z_le) k0_400 (by decide) (by decide)
theorem s0_403 {n cs ss : Nat} {L : List Slot} {S : List Value} {H : AH} : orun code ret E0 0 (n + 1) (403, L, S, H, cs, ss) = (gL L 17).bind fun v => orun code ret E0 0 n (405, L, .long v :: S, H, cs, ss) := s_any k0_403
theorem s0_405 {n cs ss : Nat} {L : List Slot} {S : List Value} {H : AH} : orun code ret E0 0 (n + 1) (405, L, S, H, cs, ss) = (aJ (4611686018427387903) S H cs ss).bind fun r => orun code ret E0 0 n (408, L, r.1, r.2.1, r.2.2.1, r.2.2.2) := s_any k0_405
theorem s0_408 {n cs ss : Nat} {L : List Slot} {S : List Value} {H : AH} : orun code ret E0 0 (n + 1) (408, L, S, H, cs, ss) = ex ret E0 0 (orun code ret E0 0 n) (.lcmp) 408 L S H cs ss := s_any k0_408
theorem s0_409 {n cs ss : Nat} {L : List Slot} {S : List Value} {H : AH} : orun code ret E0 0 (n + 1) (409, L, S, H, cs, ss) = pI S fun x r => if 0 < x then orun code ret E0 0 n (448, L, r, H, cs, ss) else orun code ret E0 0 n (412, L, r, H, cs, ss) := s_if (Q := fun x => 0 < x) (fun _ => z_gt) k0_409 (by decide) (by decide)
theorem s0_412 {n cs ss : Nat} {L : List Slot} {S : List Value} {H : AH} : orun code ret E0 0 (n + 1) (412, L, S, H, cs, ss) = (gL L 17).bind fun v => orun code ret E0 0 n (414, L, .long v :: S, H, cs, ss) := s_any k0_412
theorem s0_414 {n cs ss : Nat} {L : List Slot} {S : List Value} {H : AH} : orun code ret E0 0 (n + 1) (414, L, S, H, cs, ss) = (aJ (2) S H cs ss).bind fun r => orun code ret E0 0 n (417, L, r.1, r.2.1, r.2.2.1, r.2.2.2) := s_any k0_414
theorem s0_417 {n cs ss : Nat} {L : List Slot} {S : List Value} {H : AH} : orun code ret E0 0 (n + 1) (417, L, S, H, cs, ss) = (gL L 17).bind fun v => orun code ret E0 0 n (419, L, .long v :: S, H, cs, ss) := s_any k0_417
theorem s0_419 {n cs ss : Nat} {L : List Slot} {S : List Value} {H : AH} : orun code ret E0 0 (n + 1) (419, L, S, H, cs, ss) = pL S fun y S => pL S fun x r => orun code ret E0 0 n (420, L, .long (x * y) :: r, H, cs, ss) := s_any k0_419
theorem s0_420 {n cs ss : Nat} {L : List Slot} {S : List Value} {H : AH} : orun code ret E0 0 (n + 1) (420, L, S, H, cs, ss) = (gI L 7).bind fun v => orun code ret E0 0 n (422, L, .int v :: S, H, cs, ss) := s_any k0_420
theorem s0_422 {n cs ss : Nat} {L : List Slot} {S : List Value} {H : AH} : orun code ret E0 0 (n + 1) (422, L, S, H, cs, ss) = (aCall 3 6 24 128 1 5 F3 S H cs ss).bind fun r => orun code ret E0 0 n (425, L, r.1, r.2.1, r.2.2.1, r.2.2.2) := s_any k0_422
theorem s0_425 {n cs ss : Nat} {L : List Slot} {S : List Value} {H : AH} : orun code ret E0 0 (n + 1) (425, L, S, H, cs, ss) = pD S fun x r => (st2D L 30 x).bind fun L' => orun code ret E0 0 n (427, L', r, H, cs, ss) := s_any k0_425
theorem s0_427 {n cs ss : Nat} {L : List Slot} {S : List Value} {H : AH} : orun code ret E0 0 (n + 1) (427, L, S, H, cs, ss) = (gI L 21).bind fun v => orun code ret E0 0 n (429, L, .int v :: S, H, cs, ss) := s_any k0_427
theorem s0_429 {n cs ss : Nat} {L : List Slot} {S : List Value} {H : AH} : orun code ret E0 0 (n + 1) (429, L, S, H, cs, ss) = pI S fun x r => if x = 0 then orun code ret E0 0 n (445, L, r, H, cs, ss) else orun code ret E0 0 n (432, L, r, H, cs, ss) := s_if (Q := fun x => x = 0) (fun _ => z_eq) k0_429 (by decide) (by decide)
theorem s0_432 {n cs ss : Nat} {L : List Slot} {S : List Value} {H : AH} : orun code ret E0 0 (n + 1) (432, L, S, H, cs, ss) = (gD L 30).bind fun v => orun code ret E0 0 n (434, L, .double v :: S, H, cs, ss) := s_any k0_432
theorem s0_434 {n cs ss : Nat} {L : List Slot} {S : List Value} {H : AH} : orun code ret E0 0 (n + 1) (434, L, S, H, cs, ss) = (aD (4602678819172646912) S H cs ss).bind fun r => orun code ret E0 0 n (437, L, r.1, r.2.1, r.2.2.1, r.2.2.2) := s_any k0_434
theorem s0_437 {n cs ss : Nat} {L : List Slot} {S : List Value} {H : AH} : orun code ret E0 0 (n + 1) (437, L, S, H, cs, ss) = pD S fun y S => pD S fun x r => orun code ret E0 0 n (438, L, .int (cmpValue (FP.dcmp x y) .l) :: r, H, cs, ss) := s_any k0_437
theorem s0_438 {n cs ss : Nat} {L : List Slot} {S : List Value} {H : AH} : orun code ret E0 0 (n + 1) (438, L, S, H, cs, ss) = pI S fun x r => if x = 0 then orun code ret E0 0 n (441, L, r, H, cs, ss) else orun code ret E0 0 n (445, L, r, H, cs, ss) := s_ifN (Q := fun x => x = 0) (fun _ => z_ne) k0_438 (by decide) (by decide)
theorem s0_441 {n cs ss : Nat} {L : List Slot} {S : List Value} {H : AH} : orun code ret E0 0 (n + 1) (441, L, S, H, cs, ss) = orun code ret E0 0 n (442, L, (.int 1 :: S), H, cs, ss) := s_any k0_441
theorem s0_442 {n cs ss : Nat} {L : List Slot} {S : List Value} {H : AH} : orun code ret E0 0 (n + 1) (442, L, S, H, cs, ss) = orun code ret E0 0 n (446, L, S, H, cs, ss) := s_goto k0_442 (by decide) (by decide)
theorem s0_445 {n cs ss : Nat} {L : List Slot} {S : List Value} {H : AH} : orun code ret E0 0 (n + 1) (445, L, S, H, cs, ss) = orun code ret E0 0 n (446, L, (.int 0 :: S), H, cs, ss) := s_any k0_445
theorem s0_446 {n cs ss : Nat} {L : List Slot} {S : List Value} {H : AH} : orun code ret E0 0 (n + 1) (446, L, S, H, cs, ss) = pI S fun x r => (st1 L 21 (.int x)).bind fun L' => orun code ret E0 0 n (448, L', r, H, cs, ss) := s_any k0_446
theorem s0_448 {n cs ss : Nat} {L : List Slot} {S : List Value} {H : AH} : orun code ret E0 0 (n + 1) (448, L, S, H, cs, ss) = (gI L 21).bind fun v => orun code ret E0 0 n (450, L, .int v :: S, H, cs, ss) := s_any k0_448
theorem s0_450 {n cs ss : Nat} {L : List Slot} {S : List Value} {H : AH} : orun code ret E0 0 (n + 1) (450, L, S, H, cs, ss) = pI S fun z _ => some (some (.int (z &&& 1)), H) := s_any k0_450
theorem t0_0 {go : Nat → St → Option ORes} (hgo : go = orun code ret E0 0) {n cs ss : Nat} {l0 l1 l2 l3 l4 l5 l7 l8 l9 l10 l11 l12 l13 l14 l15 l16 l17 l18 l19 l20 l21 l22 l23 l24 l25 l26 l27 l28 l29 l30 l31 : Slot} {S : List Value} {H : AH} {q : Option ORes → Prop} {v : Int32} (h : Rsq (go n (2, [l0, l1, l2, l3, l4, l5, .val (.int v), l7, l8, l9, l10, l11, l12, l13, l14, l15, l16, l17, l18, l19, l20, l21, l22, l23, l24, l25, l26, l27, l28, l29, l30, l31], (.int v :: S), H, cs, ss)) q) : Rsq (go (n + 1) (0, [l0, l1, l2, l3, l4, l5, .val (.int v), l7, l8, l9, l10, l11, l12, l13, l14, l15, l16, l17, l18, l19, l20, l21, l22, l23, l24, l25, l26, l27, l28, l29, l30, l31], S, H, cs, ss)) q := by
  subst hgo
  exact res_of s0_0 h
theorem t0_2 {go : Nat → St → Option ORes} (hgo : go = orun code ret E0 0) {n cs ss : Nat} {L : List Slot} {S : List Value} {H : AH} {q : Option ORes → Prop} (h : Rsq (go n (4, L, (.int 8 :: S), H, cs, ss)) q) : Rsq (go (n + 1) (2, L, S, H, cs, ss)) q := by
  subst hgo
  exact res_of s0_2 h
theorem t0_4 {go : Nat → St → Option ORes} (hgo : go = orun code ret E0 0) {n cs ss : Nat} {L : List Slot} {S : List Value} {H : AH} {q : Option ORes → Prop} {x y : Int32} (h : Rsq (go n (5, L, (.int (x &&& y) :: S), H, cs, ss)) q) : Rsq (go (n + 1) (4, L, (.int y :: .int x :: S), H, cs, ss)) q := by
  subst hgo
  exact res_of s0_4 h
theorem t0_5t {go : Nat → St → Option ORes} (hgo : go = orun code ret E0 0) {n cs ss : Nat} {L : List Slot} {S : List Value} {H : AH} {q : Option ORes → Prop} {x : Int32} (hc : x = 0) (h : Rsq (go n (12, L, S, H, cs, ss)) q) : Rsq (go (n + 1) (5, L, (.int x :: S), H, cs, ss)) q := by
  subst hgo
  exact res_of s0_5 (res_t hc h)
theorem t0_5f {go : Nat → St → Option ORes} (hgo : go = orun code ret E0 0) {n cs ss : Nat} {L : List Slot} {S : List Value} {H : AH} {q : Option ORes → Prop} {x : Int32} (hc : ¬ x = 0) (h : Rsq (go n (8, L, S, H, cs, ss)) q) : Rsq (go (n + 1) (5, L, (.int x :: S), H, cs, ss)) q := by
  subst hgo
  exact res_of s0_5 (res_f hc h)
theorem t0_8 {go : Nat → St → Option ORes} (hgo : go = orun code ret E0 0) {n cs ss : Nat} {L : List Slot} {S : List Value} {H : AH} {q : Option ORes → Prop} (h : Rsq (go n (9, L, (.int 1 :: S), H, cs, ss)) q) : Rsq (go (n + 1) (8, L, S, H, cs, ss)) q := by
  subst hgo
  exact res_of s0_8 h
theorem t0_9 {go : Nat → St → Option ORes} (hgo : go = orun code ret E0 0) {n cs ss : Nat} {L : List Slot} {S : List Value} {H : AH} {q : Option ORes → Prop} (h : Rsq (go n (13, L, S, H, cs, ss)) q) : Rsq (go (n + 1) (9, L, S, H, cs, ss)) q := by
  subst hgo
  exact res_of s0_9 h
theorem t0_12 {go : Nat → St → Option ORes} (hgo : go = orun code ret E0 0) {n cs ss : Nat} {L : List Slot} {S : List Value} {H : AH} {q : Option ORes → Prop} (h : Rsq (go n (13, L, (.int 0 :: S), H, cs, ss)) q) : Rsq (go (n + 1) (12, L, S, H, cs, ss)) q := by
  subst hgo
  exact res_of s0_12 h
theorem t0_13 {go : Nat → St → Option ORes} (hgo : go = orun code ret E0 0) {n cs ss : Nat} {l0 l1 l2 l3 l4 l5 l6 l7 l8 l9 l10 l11 l12 l13 l14 l15 l16 l17 l18 l19 l20 l21 l22 l23 l24 l25 l26 l27 l28 l29 l30 l31 : Slot} {S : List Value} {H : AH} {q : Option ORes → Prop} {x : Int32} (hk : so l7 = true) (h : Rsq (go n (15, [l0, l1, l2, l3, l4, l5, l6, .val (.int x), l8, l9, l10, l11, l12, l13, l14, l15, l16, l17, l18, l19, l20, l21, l22, l23, l24, l25, l26, l27, l28, l29, l30, l31], S, H, cs, ss)) q) : Rsq (go (n + 1) (13, [l0, l1, l2, l3, l4, l5, l6, l7, l8, l9, l10, l11, l12, l13, l14, l15, l16, l17, l18, l19, l20, l21, l22, l23, l24, l25, l26, l27, l28, l29, l30, l31], (.int x :: S), H, cs, ss)) q := by
  subst hgo
  refine res_of s0_13 ?_
  rw [pI_int, st1_so (L := [l0, l1, l2, l3, l4, l5, l6, l7, l8, l9, l10, l11, l12, l13, l14, l15, l16, l17, l18, l19, l20, l21, l22, l23, l24, l25, l26, l27, l28, l29, l30, l31]) (k := 7) (l := l7) rfl hk]
  exact h
theorem t0_15 {go : Nat → St → Option ORes} (hgo : go = orun code ret E0 0) {n cs ss : Nat} {l0 l1 l3 l4 l5 l6 l7 l8 l9 l10 l11 l12 l13 l14 l15 l16 l17 l18 l19 l20 l21 l22 l23 l24 l25 l26 l27 l28 l29 l30 l31 : Slot} {S : List Value} {H : AH} {q : Option ORes → Prop} {v : Int64} (h : Rsq (go n (16, [l0, l1, .val (.long v), l3, l4, l5, l6, l7, l8, l9, l10, l11, l12, l13, l14, l15, l16, l17, l18, l19, l20, l21, l22, l23, l24, l25, l26, l27, l28, l29, l30, l31], (.long v :: S), H, cs, ss)) q) : Rsq (go (n + 1) (15, [l0, l1, .val (.long v), l3, l4, l5, l6, l7, l8, l9, l10, l11, l12, l13, l14, l15, l16, l17, l18, l19, l20, l21, l22, l23, l24, l25, l26, l27, l28, l29, l30, l31], S, H, cs, ss)) q := by
  subst hgo
  exact res_of s0_15 h
theorem t0_16 {go : Nat → St → Option ORes} (hgo : go = orun code ret E0 0) {n cs ss : Nat} {L : List Slot} {S : List Value} {H : AH} {q : Option ORes → Prop} (h : Rsq (go n (19, L, (.long (9223372036854775807) :: S), H, cs, ss)) q) : Rsq (go (n + 1) (16, L, S, H, cs, ss)) q := by
  subst hgo
  exact res_of s0_16 h
theorem t0_19 {go : Nat → St → Option ORes} (hgo : go = orun code ret E0 0) {n cs ss : Nat} {L : List Slot} {S : List Value} {H : AH} {q : Option ORes → Prop} {x y : Int64} (h : Rsq (go n (20, L, (.long (x &&& y) :: S), H, cs, ss)) q) : Rsq (go (n + 1) (19, L, (.long y :: .long x :: S), H, cs, ss)) q := by
  subst hgo
  exact res_of s0_19 h
theorem t0_20 {go : Nat → St → Option ORes} (hgo : go = orun code ret E0 0) {n cs ss : Nat} {l0 l1 l2 l3 l4 l5 l6 l7 l8 l9 l10 l11 l12 l13 l14 l15 l16 l17 l18 l19 l20 l21 l22 l23 l24 l25 l26 l27 l28 l29 l30 l31 : Slot} {S : List Value} {H : AH} {q : Option ORes → Prop} {x : Int64} (hk : so2 l8 l9 = true) (h : Rsq (go n (22, [l0, l1, l2, l3, l4, l5, l6, l7, .val (.long x), .second, l10, l11, l12, l13, l14, l15, l16, l17, l18, l19, l20, l21, l22, l23, l24, l25, l26, l27, l28, l29, l30, l31], S, H, cs, ss)) q) : Rsq (go (n + 1) (20, [l0, l1, l2, l3, l4, l5, l6, l7, l8, l9, l10, l11, l12, l13, l14, l15, l16, l17, l18, l19, l20, l21, l22, l23, l24, l25, l26, l27, l28, l29, l30, l31], (.long x :: S), H, cs, ss)) q := by
  subst hgo
  refine res_of s0_20 ?_
  rw [pL_long, st2_so (L := [l0, l1, l2, l3, l4, l5, l6, l7, l8, l9, l10, l11, l12, l13, l14, l15, l16, l17, l18, l19, l20, l21, l22, l23, l24, l25, l26, l27, l28, l29, l30, l31]) (k := 8) (l := l8) (l' := l9) rfl rfl hk]
  exact h
theorem t0_22 {go : Nat → St → Option ORes} (hgo : go = orun code ret E0 0) {n cs ss : Nat} {l0 l1 l2 l3 l4 l5 l7 l8 l9 l10 l11 l12 l13 l14 l15 l16 l17 l18 l19 l20 l21 l22 l23 l24 l25 l26 l27 l28 l29 l30 l31 : Slot} {S : List Value} {H : AH} {q : Option ORes → Prop} {v : Int32} (h : Rsq (go n (24, [l0, l1, l2, l3, l4, l5, .val (.int v), l7, l8, l9, l10, l11, l12, l13, l14, l15, l16, l17, l18, l19, l20, l21, l22, l23, l24, l25, l26, l27, l28, l29, l30, l31], (.int v :: S), H, cs, ss)) q) : Rsq (go (n + 1) (22, [l0, l1, l2, l3, l4, l5, .val (.int v), l7, l8, l9, l10, l11, l12, l13, l14, l15, l16, l17, l18, l19, l20, l21, l22, l23, l24, l25, l26, l27, l28, l29, l30, l31], S, H, cs, ss)) q := by
  subst hgo
  exact res_of s0_22 h
theorem t0_24 {go : Nat → St → Option ORes} (hgo : go = orun code ret E0 0) {n cs ss : Nat} {L : List Slot} {S : List Value} {H : AH} {q : Option ORes → Prop} (h : Rsq (go n (25, L, (.int 3 :: S), H, cs, ss)) q) : Rsq (go (n + 1) (24, L, S, H, cs, ss)) q := by
  subst hgo
  exact res_of s0_24 h
theorem t0_25 {go : Nat → St → Option ORes} (hgo : go = orun code ret E0 0) {n cs ss : Nat} {L : List Slot} {S : List Value} {H : AH} {q : Option ORes → Prop} {x y : Int32} (h : Rsq (go n (26, L, (.int (x &&& y) :: S), H, cs, ss)) q) : Rsq (go (n + 1) (25, L, (.int y :: .int x :: S), H, cs, ss)) q := by
  subst hgo
  exact res_of s0_25 h
theorem t0_26t {go : Nat → St → Option ORes} (hgo : go = orun code ret E0 0) {n cs ss : Nat} {L : List Slot} {S : List Value} {H : AH} {q : Option ORes → Prop} {x : Int32} (hc : x = 0) (h : Rsq (go n (29, L, S, H, cs, ss)) q) : Rsq (go (n + 1) (26, L, (.int x :: S), H, cs, ss)) q := by
  subst hgo
  exact res_of s0_26 (res_t hc h)
theorem t0_26f {go : Nat → St → Option ORes} (hgo : go = orun code ret E0 0) {n cs ss : Nat} {L : List Slot} {S : List Value} {H : AH} {q : Option ORes → Prop} {x : Int32} (hc : ¬ x = 0) (h : Rsq (go n (32, L, S, H, cs, ss)) q) : Rsq (go (n + 1) (26, L, (.int x :: S), H, cs, ss)) q := by
  subst hgo
  exact res_of s0_26 (res_f hc h)
theorem t0_29 {go : Nat → St → Option ORes} (hgo : go = orun code ret E0 0) {n cs ss : Nat} {L : List Slot} {S : List Value} {H : AH} {q : Option ORes → Prop} (h : Rsq (go n (30, L, (.long 0 :: S), H, cs, ss)) q) : Rsq (go (n + 1) (29, L, S, H, cs, ss)) q := by
  subst hgo
  exact res_of s0_29 h
theorem t0_30 {go : Nat → St → Option ORes} (hgo : go = orun code ret E0 0) {n cs ss : Nat} {l0 l1 l2 l3 l4 l5 l6 l7 l8 l9 l10 l11 l12 l13 l14 l15 l16 l17 l18 l19 l20 l21 l22 l23 l24 l25 l26 l27 l28 l29 l30 l31 : Slot} {S : List Value} {H : AH} {q : Option ORes → Prop} {x : Int64} (hk : so2 l8 l9 = true) (h : Rsq (go n (32, [l0, l1, l2, l3, l4, l5, l6, l7, .val (.long x), .second, l10, l11, l12, l13, l14, l15, l16, l17, l18, l19, l20, l21, l22, l23, l24, l25, l26, l27, l28, l29, l30, l31], S, H, cs, ss)) q) : Rsq (go (n + 1) (30, [l0, l1, l2, l3, l4, l5, l6, l7, l8, l9, l10, l11, l12, l13, l14, l15, l16, l17, l18, l19, l20, l21, l22, l23, l24, l25, l26, l27, l28, l29, l30, l31], (.long x :: S), H, cs, ss)) q := by
  subst hgo
  refine res_of s0_30 ?_
  rw [pL_long, st2_so (L := [l0, l1, l2, l3, l4, l5, l6, l7, l8, l9, l10, l11, l12, l13, l14, l15, l16, l17, l18, l19, l20, l21, l22, l23, l24, l25, l26, l27, l28, l29, l30, l31]) (k := 8) (l := l8) (l' := l9) rfl rfl hk]
  exact h
theorem t0_32 {go : Nat → St → Option ORes} (hgo : go = orun code ret E0 0) {n cs ss : Nat} {l0 l1 l2 l3 l4 l5 l6 l7 l9 l10 l11 l12 l13 l14 l15 l16 l17 l18 l19 l20 l21 l22 l23 l24 l25 l26 l27 l28 l29 l30 l31 : Slot} {S : List Value} {H : AH} {q : Option ORes → Prop} {v : Int64} (h : Rsq (go n (34, [l0, l1, l2, l3, l4, l5, l6, l7, .val (.long v), l9, l10, l11, l12, l13, l14, l15, l16, l17, l18, l19, l20, l21, l22, l23, l24, l25, l26, l27, l28, l29, l30, l31], (.long v :: S), H, cs, ss)) q) : Rsq (go (n + 1) (32, [l0, l1, l2, l3, l4, l5, l6, l7, .val (.long v), l9, l10, l11, l12, l13, l14, l15, l16, l17, l18, l19, l20, l21, l22, l23, l24, l25, l26, l27, l28, l29, l30, l31], S, H, cs, ss)) q := by
  subst hgo
  exact res_of s0_32 h
theorem t0_34 {go : Nat → St → Option ORes} (hgo : go = orun code ret E0 0) {n cs ss : Nat} {L : List Slot} {S : List Value} {H : AH} {q : Option ORes → Prop} (h : Rsq (go n (35, L, (.long 0 :: S), H, cs, ss)) q) : Rsq (go (n + 1) (34, L, S, H, cs, ss)) q := by
  subst hgo
  exact res_of s0_34 h
theorem t0_35 {go : Nat → St → Option ORes} (hgo : go = orun code ret E0 0) {n cs ss : Nat} {L : List Slot} {S : List Value} {H : AH} {q : Option ORes → Prop} {x y : Int64} (h : Rsq (go n (36, L, (.int (lcmpW x y) :: S), H, cs, ss)) q) : Rsq (go (n + 1) (35, L, (.long y :: .long x :: S), H, cs, ss)) q := by
  subst hgo
  exact res_of s0_35 h
theorem t0_36t {go : Nat → St → Option ORes} (hgo : go = orun code ret E0 0) {n cs ss : Nat} {L : List Slot} {S : List Value} {H : AH} {q : Option ORes → Prop} {x : Int32} (hc : x = 0) (h : Rsq (go n (39, L, S, H, cs, ss)) q) : Rsq (go (n + 1) (36, L, (.int x :: S), H, cs, ss)) q := by
  subst hgo
  exact res_of s0_36 (res_t hc h)
theorem t0_36f {go : Nat → St → Option ORes} (hgo : go = orun code ret E0 0) {n cs ss : Nat} {L : List Slot} {S : List Value} {H : AH} {q : Option ORes → Prop} {x : Int32} (hc : ¬ x = 0) (h : Rsq (go n (57, L, S, H, cs, ss)) q) : Rsq (go (n + 1) (36, L, (.int x :: S), H, cs, ss)) q := by
  subst hgo
  exact res_of s0_36 (res_f hc h)
theorem t0_39 {go : Nat → St → Option ORes} (hgo : go = orun code ret E0 0) {n cs ss : Nat} {l1 l2 l3 l4 l5 l6 l7 l8 l9 l10 l11 l12 l13 l14 l15 l16 l17 l18 l19 l20 l21 l22 l23 l24 l25 l26 l27 l28 l29 l30 l31 : Slot} {S : List Value} {H : AH} {q : Option ORes → Prop} {v : Int64} (h : Rsq (go n (40, [.val (.long v), l1, l2, l3, l4, l5, l6, l7, l8, l9, l10, l11, l12, l13, l14, l15, l16, l17, l18, l19, l20, l21, l22, l23, l24, l25, l26, l27, l28, l29, l30, l31], (.long v :: S), H, cs, ss)) q) : Rsq (go (n + 1) (39, [.val (.long v), l1, l2, l3, l4, l5, l6, l7, l8, l9, l10, l11, l12, l13, l14, l15, l16, l17, l18, l19, l20, l21, l22, l23, l24, l25, l26, l27, l28, l29, l30, l31], S, H, cs, ss)) q := by
  subst hgo
  exact res_of s0_39 h
theorem t0_40 {go : Nat → St → Option ORes} (hgo : go = orun code ret E0 0) {n cs ss : Nat} {L : List Slot} {S : List Value} {H : AH} {q : Option ORes → Prop} (h : Rsq (go n (41, L, (.long 0 :: S), H, cs, ss)) q) : Rsq (go (n + 1) (40, L, S, H, cs, ss)) q := by
  subst hgo
  exact res_of s0_40 h
theorem t0_41 {go : Nat → St → Option ORes} (hgo : go = orun code ret E0 0) {n cs ss : Nat} {l0 l1 l2 l3 l4 l5 l6 l8 l9 l10 l11 l12 l13 l14 l15 l16 l17 l18 l19 l20 l21 l22 l23 l24 l25 l26 l27 l28 l29 l30 l31 : Slot} {S : List Value} {H : AH} {q : Option ORes → Prop} {v : Int32} (h : Rsq (go n (43, [l0, l1, l2, l3, l4, l5, l6, .val (.int v), l8, l9, l10, l11, l12, l13, l14, l15, l16, l17, l18, l19, l20, l21, l22, l23, l24, l25, l26, l27, l28, l29, l30, l31], (.int v :: S), H, cs, ss)) q) : Rsq (go (n + 1) (41, [l0, l1, l2, l3, l4, l5, l6, .val (.int v), l8, l9, l10, l11, l12, l13, l14, l15, l16, l17, l18, l19, l20, l21, l22, l23, l24, l25, l26, l27, l28, l29, l30, l31], S, H, cs, ss)) q := by
  subst hgo
  exact res_of s0_41 h
theorem u0_43 {go : Nat → St → Option ORes} (hgo : go = orun code ret E0 0) {n cs ss : Nat} {L : List Slot} {S : List Value} {H : AH} : go (n + 1) (43, L, S, H, cs, ss) = (aCall 3 6 24 128 1 5 F3 S H cs ss).bind fun r => go n (46, L, r.1, r.2.1, r.2.2.1, r.2.2.2) := by
  subst hgo
  exact s0_43
theorem t0_46 {go : Nat → St → Option ORes} (hgo : go = orun code ret E0 0) {n cs ss : Nat} {L : List Slot} {S : List Value} {H : AH} {q : Option ORes → Prop} (h : Rsq (go n (47, L, (.double (dcv 0) :: S), H, cs, ss)) q) : Rsq (go (n + 1) (46, L, S, H, cs, ss)) q := by
  subst hgo
  exact res_of s0_46 h
theorem t0_47 {go : Nat → St → Option ORes} (hgo : go = orun code ret E0 0) {n cs ss : Nat} {L : List Slot} {S : List Value} {H : AH} {q : Option ORes → Prop} {x y : UInt64} (h : Rsq (go n (48, L, (.int (cmpValue (FP.dcmp x y) .l) :: S), H, cs, ss)) q) : Rsq (go (n + 1) (47, L, (.double y :: .double x :: S), H, cs, ss)) q := by
  subst hgo
  exact res_of s0_47 h
theorem t0_48t {go : Nat → St → Option ORes} (hgo : go = orun code ret E0 0) {n cs ss : Nat} {L : List Slot} {S : List Value} {H : AH} {q : Option ORes → Prop} {x : Int32} (hc : x = 0) (h : Rsq (go n (51, L, S, H, cs, ss)) q) : Rsq (go (n + 1) (48, L, (.int x :: S), H, cs, ss)) q := by
  subst hgo
  exact res_of s0_48 (res_t hc h)
theorem t0_48f {go : Nat → St → Option ORes} (hgo : go = orun code ret E0 0) {n cs ss : Nat} {L : List Slot} {S : List Value} {H : AH} {q : Option ORes → Prop} {x : Int32} (hc : ¬ x = 0) (h : Rsq (go n (55, L, S, H, cs, ss)) q) : Rsq (go (n + 1) (48, L, (.int x :: S), H, cs, ss)) q := by
  subst hgo
  exact res_of s0_48 (res_f hc h)
theorem t0_51 {go : Nat → St → Option ORes} (hgo : go = orun code ret E0 0) {n cs ss : Nat} {L : List Slot} {S : List Value} {H : AH} {q : Option ORes → Prop} (h : Rsq (go n (52, L, (.int 1 :: S), H, cs, ss)) q) : Rsq (go (n + 1) (51, L, S, H, cs, ss)) q := by
  subst hgo
  exact res_of s0_51 h
theorem t0_52 {go : Nat → St → Option ORes} (hgo : go = orun code ret E0 0) {n cs ss : Nat} {L : List Slot} {S : List Value} {H : AH} {q : Option ORes → Prop} (h : Rsq (go n (56, L, S, H, cs, ss)) q) : Rsq (go (n + 1) (52, L, S, H, cs, ss)) q := by
  subst hgo
  exact res_of s0_52 h
theorem t0_55 {go : Nat → St → Option ORes} (hgo : go = orun code ret E0 0) {n cs ss : Nat} {L : List Slot} {S : List Value} {H : AH} {q : Option ORes → Prop} (h : Rsq (go n (56, L, (.int 0 :: S), H, cs, ss)) q) : Rsq (go (n + 1) (55, L, S, H, cs, ss)) q := by
  subst hgo
  exact res_of s0_55 h
theorem t0_56 {go : Nat → St → Option ORes} (hgo : go = orun code ret E0 0) {n cs ss : Nat} {L : List Slot} {S : List Value} {H : AH} {q : Option ORes → Prop} {z : Int32} (h : q (some (some (.int (z &&& 1)), H))) : Rsq (go (n + 1) (56, L, (.int z :: S), H, cs, ss)) q := by
  subst hgo
  exact res_of s0_56 h
theorem t0_57 {go : Nat → St → Option ORes} (hgo : go = orun code ret E0 0) {n cs ss : Nat} {l0 l1 l2 l3 l4 l5 l7 l8 l9 l10 l11 l12 l13 l14 l15 l16 l17 l18 l19 l20 l21 l22 l23 l24 l25 l26 l27 l28 l29 l30 l31 : Slot} {S : List Value} {H : AH} {q : Option ORes → Prop} {v : Int32} (h : Rsq (go n (59, [l0, l1, l2, l3, l4, l5, .val (.int v), l7, l8, l9, l10, l11, l12, l13, l14, l15, l16, l17, l18, l19, l20, l21, l22, l23, l24, l25, l26, l27, l28, l29, l30, l31], (.int v :: S), H, cs, ss)) q) : Rsq (go (n + 1) (57, [l0, l1, l2, l3, l4, l5, .val (.int v), l7, l8, l9, l10, l11, l12, l13, l14, l15, l16, l17, l18, l19, l20, l21, l22, l23, l24, l25, l26, l27, l28, l29, l30, l31], S, H, cs, ss)) q := by
  subst hgo
  exact res_of s0_57 h
theorem t0_59 {go : Nat → St → Option ORes} (hgo : go = orun code ret E0 0) {n cs ss : Nat} {L : List Slot} {S : List Value} {H : AH} {q : Option ORes → Prop} (h : Rsq (go n (60, L, (.int 4 :: S), H, cs, ss)) q) : Rsq (go (n + 1) (59, L, S, H, cs, ss)) q := by
  subst hgo
  exact res_of s0_59 h
theorem t0_60 {go : Nat → St → Option ORes} (hgo : go = orun code ret E0 0) {n cs ss : Nat} {L : List Slot} {S : List Value} {H : AH} {q : Option ORes → Prop} {x y : Int32} (h : Rsq (go n (61, L, (.int (x &&& y) :: S), H, cs, ss)) q) : Rsq (go (n + 1) (60, L, (.int y :: .int x :: S), H, cs, ss)) q := by
  subst hgo
  exact res_of s0_60 h
theorem t0_61t {go : Nat → St → Option ORes} (hgo : go = orun code ret E0 0) {n cs ss : Nat} {L : List Slot} {S : List Value} {H : AH} {q : Option ORes → Prop} {x : Int32} (hc : x = 0) (h : Rsq (go n (68, L, S, H, cs, ss)) q) : Rsq (go (n + 1) (61, L, (.int x :: S), H, cs, ss)) q := by
  subst hgo
  exact res_of s0_61 (res_t hc h)
theorem t0_61f {go : Nat → St → Option ORes} (hgo : go = orun code ret E0 0) {n cs ss : Nat} {L : List Slot} {S : List Value} {H : AH} {q : Option ORes → Prop} {x : Int32} (hc : ¬ x = 0) (h : Rsq (go n (64, L, S, H, cs, ss)) q) : Rsq (go (n + 1) (61, L, (.int x :: S), H, cs, ss)) q := by
  subst hgo
  exact res_of s0_61 (res_f hc h)
theorem t0_64 {go : Nat → St → Option ORes} (hgo : go = orun code ret E0 0) {n cs ss : Nat} {L : List Slot} {S : List Value} {H : AH} {q : Option ORes → Prop} (h : Rsq (go n (65, L, (.int 1 :: S), H, cs, ss)) q) : Rsq (go (n + 1) (64, L, S, H, cs, ss)) q := by
  subst hgo
  exact res_of s0_64 h
theorem t0_65 {go : Nat → St → Option ORes} (hgo : go = orun code ret E0 0) {n cs ss : Nat} {L : List Slot} {S : List Value} {H : AH} {q : Option ORes → Prop} (h : Rsq (go n (69, L, S, H, cs, ss)) q) : Rsq (go (n + 1) (65, L, S, H, cs, ss)) q := by
  subst hgo
  exact res_of s0_65 h
theorem t0_68 {go : Nat → St → Option ORes} (hgo : go = orun code ret E0 0) {n cs ss : Nat} {L : List Slot} {S : List Value} {H : AH} {q : Option ORes → Prop} (h : Rsq (go n (69, L, (.int 0 :: S), H, cs, ss)) q) : Rsq (go (n + 1) (68, L, S, H, cs, ss)) q := by
  subst hgo
  exact res_of s0_68 h
theorem t0_69 {go : Nat → St → Option ORes} (hgo : go = orun code ret E0 0) {n cs ss : Nat} {l0 l1 l2 l3 l4 l5 l6 l7 l8 l9 l10 l11 l12 l13 l14 l15 l16 l17 l18 l19 l20 l21 l22 l23 l24 l25 l26 l27 l28 l29 l30 l31 : Slot} {S : List Value} {H : AH} {q : Option ORes → Prop} {x : Int32} (hk : so l10 = true) (h : Rsq (go n (71, [l0, l1, l2, l3, l4, l5, l6, l7, l8, l9, .val (.int x), l11, l12, l13, l14, l15, l16, l17, l18, l19, l20, l21, l22, l23, l24, l25, l26, l27, l28, l29, l30, l31], S, H, cs, ss)) q) : Rsq (go (n + 1) (69, [l0, l1, l2, l3, l4, l5, l6, l7, l8, l9, l10, l11, l12, l13, l14, l15, l16, l17, l18, l19, l20, l21, l22, l23, l24, l25, l26, l27, l28, l29, l30, l31], (.int x :: S), H, cs, ss)) q := by
  subst hgo
  refine res_of s0_69 ?_
  rw [pI_int, st1_so (L := [l0, l1, l2, l3, l4, l5, l6, l7, l8, l9, l10, l11, l12, l13, l14, l15, l16, l17, l18, l19, l20, l21, l22, l23, l24, l25, l26, l27, l28, l29, l30, l31]) (k := 10) (l := l10) rfl hk]
  exact h
theorem t0_71 {go : Nat → St → Option ORes} (hgo : go = orun code ret E0 0) {n cs ss : Nat} {l0 l1 l2 l3 l4 l5 l6 l7 l8 l9 l11 l12 l13 l14 l15 l16 l17 l18 l19 l20 l21 l22 l23 l24 l25 l26 l27 l28 l29 l30 l31 : Slot} {S : List Value} {H : AH} {q : Option ORes → Prop} {v : Int32} (h : Rsq (go n (73, [l0, l1, l2, l3, l4, l5, l6, l7, l8, l9, .val (.int v), l11, l12, l13, l14, l15, l16, l17, l18, l19, l20, l21, l22, l23, l24, l25, l26, l27, l28, l29, l30, l31], (.int v :: S), H, cs, ss)) q) : Rsq (go (n + 1) (71, [l0, l1, l2, l3, l4, l5, l6, l7, l8, l9, .val (.int v), l11, l12, l13, l14, l15, l16, l17, l18, l19, l20, l21, l22, l23, l24, l25, l26, l27, l28, l29, l30, l31], S, H, cs, ss)) q := by
  subst hgo
  exact res_of s0_71 h
theorem t0_73t {go : Nat → St → Option ORes} (hgo : go = orun code ret E0 0) {n cs ss : Nat} {L : List Slot} {S : List Value} {H : AH} {q : Option ORes → Prop} {x : Int32} (hc : x = 0) (h : Rsq (go n (81, L, S, H, cs, ss)) q) : Rsq (go (n + 1) (73, L, (.int x :: S), H, cs, ss)) q := by
  subst hgo
  exact res_of s0_73 (res_t hc h)
theorem t0_73f {go : Nat → St → Option ORes} (hgo : go = orun code ret E0 0) {n cs ss : Nat} {L : List Slot} {S : List Value} {H : AH} {q : Option ORes → Prop} {x : Int32} (hc : ¬ x = 0) (h : Rsq (go n (76, L, S, H, cs, ss)) q) : Rsq (go (n + 1) (73, L, (.int x :: S), H, cs, ss)) q := by
  subst hgo
  exact res_of s0_73 (res_f hc h)
theorem t0_76 {go : Nat → St → Option ORes} (hgo : go = orun code ret E0 0) {n cs ss : Nat} {l0 l1 l2 l3 l4 l5 l6 l7 l9 l10 l11 l12 l13 l14 l15 l16 l17 l18 l19 l20 l21 l22 l23 l24 l25 l26 l27 l28 l29 l30 l31 : Slot} {S : List Value} {H : AH} {q : Option ORes → Prop} {v : Int64} (h : Rsq (go n (78, [l0, l1, l2, l3, l4, l5, l6, l7, .val (.long v), l9, l10, l11, l12, l13, l14, l15, l16, l17, l18, l19, l20, l21, l22, l23, l24, l25, l26, l27, l28, l29, l30, l31], (.long v :: S), H, cs, ss)) q) : Rsq (go (n + 1) (76, [l0, l1, l2, l3, l4, l5, l6, l7, .val (.long v), l9, l10, l11, l12, l13, l14, l15, l16, l17, l18, l19, l20, l21, l22, l23, l24, l25, l26, l27, l28, l29, l30, l31], S, H, cs, ss)) q := by
  subst hgo
  exact res_of s0_76 h
theorem t0_78 {go : Nat → St → Option ORes} (hgo : go = orun code ret E0 0) {n cs ss : Nat} {L : List Slot} {S : List Value} {H : AH} {q : Option ORes → Prop} (h : Rsq (go n (89, L, S, H, cs, ss)) q) : Rsq (go (n + 1) (78, L, S, H, cs, ss)) q := by
  subst hgo
  exact res_of s0_78 h
theorem t0_81 {go : Nat → St → Option ORes} (hgo : go = orun code ret E0 0) {n cs ss : Nat} {l1 l2 l3 l4 l5 l6 l7 l8 l9 l10 l11 l12 l13 l14 l15 l16 l17 l18 l19 l20 l21 l22 l23 l24 l25 l26 l27 l28 l29 l30 l31 : Slot} {S : List Value} {H : AH} {q : Option ORes → Prop} {v : Int64} (h : Rsq (go n (82, [.val (.long v), l1, l2, l3, l4, l5, l6, l7, l8, l9, l10, l11, l12, l13, l14, l15, l16, l17, l18, l19, l20, l21, l22, l23, l24, l25, l26, l27, l28, l29, l30, l31], (.long v :: S), H, cs, ss)) q) : Rsq (go (n + 1) (81, [.val (.long v), l1, l2, l3, l4, l5, l6, l7, l8, l9, l10, l11, l12, l13, l14, l15, l16, l17, l18, l19, l20, l21, l22, l23, l24, l25, l26, l27, l28, l29, l30, l31], S, H, cs, ss)) q := by
  subst hgo
  exact res_of s0_81 h
theorem t0_82 {go : Nat → St → Option ORes} (hgo : go = orun code ret E0 0) {n cs ss : Nat} {L : List Slot} {S : List Value} {H : AH} {q : Option ORes → Prop} (h : Rsq (go n (85, L, (.long (9223372036854775807) :: S), H, cs, ss)) q) : Rsq (go (n + 1) (82, L, S, H, cs, ss)) q := by
  subst hgo
  exact res_of s0_82 h
theorem t0_85 {go : Nat → St → Option ORes} (hgo : go = orun code ret E0 0) {n cs ss : Nat} {L : List Slot} {S : List Value} {H : AH} {q : Option ORes → Prop} {x y : Int64} (h : Rsq (go n (86, L, (.long (x &&& y) :: S), H, cs, ss)) q) : Rsq (go (n + 1) (85, L, (.long y :: .long x :: S), H, cs, ss)) q := by
  subst hgo
  exact res_of s0_85 h
theorem t0_86 {go : Nat → St → Option ORes} (hgo : go = orun code ret E0 0) {n cs ss : Nat} {l0 l1 l2 l3 l4 l5 l6 l7 l9 l10 l11 l12 l13 l14 l15 l16 l17 l18 l19 l20 l21 l22 l23 l24 l25 l26 l27 l28 l29 l30 l31 : Slot} {S : List Value} {H : AH} {q : Option ORes → Prop} {v : Int64} (h : Rsq (go n (88, [l0, l1, l2, l3, l4, l5, l6, l7, .val (.long v), l9, l10, l11, l12, l13, l14, l15, l16, l17, l18, l19, l20, l21, l22, l23, l24, l25, l26, l27, l28, l29, l30, l31], (.long v :: S), H, cs, ss)) q) : Rsq (go (n + 1) (86, [l0, l1, l2, l3, l4, l5, l6, l7, .val (.long v), l9, l10, l11, l12, l13, l14, l15, l16, l17, l18, l19, l20, l21, l22, l23, l24, l25, l26, l27, l28, l29, l30, l31], S, H, cs, ss)) q := by
  subst hgo
  exact res_of s0_86 h
theorem t0_88 {go : Nat → St → Option ORes} (hgo : go = orun code ret E0 0) {n cs ss : Nat} {L : List Slot} {S : List Value} {H : AH} {q : Option ORes → Prop} {x y : Int64} (hz : ¬ y = 0) (h : Rsq (go n (89, L, (.long (x % y) :: S), H, cs, ss)) q) : Rsq (go (n + 1) (88, L, (.long y :: .long x :: S), H, cs, ss)) q := by
  subst hgo
  exact res_of s0_88 (res_f hz h)
theorem t0_89 {go : Nat → St → Option ORes} (hgo : go = orun code ret E0 0) {n cs ss : Nat} {l0 l1 l2 l3 l4 l5 l6 l7 l8 l9 l10 l11 l12 l13 l14 l15 l16 l17 l18 l19 l20 l21 l22 l23 l24 l25 l26 l27 l28 l29 l30 l31 : Slot} {S : List Value} {H : AH} {q : Option ORes → Prop} {x : Int64} (hk : so2 l11 l12 = true) (h : Rsq (go n (91, [l0, l1, l2, l3, l4, l5, l6, l7, l8, l9, l10, .val (.long x), .second, l13, l14, l15, l16, l17, l18, l19, l20, l21, l22, l23, l24, l25, l26, l27, l28, l29, l30, l31], S, H, cs, ss)) q) : Rsq (go (n + 1) (89, [l0, l1, l2, l3, l4, l5, l6, l7, l8, l9, l10, l11, l12, l13, l14, l15, l16, l17, l18, l19, l20, l21, l22, l23, l24, l25, l26, l27, l28, l29, l30, l31], (.long x :: S), H, cs, ss)) q := by
  subst hgo
  refine res_of s0_89 ?_
  rw [pL_long, st2_so (L := [l0, l1, l2, l3, l4, l5, l6, l7, l8, l9, l10, l11, l12, l13, l14, l15, l16, l17, l18, l19, l20, l21, l22, l23, l24, l25, l26, l27, l28, l29, l30, l31]) (k := 11) (l := l11) (l' := l12) rfl rfl hk]
  exact h
theorem t0_91 {go : Nat → St → Option ORes} (hgo : go = orun code ret E0 0) {n cs ss : Nat} {l0 l1 l2 l3 l5 l6 l7 l8 l9 l10 l11 l12 l13 l14 l15 l16 l17 l18 l19 l20 l21 l22 l23 l24 l25 l26 l27 l28 l29 l30 l31 : Slot} {S : List Value} {H : AH} {q : Option ORes → Prop} {v : Int64} (h : Rsq (go n (93, [l0, l1, l2, l3, .val (.long v), l5, l6, l7, l8, l9, l10, l11, l12, l13, l14, l15, l16, l17, l18, l19, l20, l21, l22, l23, l24, l25, l26, l27, l28, l29, l30, l31], (.long v :: S), H, cs, ss)) q) : Rsq (go (n + 1) (91, [l0, l1, l2, l3, .val (.long v), l5, l6, l7, l8, l9, l10, l11, l12, l13, l14, l15, l16, l17, l18, l19, l20, l21, l22, l23, l24, l25, l26, l27, l28, l29, l30, l31], S, H, cs, ss)) q := by
  subst hgo
  exact res_of s0_91 h
theorem t0_93 {go : Nat → St → Option ORes} (hgo : go = orun code ret E0 0) {n cs ss : Nat} {L : List Slot} {S : List Value} {H : AH} {q : Option ORes → Prop} (h : Rsq (go n (96, L, (.long (9223372036854775807) :: S), H, cs, ss)) q) : Rsq (go (n + 1) (93, L, S, H, cs, ss)) q := by
  subst hgo
  exact res_of s0_93 h
theorem t0_96 {go : Nat → St → Option ORes} (hgo : go = orun code ret E0 0) {n cs ss : Nat} {L : List Slot} {S : List Value} {H : AH} {q : Option ORes → Prop} {x y : Int64} (h : Rsq (go n (97, L, (.long (x &&& y) :: S), H, cs, ss)) q) : Rsq (go (n + 1) (96, L, (.long y :: .long x :: S), H, cs, ss)) q := by
  subst hgo
  exact res_of s0_96 h
theorem t0_97 {go : Nat → St → Option ORes} (hgo : go = orun code ret E0 0) {n cs ss : Nat} {l0 l1 l2 l3 l4 l5 l6 l7 l9 l10 l11 l12 l13 l14 l15 l16 l17 l18 l19 l20 l21 l22 l23 l24 l25 l26 l27 l28 l29 l30 l31 : Slot} {S : List Value} {H : AH} {q : Option ORes → Prop} {v : Int64} (h : Rsq (go n (99, [l0, l1, l2, l3, l4, l5, l6, l7, .val (.long v), l9, l10, l11, l12, l13, l14, l15, l16, l17, l18, l19, l20, l21, l22, l23, l24, l25, l26, l27, l28, l29, l30, l31], (.long v :: S), H, cs, ss)) q) : Rsq (go (n + 1) (97, [l0, l1, l2, l3, l4, l5, l6, l7, .val (.long v), l9, l10, l11, l12, l13, l14, l15, l16, l17, l18, l19, l20, l21, l22, l23, l24, l25, l26, l27, l28, l29, l30, l31], S, H, cs, ss)) q := by
  subst hgo
  exact res_of s0_97 h
theorem t0_99 {go : Nat → St → Option ORes} (hgo : go = orun code ret E0 0) {n cs ss : Nat} {L : List Slot} {S : List Value} {H : AH} {q : Option ORes → Prop} {x y : Int64} (hz : ¬ y = 0) (h : Rsq (go n (100, L, (.long (x % y) :: S), H, cs, ss)) q) : Rsq (go (n + 1) (99, L, (.long y :: .long x :: S), H, cs, ss)) q := by
  subst hgo
  exact res_of s0_99 (res_f hz h)
theorem t0_100 {go : Nat → St → Option ORes} (hgo : go = orun code ret E0 0) {n cs ss : Nat} {l0 l1 l2 l3 l4 l5 l6 l7 l8 l9 l10 l11 l12 l13 l14 l15 l16 l17 l18 l19 l20 l21 l22 l23 l24 l25 l26 l27 l28 l29 l30 l31 : Slot} {S : List Value} {H : AH} {q : Option ORes → Prop} {x : Int64} (hk : so2 l13 l14 = true) (h : Rsq (go n (102, [l0, l1, l2, l3, l4, l5, l6, l7, l8, l9, l10, l11, l12, .val (.long x), .second, l15, l16, l17, l18, l19, l20, l21, l22, l23, l24, l25, l26, l27, l28, l29, l30, l31], S, H, cs, ss)) q) : Rsq (go (n + 1) (100, [l0, l1, l2, l3, l4, l5, l6, l7, l8, l9, l10, l11, l12, l13, l14, l15, l16, l17, l18, l19, l20, l21, l22, l23, l24, l25, l26, l27, l28, l29, l30, l31], (.long x :: S), H, cs, ss)) q := by
  subst hgo
  refine res_of s0_100 ?_
  rw [pL_long, st2_so (L := [l0, l1, l2, l3, l4, l5, l6, l7, l8, l9, l10, l11, l12, l13, l14, l15, l16, l17, l18, l19, l20, l21, l22, l23, l24, l25, l26, l27, l28, l29, l30, l31]) (k := 13) (l := l13) (l' := l14) rfl rfl hk]
  exact h
theorem t0_102 {go : Nat → St → Option ORes} (hgo : go = orun code ret E0 0) {n cs ss : Nat} {l0 l1 l2 l3 l4 l5 l6 l7 l8 l9 l10 l12 l13 l14 l15 l16 l17 l18 l19 l20 l21 l22 l23 l24 l25 l26 l27 l28 l29 l30 l31 : Slot} {S : List Value} {H : AH} {q : Option ORes → Prop} {v : Int64} (h : Rsq (go n (104, [l0, l1, l2, l3, l4, l5, l6, l7, l8, l9, l10, .val (.long v), l12, l13, l14, l15, l16, l17, l18, l19, l20, l21, l22, l23, l24, l25, l26, l27, l28, l29, l30, l31], (.long v :: S), H, cs, ss)) q) : Rsq (go (n + 1) (102, [l0, l1, l2, l3, l4, l5, l6, l7, l8, l9, l10, .val (.long v), l12, l13, l14, l15, l16, l17, l18, l19, l20, l21, l22, l23, l24, l25, l26, l27, l28, l29, l30, l31], S, H, cs, ss)) q := by
  subst hgo
  exact res_of s0_102 h
theorem t0_104 {go : Nat → St → Option ORes} (hgo : go = orun code ret E0 0) {n cs ss : Nat} {l0 l1 l2 l3 l4 l5 l6 l7 l8 l9 l10 l11 l12 l14 l15 l16 l17 l18 l19 l20 l21 l22 l23 l24 l25 l26 l27 l28 l29 l30 l31 : Slot} {S : List Value} {H : AH} {q : Option ORes → Prop} {v : Int64} (h : Rsq (go n (106, [l0, l1, l2, l3, l4, l5, l6, l7, l8, l9, l10, l11, l12, .val (.long v), l14, l15, l16, l17, l18, l19, l20, l21, l22, l23, l24, l25, l26, l27, l28, l29, l30, l31], (.long v :: S), H, cs, ss)) q) : Rsq (go (n + 1) (104, [l0, l1, l2, l3, l4, l5, l6, l7, l8, l9, l10, l11, l12, .val (.long v), l14, l15, l16, l17, l18, l19, l20, l21, l22, l23, l24, l25, l26, l27, l28, l29, l30, l31], S, H, cs, ss)) q := by
  subst hgo
  exact res_of s0_104 h
theorem u0_106 {go : Nat → St → Option ORes} (hgo : go = orun code ret E0 0) {n cs ss : Nat} {L : List Slot} {S : List Value} {H : AH} : go (n + 1) (106, L, S, H, cs, ss) = (aCall 2 6 24 128 0 0 F1 S H cs ss).bind fun r => go n (109, L, r.1, r.2.1, r.2.2.1, r.2.2.2) := by
  subst hgo
  exact s0_106
theorem t0_109 {go : Nat → St → Option ORes} (hgo : go = orun code ret E0 0) {n cs ss : Nat} {l0 l1 l2 l3 l4 l5 l6 l7 l8 l9 l10 l11 l12 l13 l14 l15 l16 l17 l18 l19 l20 l21 l22 l23 l24 l25 l26 l27 l28 l29 l30 l31 : Slot} {S : List Value} {H : AH} {q : Option ORes → Prop} {x : Int64} (hk : so2 l15 l16 = true) (h : Rsq (go n (111, [l0, l1, l2, l3, l4, l5, l6, l7, l8, l9, l10, l11, l12, l13, l14, .val (.long x), .second, l17, l18, l19, l20, l21, l22, l23, l24, l25, l26, l27, l28, l29, l30, l31], S, H, cs, ss)) q) : Rsq (go (n + 1) (109, [l0, l1, l2, l3, l4, l5, l6, l7, l8, l9, l10, l11, l12, l13, l14, l15, l16, l17, l18, l19, l20, l21, l22, l23, l24, l25, l26, l27, l28, l29, l30, l31], (.long x :: S), H, cs, ss)) q := by
  subst hgo
  refine res_of s0_109 ?_
  rw [pL_long, st2_so (L := [l0, l1, l2, l3, l4, l5, l6, l7, l8, l9, l10, l11, l12, l13, l14, l15, l16, l17, l18, l19, l20, l21, l22, l23, l24, l25, l26, l27, l28, l29, l30, l31]) (k := 15) (l := l15) (l' := l16) rfl rfl hk]
  exact h
theorem t0_111 {go : Nat → St → Option ORes} (hgo : go = orun code ret E0 0) {n cs ss : Nat} {l0 l1 l2 l3 l4 l5 l6 l7 l8 l9 l10 l12 l13 l14 l15 l16 l17 l18 l19 l20 l21 l22 l23 l24 l25 l26 l27 l28 l29 l30 l31 : Slot} {S : List Value} {H : AH} {q : Option ORes → Prop} {v : Int64} (h : Rsq (go n (113, [l0, l1, l2, l3, l4, l5, l6, l7, l8, l9, l10, .val (.long v), l12, l13, l14, l15, l16, l17, l18, l19, l20, l21, l22, l23, l24, l25, l26, l27, l28, l29, l30, l31], (.long v :: S), H, cs, ss)) q) : Rsq (go (n + 1) (111, [l0, l1, l2, l3, l4, l5, l6, l7, l8, l9, l10, .val (.long v), l12, l13, l14, l15, l16, l17, l18, l19, l20, l21, l22, l23, l24, l25, l26, l27, l28, l29, l30, l31], S, H, cs, ss)) q := by
  subst hgo
  exact res_of s0_111 h
theorem t0_113 {go : Nat → St → Option ORes} (hgo : go = orun code ret E0 0) {n cs ss : Nat} {l0 l1 l2 l3 l4 l5 l6 l7 l8 l9 l10 l11 l12 l14 l15 l16 l17 l18 l19 l20 l21 l22 l23 l24 l25 l26 l27 l28 l29 l30 l31 : Slot} {S : List Value} {H : AH} {q : Option ORes → Prop} {v : Int64} (h : Rsq (go n (115, [l0, l1, l2, l3, l4, l5, l6, l7, l8, l9, l10, l11, l12, .val (.long v), l14, l15, l16, l17, l18, l19, l20, l21, l22, l23, l24, l25, l26, l27, l28, l29, l30, l31], (.long v :: S), H, cs, ss)) q) : Rsq (go (n + 1) (113, [l0, l1, l2, l3, l4, l5, l6, l7, l8, l9, l10, l11, l12, .val (.long v), l14, l15, l16, l17, l18, l19, l20, l21, l22, l23, l24, l25, l26, l27, l28, l29, l30, l31], S, H, cs, ss)) q := by
  subst hgo
  exact res_of s0_113 h
theorem u0_115 {go : Nat → St → Option ORes} (hgo : go = orun code ret E0 0) {n cs ss : Nat} {L : List Slot} {S : List Value} {H : AH} : go (n + 1) (115, L, S, H, cs, ss) = (aCall 2 6 24 128 0 0 F2 S H cs ss).bind fun r => go n (118, L, r.1, r.2.1, r.2.2.1, r.2.2.2) := by
  subst hgo
  exact s0_115
theorem t0_118 {go : Nat → St → Option ORes} (hgo : go = orun code ret E0 0) {n cs ss : Nat} {l0 l1 l2 l3 l4 l5 l6 l7 l8 l9 l10 l11 l12 l13 l14 l15 l16 l17 l18 l19 l20 l21 l22 l23 l24 l25 l26 l27 l28 l29 l30 l31 : Slot} {S : List Value} {H : AH} {q : Option ORes → Prop} {x : Int64} (hk : so2 l17 l18 = true) (h : Rsq (go n (120, [l0, l1, l2, l3, l4, l5, l6, l7, l8, l9, l10, l11, l12, l13, l14, l15, l16, .val (.long x), .second, l19, l20, l21, l22, l23, l24, l25, l26, l27, l28, l29, l30, l31], S, H, cs, ss)) q) : Rsq (go (n + 1) (118, [l0, l1, l2, l3, l4, l5, l6, l7, l8, l9, l10, l11, l12, l13, l14, l15, l16, l17, l18, l19, l20, l21, l22, l23, l24, l25, l26, l27, l28, l29, l30, l31], (.long x :: S), H, cs, ss)) q := by
  subst hgo
  refine res_of s0_118 ?_
  rw [pL_long, st2_so (L := [l0, l1, l2, l3, l4, l5, l6, l7, l8, l9, l10, l11, l12, l13, l14, l15, l16, l17, l18, l19, l20, l21, l22, l23, l24, l25, l26, l27, l28, l29, l30, l31]) (k := 17) (l := l17) (l' := l18) rfl rfl hk]
  exact h
theorem t0_120 {go : Nat → St → Option ORes} (hgo : go = orun code ret E0 0) {n cs ss : Nat} {l0 l1 l2 l3 l4 l5 l6 l7 l8 l9 l10 l12 l13 l14 l15 l16 l17 l18 l19 l20 l21 l22 l23 l24 l25 l26 l27 l28 l29 l30 l31 : Slot} {S : List Value} {H : AH} {q : Option ORes → Prop} {v : Int64} (h : Rsq (go n (122, [l0, l1, l2, l3, l4, l5, l6, l7, l8, l9, l10, .val (.long v), l12, l13, l14, l15, l16, l17, l18, l19, l20, l21, l22, l23, l24, l25, l26, l27, l28, l29, l30, l31], (.long v :: S), H, cs, ss)) q) : Rsq (go (n + 1) (120, [l0, l1, l2, l3, l4, l5, l6, l7, l8, l9, l10, .val (.long v), l12, l13, l14, l15, l16, l17, l18, l19, l20, l21, l22, l23, l24, l25, l26, l27, l28, l29, l30, l31], S, H, cs, ss)) q := by
  subst hgo
  exact res_of s0_120 h
theorem t0_122 {go : Nat → St → Option ORes} (hgo : go = orun code ret E0 0) {n cs ss : Nat} {l0 l1 l2 l3 l4 l5 l6 l7 l9 l10 l11 l12 l13 l14 l15 l16 l17 l18 l19 l20 l21 l22 l23 l24 l25 l26 l27 l28 l29 l30 l31 : Slot} {S : List Value} {H : AH} {q : Option ORes → Prop} {v : Int64} (h : Rsq (go n (124, [l0, l1, l2, l3, l4, l5, l6, l7, .val (.long v), l9, l10, l11, l12, l13, l14, l15, l16, l17, l18, l19, l20, l21, l22, l23, l24, l25, l26, l27, l28, l29, l30, l31], (.long v :: S), H, cs, ss)) q) : Rsq (go (n + 1) (122, [l0, l1, l2, l3, l4, l5, l6, l7, .val (.long v), l9, l10, l11, l12, l13, l14, l15, l16, l17, l18, l19, l20, l21, l22, l23, l24, l25, l26, l27, l28, l29, l30, l31], S, H, cs, ss)) q := by
  subst hgo
  exact res_of s0_122 h
theorem t0_124 {go : Nat → St → Option ORes} (hgo : go = orun code ret E0 0) {n cs ss : Nat} {l0 l1 l2 l3 l4 l5 l6 l8 l9 l10 l11 l12 l13 l14 l15 l16 l17 l18 l19 l20 l21 l22 l23 l24 l25 l26 l27 l28 l29 l30 l31 : Slot} {S : List Value} {H : AH} {q : Option ORes → Prop} {v : Int32} (h : Rsq (go n (126, [l0, l1, l2, l3, l4, l5, l6, .val (.int v), l8, l9, l10, l11, l12, l13, l14, l15, l16, l17, l18, l19, l20, l21, l22, l23, l24, l25, l26, l27, l28, l29, l30, l31], (.int v :: S), H, cs, ss)) q) : Rsq (go (n + 1) (124, [l0, l1, l2, l3, l4, l5, l6, .val (.int v), l8, l9, l10, l11, l12, l13, l14, l15, l16, l17, l18, l19, l20, l21, l22, l23, l24, l25, l26, l27, l28, l29, l30, l31], S, H, cs, ss)) q := by
  subst hgo
  exact res_of s0_124 h
theorem u0_126 {go : Nat → St → Option ORes} (hgo : go = orun code ret E0 0) {n cs ss : Nat} {L : List Slot} {S : List Value} {H : AH} : go (n + 1) (126, L, S, H, cs, ss) = (aCall 3 6 24 128 1 5 F3 S H cs ss).bind fun r => go n (129, L, r.1, r.2.1, r.2.2.1, r.2.2.2) := by
  subst hgo
  exact s0_126
theorem t0_129 {go : Nat → St → Option ORes} (hgo : go = orun code ret E0 0) {n cs ss : Nat} {l0 l1 l2 l3 l4 l5 l6 l7 l8 l9 l10 l11 l12 l13 l14 l15 l16 l17 l18 l19 l20 l21 l22 l23 l24 l25 l26 l27 l28 l29 l30 l31 : Slot} {S : List Value} {H : AH} {q : Option ORes → Prop} {x : UInt64} (hk : so2D l19 l20 = true) (h : Rsq (go n (131, [l0, l1, l2, l3, l4, l5, l6, l7, l8, l9, l10, l11, l12, l13, l14, l15, l16, l17, l18, .val (.double x), .second, l21, l22, l23, l24, l25, l26, l27, l28, l29, l30, l31], S, H, cs, ss)) q) : Rsq (go (n + 1) (129, [l0, l1, l2, l3, l4, l5, l6, l7, l8, l9, l10, l11, l12, l13, l14, l15, l16, l17, l18, l19, l20, l21, l22, l23, l24, l25, l26, l27, l28, l29, l30, l31], (.double x :: S), H, cs, ss)) q := by
  subst hgo
  refine res_of s0_129 ?_
  rw [pD_double, st2D_so (L := [l0, l1, l2, l3, l4, l5, l6, l7, l8, l9, l10, l11, l12, l13, l14, l15, l16, l17, l18, l19, l20, l21, l22, l23, l24, l25, l26, l27, l28, l29, l30, l31]) (k := 19) (l := l19) (l' := l20) rfl rfl hk]
  exact h
theorem t0_131 {go : Nat → St → Option ORes} (hgo : go = orun code ret E0 0) {n cs ss : Nat} {L : List Slot} {S : List Value} {H : AH} {q : Option ORes → Prop} (h : Rsq (go n (132, L, (.double (dcv 0) :: S), H, cs, ss)) q) : Rsq (go (n + 1) (131, L, S, H, cs, ss)) q := by
  subst hgo
  exact res_of s0_131 h
theorem t0_132 {go : Nat → St → Option ORes} (hgo : go = orun code ret E0 0) {n cs ss : Nat} {l0 l1 l2 l3 l4 l5 l6 l7 l8 l9 l10 l11 l12 l13 l14 l15 l16 l17 l18 l20 l21 l22 l23 l24 l25 l26 l27 l28 l29 l30 l31 : Slot} {S : List Value} {H : AH} {q : Option ORes → Prop} {v : UInt64} (h : Rsq (go n (134, [l0, l1, l2, l3, l4, l5, l6, l7, l8, l9, l10, l11, l12, l13, l14, l15, l16, l17, l18, .val (.double v), l20, l21, l22, l23, l24, l25, l26, l27, l28, l29, l30, l31], (.double v :: S), H, cs, ss)) q) : Rsq (go (n + 1) (132, [l0, l1, l2, l3, l4, l5, l6, l7, l8, l9, l10, l11, l12, l13, l14, l15, l16, l17, l18, .val (.double v), l20, l21, l22, l23, l24, l25, l26, l27, l28, l29, l30, l31], S, H, cs, ss)) q := by
  subst hgo
  exact res_of s0_132 h
theorem t0_134 {go : Nat → St → Option ORes} (hgo : go = orun code ret E0 0) {n cs ss : Nat} {L : List Slot} {S : List Value} {H : AH} {q : Option ORes → Prop} {x y : UInt64} (h : Rsq (go n (135, L, (.int (cmpValue (FP.dcmp x y) .g) :: S), H, cs, ss)) q) : Rsq (go (n + 1) (134, L, (.double y :: .double x :: S), H, cs, ss)) q := by
  subst hgo
  exact res_of s0_134 h
theorem t0_135t {go : Nat → St → Option ORes} (hgo : go = orun code ret E0 0) {n cs ss : Nat} {L : List Slot} {S : List Value} {H : AH} {q : Option ORes → Prop} {x : Int32} (hc : 0 < x) (h : Rsq (go n (149, L, S, H, cs, ss)) q) : Rsq (go (n + 1) (135, L, (.int x :: S), H, cs, ss)) q := by
  subst hgo
  exact res_of s0_135 (res_t hc h)
theorem t0_135f {go : Nat → St → Option ORes} (hgo : go = orun code ret E0 0) {n cs ss : Nat} {L : List Slot} {S : List Value} {H : AH} {q : Option ORes → Prop} {x : Int32} (hc : ¬ 0 < x) (h : Rsq (go n (138, L, S, H, cs, ss)) q) : Rsq (go (n + 1) (135, L, (.int x :: S), H, cs, ss)) q := by
  subst hgo
  exact res_of s0_135 (res_f hc h)
theorem t0_138 {go : Nat → St → Option ORes} (hgo : go = orun code ret E0 0) {n cs ss : Nat} {l0 l1 l2 l3 l4 l5 l6 l7 l8 l9 l10 l11 l12 l13 l14 l15 l16 l17 l18 l20 l21 l22 l23 l24 l25 l26 l27 l28 l29 l30 l31 : Slot} {S : List Value} {H : AH} {q : Option ORes → Prop} {v : UInt64} (h : Rsq (go n (140, [l0, l1, l2, l3, l4, l5, l6, l7, l8, l9, l10, l11, l12, l13, l14, l15, l16, l17, l18, .val (.double v), l20, l21, l22, l23, l24, l25, l26, l27, l28, l29, l30, l31], (.double v :: S), H, cs, ss)) q) : Rsq (go (n + 1) (138, [l0, l1, l2, l3, l4, l5, l6, l7, l8, l9, l10, l11, l12, l13, l14, l15, l16, l17, l18, .val (.double v), l20, l21, l22, l23, l24, l25, l26, l27, l28, l29, l30, l31], S, H, cs, ss)) q := by
  subst hgo
  exact res_of s0_138 h
theorem t0_140 {go : Nat → St → Option ORes} (hgo : go = orun code ret E0 0) {n cs ss : Nat} {L : List Slot} {S : List Value} {H : AH} {q : Option ORes → Prop} (h : Rsq (go n (141, L, (.double (dcv 1) :: S), H, cs, ss)) q) : Rsq (go (n + 1) (140, L, S, H, cs, ss)) q := by
  subst hgo
  exact res_of s0_140 h
theorem t0_141 {go : Nat → St → Option ORes} (hgo : go = orun code ret E0 0) {n cs ss : Nat} {L : List Slot} {S : List Value} {H : AH} {q : Option ORes → Prop} {x y : UInt64} (h : Rsq (go n (142, L, (.int (cmpValue (FP.dcmp x y) .g) :: S), H, cs, ss)) q) : Rsq (go (n + 1) (141, L, (.double y :: .double x :: S), H, cs, ss)) q := by
  subst hgo
  exact res_of s0_141 h
theorem t0_142t {go : Nat → St → Option ORes} (hgo : go = orun code ret E0 0) {n cs ss : Nat} {L : List Slot} {S : List Value} {H : AH} {q : Option ORes → Prop} {x : Int32} (hc : 0 < x) (h : Rsq (go n (149, L, S, H, cs, ss)) q) : Rsq (go (n + 1) (142, L, (.int x :: S), H, cs, ss)) q := by
  subst hgo
  exact res_of s0_142 (res_t hc h)
theorem t0_142f {go : Nat → St → Option ORes} (hgo : go = orun code ret E0 0) {n cs ss : Nat} {L : List Slot} {S : List Value} {H : AH} {q : Option ORes → Prop} {x : Int32} (hc : ¬ 0 < x) (h : Rsq (go n (145, L, S, H, cs, ss)) q) : Rsq (go (n + 1) (142, L, (.int x :: S), H, cs, ss)) q := by
  subst hgo
  exact res_of s0_142 (res_f hc h)
theorem t0_145 {go : Nat → St → Option ORes} (hgo : go = orun code ret E0 0) {n cs ss : Nat} {L : List Slot} {S : List Value} {H : AH} {q : Option ORes → Prop} (h : Rsq (go n (146, L, (.int 1 :: S), H, cs, ss)) q) : Rsq (go (n + 1) (145, L, S, H, cs, ss)) q := by
  subst hgo
  exact res_of s0_145 h
theorem t0_146 {go : Nat → St → Option ORes} (hgo : go = orun code ret E0 0) {n cs ss : Nat} {L : List Slot} {S : List Value} {H : AH} {q : Option ORes → Prop} (h : Rsq (go n (150, L, S, H, cs, ss)) q) : Rsq (go (n + 1) (146, L, S, H, cs, ss)) q := by
  subst hgo
  exact res_of s0_146 h
theorem t0_149 {go : Nat → St → Option ORes} (hgo : go = orun code ret E0 0) {n cs ss : Nat} {L : List Slot} {S : List Value} {H : AH} {q : Option ORes → Prop} (h : Rsq (go n (150, L, (.int 0 :: S), H, cs, ss)) q) : Rsq (go (n + 1) (149, L, S, H, cs, ss)) q := by
  subst hgo
  exact res_of s0_149 h
theorem t0_150 {go : Nat → St → Option ORes} (hgo : go = orun code ret E0 0) {n cs ss : Nat} {l0 l1 l2 l3 l4 l5 l6 l7 l8 l9 l10 l11 l12 l13 l14 l15 l16 l17 l18 l19 l20 l21 l22 l23 l24 l25 l26 l27 l28 l29 l30 l31 : Slot} {S : List Value} {H : AH} {q : Option ORes → Prop} {x : Int32} (hk : so l21 = true) (h : Rsq (go n (152, [l0, l1, l2, l3, l4, l5, l6, l7, l8, l9, l10, l11, l12, l13, l14, l15, l16, l17, l18, l19, l20, .val (.int x), l22, l23, l24, l25, l26, l27, l28, l29, l30, l31], S, H, cs, ss)) q) : Rsq (go (n + 1) (150, [l0, l1, l2, l3, l4, l5, l6, l7, l8, l9, l10, l11, l12, l13, l14, l15, l16, l17, l18, l19, l20, l21, l22, l23, l24, l25, l26, l27, l28, l29, l30, l31], (.int x :: S), H, cs, ss)) q := by
  subst hgo
  refine res_of s0_150 ?_
  rw [pI_int, st1_so (L := [l0, l1, l2, l3, l4, l5, l6, l7, l8, l9, l10, l11, l12, l13, l14, l15, l16, l17, l18, l19, l20, l21, l22, l23, l24, l25, l26, l27, l28, l29, l30, l31]) (k := 21) (l := l21) rfl hk]
  exact h
theorem t0_152 {go : Nat → St → Option ORes} (hgo : go = orun code ret E0 0) {n cs ss : Nat} {l0 l1 l2 l3 l4 l5 l6 l7 l8 l9 l10 l11 l12 l13 l14 l15 l16 l17 l18 l19 l20 l22 l23 l24 l25 l26 l27 l28 l29 l30 l31 : Slot} {S : List Value} {H : AH} {q : Option ORes → Prop} {v : Int32} (h : Rsq (go n (154, [l0, l1, l2, l3, l4, l5, l6, l7, l8, l9, l10, l11, l12, l13, l14, l15, l16, l17, l18, l19, l20, .val (.int v), l22, l23, l24, l25, l26, l27, l28, l29, l30, l31], (.int v :: S), H, cs, ss)) q) : Rsq (go (n + 1) (152, [l0, l1, l2, l3, l4, l5, l6, l7, l8, l9, l10, l11, l12, l13, l14, l15, l16, l17, l18, l19, l20, .val (.int v), l22, l23, l24, l25, l26, l27, l28, l29, l30, l31], S, H, cs, ss)) q := by
  subst hgo
  exact res_of s0_152 h
theorem t0_154t {go : Nat → St → Option ORes} (hgo : go = orun code ret E0 0) {n cs ss : Nat} {L : List Slot} {S : List Value} {H : AH} {q : Option ORes → Prop} {x : Int32} (hc : x = 0) (h : Rsq (go n (188, L, S, H, cs, ss)) q) : Rsq (go (n + 1) (154, L, (.int x :: S), H, cs, ss)) q := by
  subst hgo
  exact res_of s0_154 (res_t hc h)
theorem t0_154f {go : Nat → St → Option ORes} (hgo : go = orun code ret E0 0) {n cs ss : Nat} {L : List Slot} {S : List Value} {H : AH} {q : Option ORes → Prop} {x : Int32} (hc : ¬ x = 0) (h : Rsq (go n (157, L, S, H, cs, ss)) q) : Rsq (go (n + 1) (154, L, (.int x :: S), H, cs, ss)) q := by
  subst hgo
  exact res_of s0_154 (res_f hc h)
theorem t0_157 {go : Nat → St → Option ORes} (hgo : go = orun code ret E0 0) {n cs ss : Nat} {l0 l1 l2 l3 l4 l5 l6 l7 l8 l9 l10 l12 l13 l14 l15 l16 l17 l18 l19 l20 l21 l22 l23 l24 l25 l26 l27 l28 l29 l30 l31 : Slot} {S : List Value} {H : AH} {q : Option ORes → Prop} {v : Int64} (h : Rsq (go n (159, [l0, l1, l2, l3, l4, l5, l6, l7, l8, l9, l10, .val (.long v), l12, l13, l14, l15, l16, l17, l18, l19, l20, l21, l22, l23, l24, l25, l26, l27, l28, l29, l30, l31], (.long v :: S), H, cs, ss)) q) : Rsq (go (n + 1) (157, [l0, l1, l2, l3, l4, l5, l6, l7, l8, l9, l10, .val (.long v), l12, l13, l14, l15, l16, l17, l18, l19, l20, l21, l22, l23, l24, l25, l26, l27, l28, l29, l30, l31], S, H, cs, ss)) q := by
  subst hgo
  exact res_of s0_157 h
theorem t0_159 {go : Nat → St → Option ORes} (hgo : go = orun code ret E0 0) {n cs ss : Nat} {L : List Slot} {S : List Value} {H : AH} {q : Option ORes → Prop} (h : Rsq (go n (160, L, (.long 0 :: S), H, cs, ss)) q) : Rsq (go (n + 1) (159, L, S, H, cs, ss)) q := by
  subst hgo
  exact res_of s0_159 h
theorem t0_160 {go : Nat → St → Option ORes} (hgo : go = orun code ret E0 0) {n cs ss : Nat} {L : List Slot} {S : List Value} {H : AH} {q : Option ORes → Prop} {x y : Int64} (h : Rsq (go n (161, L, (.int (lcmpW x y) :: S), H, cs, ss)) q) : Rsq (go (n + 1) (160, L, (.long y :: .long x :: S), H, cs, ss)) q := by
  subst hgo
  exact res_of s0_160 h
theorem t0_161t {go : Nat → St → Option ORes} (hgo : go = orun code ret E0 0) {n cs ss : Nat} {L : List Slot} {S : List Value} {H : AH} {q : Option ORes → Prop} {x : Int32} (hc : x = 0) (h : Rsq (go n (164, L, S, H, cs, ss)) q) : Rsq (go (n + 1) (161, L, (.int x :: S), H, cs, ss)) q := by
  subst hgo
  exact res_of s0_161 (res_t hc h)
theorem t0_161f {go : Nat → St → Option ORes} (hgo : go = orun code ret E0 0) {n cs ss : Nat} {L : List Slot} {S : List Value} {H : AH} {q : Option ORes → Prop} {x : Int32} (hc : ¬ x = 0) (h : Rsq (go n (168, L, S, H, cs, ss)) q) : Rsq (go (n + 1) (161, L, (.int x :: S), H, cs, ss)) q := by
  subst hgo
  exact res_of s0_161 (res_f hc h)
theorem t0_164 {go : Nat → St → Option ORes} (hgo : go = orun code ret E0 0) {n cs ss : Nat} {L : List Slot} {S : List Value} {H : AH} {q : Option ORes → Prop} (h : Rsq (go n (165, L, (.int 1 :: S), H, cs, ss)) q) : Rsq (go (n + 1) (164, L, S, H, cs, ss)) q := by
  subst hgo
  exact res_of s0_164 h
theorem t0_165 {go : Nat → St → Option ORes} (hgo : go = orun code ret E0 0) {n cs ss : Nat} {L : List Slot} {S : List Value} {H : AH} {q : Option ORes → Prop} (h : Rsq (go n (169, L, S, H, cs, ss)) q) : Rsq (go (n + 1) (165, L, S, H, cs, ss)) q := by
  subst hgo
  exact res_of s0_165 h
theorem t0_168 {go : Nat → St → Option ORes} (hgo : go = orun code ret E0 0) {n cs ss : Nat} {L : List Slot} {S : List Value} {H : AH} {q : Option ORes → Prop} (h : Rsq (go n (169, L, (.int 0 :: S), H, cs, ss)) q) : Rsq (go (n + 1) (168, L, S, H, cs, ss)) q := by
  subst hgo
  exact res_of s0_168 h
theorem t0_169 {go : Nat → St → Option ORes} (hgo : go = orun code ret E0 0) {n cs ss : Nat} {l0 l1 l2 l3 l4 l5 l6 l7 l8 l9 l10 l11 l12 l13 l14 l15 l16 l17 l18 l20 l21 l22 l23 l24 l25 l26 l27 l28 l29 l30 l31 : Slot} {S : List Value} {H : AH} {q : Option ORes → Prop} {v : UInt64} (h : Rsq (go n (171, [l0, l1, l2, l3, l4, l5, l6, l7, l8, l9, l10, l11, l12, l13, l14, l15, l16, l17, l18, .val (.double v), l20, l21, l22, l23, l24, l25, l26, l27, l28, l29, l30, l31], (.double v :: S), H, cs, ss)) q) : Rsq (go (n + 1) (169, [l0, l1, l2, l3, l4, l5, l6, l7, l8, l9, l10, l11, l12, l13, l14, l15, l16, l17, l18, .val (.double v), l20, l21, l22, l23, l24, l25, l26, l27, l28, l29, l30, l31], S, H, cs, ss)) q := by
  subst hgo
  exact res_of s0_169 h
theorem t0_171 {go : Nat → St → Option ORes} (hgo : go = orun code ret E0 0) {n cs ss : Nat} {L : List Slot} {S : List Value} {H : AH} {q : Option ORes → Prop} (h : Rsq (go n (172, L, (.double (dcv 0) :: S), H, cs, ss)) q) : Rsq (go (n + 1) (171, L, S, H, cs, ss)) q := by
  subst hgo
  exact res_of s0_171 h
theorem t0_172 {go : Nat → St → Option ORes} (hgo : go = orun code ret E0 0) {n cs ss : Nat} {L : List Slot} {S : List Value} {H : AH} {q : Option ORes → Prop} {x y : UInt64} (h : Rsq (go n (173, L, (.int (cmpValue (FP.dcmp x y) .l) :: S), H, cs, ss)) q) : Rsq (go (n + 1) (172, L, (.double y :: .double x :: S), H, cs, ss)) q := by
  subst hgo
  exact res_of s0_172 h
theorem t0_173t {go : Nat → St → Option ORes} (hgo : go = orun code ret E0 0) {n cs ss : Nat} {L : List Slot} {S : List Value} {H : AH} {q : Option ORes → Prop} {x : Int32} (hc : x = 0) (h : Rsq (go n (176, L, S, H, cs, ss)) q) : Rsq (go (n + 1) (173, L, (.int x :: S), H, cs, ss)) q := by
  subst hgo
  exact res_of s0_173 (res_t hc h)
theorem t0_173f {go : Nat → St → Option ORes} (hgo : go = orun code ret E0 0) {n cs ss : Nat} {L : List Slot} {S : List Value} {H : AH} {q : Option ORes → Prop} {x : Int32} (hc : ¬ x = 0) (h : Rsq (go n (180, L, S, H, cs, ss)) q) : Rsq (go (n + 1) (173, L, (.int x :: S), H, cs, ss)) q := by
  subst hgo
  exact res_of s0_173 (res_f hc h)
theorem t0_176 {go : Nat → St → Option ORes} (hgo : go = orun code ret E0 0) {n cs ss : Nat} {L : List Slot} {S : List Value} {H : AH} {q : Option ORes → Prop} (h : Rsq (go n (177, L, (.int 1 :: S), H, cs, ss)) q) : Rsq (go (n + 1) (176, L, S, H, cs, ss)) q := by
  subst hgo
  exact res_of s0_176 h
theorem t0_177 {go : Nat → St → Option ORes} (hgo : go = orun code ret E0 0) {n cs ss : Nat} {L : List Slot} {S : List Value} {H : AH} {q : Option ORes → Prop} (h : Rsq (go n (181, L, S, H, cs, ss)) q) : Rsq (go (n + 1) (177, L, S, H, cs, ss)) q := by
  subst hgo
  exact res_of s0_177 h
theorem t0_180 {go : Nat → St → Option ORes} (hgo : go = orun code ret E0 0) {n cs ss : Nat} {L : List Slot} {S : List Value} {H : AH} {q : Option ORes → Prop} (h : Rsq (go n (181, L, (.int 0 :: S), H, cs, ss)) q) : Rsq (go (n + 1) (180, L, S, H, cs, ss)) q := by
  subst hgo
  exact res_of s0_180 h
theorem t0_181t {go : Nat → St → Option ORes} (hgo : go = orun code ret E0 0) {n cs ss : Nat} {L : List Slot} {S : List Value} {H : AH} {q : Option ORes → Prop} {x y : Int32} (hc : x = y) (h : Rsq (go n (184, L, S, H, cs, ss)) q) : Rsq (go (n + 1) (181, L, (.int y :: .int x :: S), H, cs, ss)) q := by
  subst hgo
  exact res_of s0_181 (res_t hc h)
theorem t0_181f {go : Nat → St → Option ORes} (hgo : go = orun code ret E0 0) {n cs ss : Nat} {L : List Slot} {S : List Value} {H : AH} {q : Option ORes → Prop} {x y : Int32} (hc : ¬ x = y) (h : Rsq (go n (188, L, S, H, cs, ss)) q) : Rsq (go (n + 1) (181, L, (.int y :: .int x :: S), H, cs, ss)) q := by
  subst hgo
  exact res_of s0_181 (res_f hc h)
theorem t0_184 {go : Nat → St → Option ORes} (hgo : go = orun code ret E0 0) {n cs ss : Nat} {L : List Slot} {S : List Value} {H : AH} {q : Option ORes → Prop} (h : Rsq (go n (185, L, (.int 1 :: S), H, cs, ss)) q) : Rsq (go (n + 1) (184, L, S, H, cs, ss)) q := by
  subst hgo
  exact res_of s0_184 h
theorem t0_185 {go : Nat → St → Option ORes} (hgo : go = orun code ret E0 0) {n cs ss : Nat} {L : List Slot} {S : List Value} {H : AH} {q : Option ORes → Prop} (h : Rsq (go n (189, L, S, H, cs, ss)) q) : Rsq (go (n + 1) (185, L, S, H, cs, ss)) q := by
  subst hgo
  exact res_of s0_185 h
theorem t0_188 {go : Nat → St → Option ORes} (hgo : go = orun code ret E0 0) {n cs ss : Nat} {L : List Slot} {S : List Value} {H : AH} {q : Option ORes → Prop} (h : Rsq (go n (189, L, (.int 0 :: S), H, cs, ss)) q) : Rsq (go (n + 1) (188, L, S, H, cs, ss)) q := by
  subst hgo
  exact res_of s0_188 h
theorem t0_189 {go : Nat → St → Option ORes} (hgo : go = orun code ret E0 0) {n cs ss : Nat} {l0 l1 l2 l3 l4 l5 l6 l7 l8 l9 l10 l11 l12 l13 l14 l15 l16 l17 l18 l19 l20 l21 l22 l23 l24 l25 l26 l27 l28 l29 l30 l31 : Slot} {S : List Value} {H : AH} {q : Option ORes → Prop} {x : Int32} (hk : so l21 = true) (h : Rsq (go n (191, [l0, l1, l2, l3, l4, l5, l6, l7, l8, l9, l10, l11, l12, l13, l14, l15, l16, l17, l18, l19, l20, .val (.int x), l22, l23, l24, l25, l26, l27, l28, l29, l30, l31], S, H, cs, ss)) q) : Rsq (go (n + 1) (189, [l0, l1, l2, l3, l4, l5, l6, l7, l8, l9, l10, l11, l12, l13, l14, l15, l16, l17, l18, l19, l20, l21, l22, l23, l24, l25, l26, l27, l28, l29, l30, l31], (.int x :: S), H, cs, ss)) q := by
  subst hgo
  refine res_of s0_189 ?_
  rw [pI_int, st1_so (L := [l0, l1, l2, l3, l4, l5, l6, l7, l8, l9, l10, l11, l12, l13, l14, l15, l16, l17, l18, l19, l20, l21, l22, l23, l24, l25, l26, l27, l28, l29, l30, l31]) (k := 21) (l := l21) rfl hk]
  exact h
theorem t0_191 {go : Nat → St → Option ORes} (hgo : go = orun code ret E0 0) {n cs ss : Nat} {l0 l1 l2 l3 l4 l5 l6 l7 l8 l9 l10 l12 l13 l14 l15 l16 l17 l18 l19 l20 l21 l22 l23 l24 l25 l26 l27 l28 l29 l30 l31 : Slot} {S : List Value} {H : AH} {q : Option ORes → Prop} {v : Int64} (h : Rsq (go n (193, [l0, l1, l2, l3, l4, l5, l6, l7, l8, l9, l10, .val (.long v), l12, l13, l14, l15, l16, l17, l18, l19, l20, l21, l22, l23, l24, l25, l26, l27, l28, l29, l30, l31], (.long v :: S), H, cs, ss)) q) : Rsq (go (n + 1) (191, [l0, l1, l2, l3, l4, l5, l6, l7, l8, l9, l10, .val (.long v), l12, l13, l14, l15, l16, l17, l18, l19, l20, l21, l22, l23, l24, l25, l26, l27, l28, l29, l30, l31], S, H, cs, ss)) q := by
  subst hgo
  exact res_of s0_191 h
theorem t0_193 {go : Nat → St → Option ORes} (hgo : go = orun code ret E0 0) {n cs ss : Nat} {l0 l1 l2 l3 l4 l5 l6 l7 l9 l10 l11 l12 l13 l14 l15 l16 l17 l18 l19 l20 l21 l22 l23 l24 l25 l26 l27 l28 l29 l30 l31 : Slot} {S : List Value} {H : AH} {q : Option ORes → Prop} {v : Int64} (h : Rsq (go n (195, [l0, l1, l2, l3, l4, l5, l6, l7, .val (.long v), l9, l10, l11, l12, l13, l14, l15, l16, l17, l18, l19, l20, l21, l22, l23, l24, l25, l26, l27, l28, l29, l30, l31], (.long v :: S), H, cs, ss)) q) : Rsq (go (n + 1) (193, [l0, l1, l2, l3, l4, l5, l6, l7, .val (.long v), l9, l10, l11, l12, l13, l14, l15, l16, l17, l18, l19, l20, l21, l22, l23, l24, l25, l26, l27, l28, l29, l30, l31], S, H, cs, ss)) q := by
  subst hgo
  exact res_of s0_193 h
theorem t0_195 {go : Nat → St → Option ORes} (hgo : go = orun code ret E0 0) {n cs ss : Nat} {L : List Slot} {S : List Value} {H : AH} {q : Option ORes → Prop} {x y : Int64} (h : Rsq (go n (196, L, (.int (lcmpW x y) :: S), H, cs, ss)) q) : Rsq (go (n + 1) (195, L, (.long y :: .long x :: S), H, cs, ss)) q := by
  subst hgo
  exact res_of s0_195 h
theorem t0_196t {go : Nat → St → Option ORes} (hgo : go = orun code ret E0 0) {n cs ss : Nat} {L : List Slot} {S : List Value} {H : AH} {q : Option ORes → Prop} {x : Int32} (hc : x = 0) (h : Rsq (go n (199, L, S, H, cs, ss)) q) : Rsq (go (n + 1) (196, L, (.int x :: S), H, cs, ss)) q := by
  subst hgo
  exact res_of s0_196 (res_t hc h)
theorem t0_196f {go : Nat → St → Option ORes} (hgo : go = orun code ret E0 0) {n cs ss : Nat} {L : List Slot} {S : List Value} {H : AH} {q : Option ORes → Prop} {x : Int32} (hc : ¬ x = 0) (h : Rsq (go n (218, L, S, H, cs, ss)) q) : Rsq (go (n + 1) (196, L, (.int x :: S), H, cs, ss)) q := by
  subst hgo
  exact res_of s0_196 (res_f hc h)
theorem t0_199 {go : Nat → St → Option ORes} (hgo : go = orun code ret E0 0) {n cs ss : Nat} {l0 l1 l2 l3 l4 l5 l6 l7 l8 l9 l10 l11 l12 l13 l14 l15 l16 l17 l18 l19 l20 l22 l23 l24 l25 l26 l27 l28 l29 l30 l31 : Slot} {S : List Value} {H : AH} {q : Option ORes → Prop} {v : Int32} (h : Rsq (go n (201, [l0, l1, l2, l3, l4, l5, l6, l7, l8, l9, l10, l11, l12, l13, l14, l15, l16, l17, l18, l19, l20, .val (.int v), l22, l23, l24, l25, l26, l27, l28, l29, l30, l31], (.int v :: S), H, cs, ss)) q) : Rsq (go (n + 1) (199, [l0, l1, l2, l3, l4, l5, l6, l7, l8, l9, l10, l11, l12, l13, l14, l15, l16, l17, l18, l19, l20, .val (.int v), l22, l23, l24, l25, l26, l27, l28, l29, l30, l31], S, H, cs, ss)) q := by
  subst hgo
  exact res_of s0_199 h
theorem t0_201t {go : Nat → St → Option ORes} (hgo : go = orun code ret E0 0) {n cs ss : Nat} {L : List Slot} {S : List Value} {H : AH} {q : Option ORes → Prop} {x : Int32} (hc : x = 0) (h : Rsq (go n (215, L, S, H, cs, ss)) q) : Rsq (go (n + 1) (201, L, (.int x :: S), H, cs, ss)) q := by
  subst hgo
  exact res_of s0_201 (res_t hc h)
theorem t0_201f {go : Nat → St → Option ORes} (hgo : go = orun code ret E0 0) {n cs ss : Nat} {L : List Slot} {S : List Value} {H : AH} {q : Option ORes → Prop} {x : Int32} (hc : ¬ x = 0) (h : Rsq (go n (204, L, S, H, cs, ss)) q) : Rsq (go (n + 1) (201, L, (.int x :: S), H, cs, ss)) q := by
  subst hgo
  exact res_of s0_201 (res_f hc h)
theorem t0_204 {go : Nat → St → Option ORes} (hgo : go = orun code ret E0 0) {n cs ss : Nat} {l0 l1 l2 l3 l4 l5 l6 l7 l8 l9 l10 l11 l12 l13 l14 l15 l16 l17 l18 l20 l21 l22 l23 l24 l25 l26 l27 l28 l29 l30 l31 : Slot} {S : List Value} {H : AH} {q : Option ORes → Prop} {v : UInt64} (h : Rsq (go n (206, [l0, l1, l2, l3, l4, l5, l6, l7, l8, l9, l10, l11, l12, l13, l14, l15, l16, l17, l18, .val (.double v), l20, l21, l22, l23, l24, l25, l26, l27, l28, l29, l30, l31], (.double v :: S), H, cs, ss)) q) : Rsq (go (n + 1) (204, [l0, l1, l2, l3, l4, l5, l6, l7, l8, l9, l10, l11, l12, l13, l14, l15, l16, l17, l18, .val (.double v), l20, l21, l22, l23, l24, l25, l26, l27, l28, l29, l30, l31], S, H, cs, ss)) q := by
  subst hgo
  exact res_of s0_204 h
theorem t0_206 {go : Nat → St → Option ORes} (hgo : go = orun code ret E0 0) {n cs ss : Nat} {L : List Slot} {S : List Value} {H : AH} {q : Option ORes → Prop} (h : Rsq (go n (207, L, (.double (dcv 1) :: S), H, cs, ss)) q) : Rsq (go (n + 1) (206, L, S, H, cs, ss)) q := by
  subst hgo
  exact res_of s0_206 h
theorem t0_207 {go : Nat → St → Option ORes} (hgo : go = orun code ret E0 0) {n cs ss : Nat} {L : List Slot} {S : List Value} {H : AH} {q : Option ORes → Prop} {x y : UInt64} (h : Rsq (go n (208, L, (.int (cmpValue (FP.dcmp x y) .l) :: S), H, cs, ss)) q) : Rsq (go (n + 1) (207, L, (.double y :: .double x :: S), H, cs, ss)) q := by
  subst hgo
  exact res_of s0_207 h
theorem t0_208t {go : Nat → St → Option ORes} (hgo : go = orun code ret E0 0) {n cs ss : Nat} {L : List Slot} {S : List Value} {H : AH} {q : Option ORes → Prop} {x : Int32} (hc : x = 0) (h : Rsq (go n (211, L, S, H, cs, ss)) q) : Rsq (go (n + 1) (208, L, (.int x :: S), H, cs, ss)) q := by
  subst hgo
  exact res_of s0_208 (res_t hc h)
theorem t0_208f {go : Nat → St → Option ORes} (hgo : go = orun code ret E0 0) {n cs ss : Nat} {L : List Slot} {S : List Value} {H : AH} {q : Option ORes → Prop} {x : Int32} (hc : ¬ x = 0) (h : Rsq (go n (215, L, S, H, cs, ss)) q) : Rsq (go (n + 1) (208, L, (.int x :: S), H, cs, ss)) q := by
  subst hgo
  exact res_of s0_208 (res_f hc h)
theorem t0_211 {go : Nat → St → Option ORes} (hgo : go = orun code ret E0 0) {n cs ss : Nat} {L : List Slot} {S : List Value} {H : AH} {q : Option ORes → Prop} (h : Rsq (go n (212, L, (.int 1 :: S), H, cs, ss)) q) : Rsq (go (n + 1) (211, L, S, H, cs, ss)) q := by
  subst hgo
  exact res_of s0_211 h
theorem t0_212 {go : Nat → St → Option ORes} (hgo : go = orun code ret E0 0) {n cs ss : Nat} {L : List Slot} {S : List Value} {H : AH} {q : Option ORes → Prop} (h : Rsq (go n (216, L, S, H, cs, ss)) q) : Rsq (go (n + 1) (212, L, S, H, cs, ss)) q := by
  subst hgo
  exact res_of s0_212 h
theorem t0_215 {go : Nat → St → Option ORes} (hgo : go = orun code ret E0 0) {n cs ss : Nat} {L : List Slot} {S : List Value} {H : AH} {q : Option ORes → Prop} (h : Rsq (go n (216, L, (.int 0 :: S), H, cs, ss)) q) : Rsq (go (n + 1) (215, L, S, H, cs, ss)) q := by
  subst hgo
  exact res_of s0_215 h
theorem t0_216 {go : Nat → St → Option ORes} (hgo : go = orun code ret E0 0) {n cs ss : Nat} {l0 l1 l2 l3 l4 l5 l6 l7 l8 l9 l10 l11 l12 l13 l14 l15 l16 l17 l18 l19 l20 l21 l22 l23 l24 l25 l26 l27 l28 l29 l30 l31 : Slot} {S : List Value} {H : AH} {q : Option ORes → Prop} {x : Int32} (hk : so l21 = true) (h : Rsq (go n (218, [l0, l1, l2, l3, l4, l5, l6, l7, l8, l9, l10, l11, l12, l13, l14, l15, l16, l17, l18, l19, l20, .val (.int x), l22, l23, l24, l25, l26, l27, l28, l29, l30, l31], S, H, cs, ss)) q) : Rsq (go (n + 1) (216, [l0, l1, l2, l3, l4, l5, l6, l7, l8, l9, l10, l11, l12, l13, l14, l15, l16, l17, l18, l19, l20, l21, l22, l23, l24, l25, l26, l27, l28, l29, l30, l31], (.int x :: S), H, cs, ss)) q := by
  subst hgo
  refine res_of s0_216 ?_
  rw [pI_int, st1_so (L := [l0, l1, l2, l3, l4, l5, l6, l7, l8, l9, l10, l11, l12, l13, l14, l15, l16, l17, l18, l19, l20, l21, l22, l23, l24, l25, l26, l27, l28, l29, l30, l31]) (k := 21) (l := l21) rfl hk]
  exact h
theorem t0_218 {go : Nat → St → Option ORes} (hgo : go = orun code ret E0 0) {n cs ss : Nat} {l0 l1 l2 l3 l4 l5 l6 l7 l8 l9 l10 l12 l13 l14 l15 l16 l17 l18 l19 l20 l21 l22 l23 l24 l25 l26 l27 l28 l29 l30 l31 : Slot} {S : List Value} {H : AH} {q : Option ORes → Prop} {v : Int64} (h : Rsq (go n (220, [l0, l1, l2, l3, l4, l5, l6, l7, l8, l9, l10, .val (.long v), l12, l13, l14, l15, l16, l17, l18, l19, l20, l21, l22, l23, l24, l25, l26, l27, l28, l29, l30, l31], (.long v :: S), H, cs, ss)) q) : Rsq (go (n + 1) (218, [l0, l1, l2, l3, l4, l5, l6, l7, l8, l9, l10, .val (.long v), l12, l13, l14, l15, l16, l17, l18, l19, l20, l21, l22, l23, l24, l25, l26, l27, l28, l29, l30, l31], S, H, cs, ss)) q := by
  subst hgo
  exact res_of s0_218 h
theorem t0_220 {go : Nat → St → Option ORes} (hgo : go = orun code ret E0 0) {n cs ss : Nat} {l0 l1 l2 l3 l4 l5 l6 l7 l9 l10 l11 l12 l13 l14 l15 l16 l17 l18 l19 l20 l21 l22 l23 l24 l25 l26 l27 l28 l29 l30 l31 : Slot} {S : List Value} {H : AH} {q : Option ORes → Prop} {v : Int64} (h : Rsq (go n (222, [l0, l1, l2, l3, l4, l5, l6, l7, .val (.long v), l9, l10, l11, l12, l13, l14, l15, l16, l17, l18, l19, l20, l21, l22, l23, l24, l25, l26, l27, l28, l29, l30, l31], (.long v :: S), H, cs, ss)) q) : Rsq (go (n + 1) (220, [l0, l1, l2, l3, l4, l5, l6, l7, .val (.long v), l9, l10, l11, l12, l13, l14, l15, l16, l17, l18, l19, l20, l21, l22, l23, l24, l25, l26, l27, l28, l29, l30, l31], S, H, cs, ss)) q := by
  subst hgo
  exact res_of s0_220 h
theorem t0_222 {go : Nat → St → Option ORes} (hgo : go = orun code ret E0 0) {n cs ss : Nat} {L : List Slot} {S : List Value} {H : AH} {q : Option ORes → Prop} {x y : Int64} (h : Rsq (go n (223, L, (.int (lcmpW x y) :: S), H, cs, ss)) q) : Rsq (go (n + 1) (222, L, (.long y :: .long x :: S), H, cs, ss)) q := by
  subst hgo
  exact res_of s0_222 h
theorem t0_223t {go : Nat → St → Option ORes} (hgo : go = orun code ret E0 0) {n cs ss : Nat} {L : List Slot} {S : List Value} {H : AH} {q : Option ORes → Prop} {x : Int32} (hc : x < 0) (h : Rsq (go n (226, L, S, H, cs, ss)) q) : Rsq (go (n + 1) (223, L, (.int x :: S), H, cs, ss)) q := by
  subst hgo
  exact res_of s0_223 (res_t hc h)
theorem t0_223f {go : Nat → St → Option ORes} (hgo : go = orun code ret E0 0) {n cs ss : Nat} {L : List Slot} {S : List Value} {H : AH} {q : Option ORes → Prop} {x : Int32} (hc : ¬ x < 0) (h : Rsq (go n (254, L, S, H, cs, ss)) q) : Rsq (go (n + 1) (223, L, (.int x :: S), H, cs, ss)) q := by
  subst hgo
  exact res_of s0_223 (res_f hc h)
theorem t0_226 {go : Nat → St → Option ORes} (hgo : go = orun code ret E0 0) {n cs ss : Nat} {l0 l1 l2 l3 l4 l5 l6 l7 l9 l10 l11 l12 l13 l14 l15 l16 l17 l18 l19 l20 l21 l22 l23 l24 l25 l26 l27 l28 l29 l30 l31 : Slot} {S : List Value} {H : AH} {q : Option ORes → Prop} {v : Int64} (h : Rsq (go n (228, [l0, l1, l2, l3, l4, l5, l6, l7, .val (.long v), l9, l10, l11, l12, l13, l14, l15, l16, l17, l18, l19, l20, l21, l22, l23, l24, l25, l26, l27, l28, l29, l30, l31], (.long v :: S), H, cs, ss)) q) : Rsq (go (n + 1) (226, [l0, l1, l2, l3, l4, l5, l6, l7, .val (.long v), l9, l10, l11, l12, l13, l14, l15, l16, l17, l18, l19, l20, l21, l22, l23, l24, l25, l26, l27, l28, l29, l30, l31], S, H, cs, ss)) q := by
  subst hgo
  exact res_of s0_226 h
theorem t0_228 {go : Nat → St → Option ORes} (hgo : go = orun code ret E0 0) {n cs ss : Nat} {L : List Slot} {S : List Value} {H : AH} {q : Option ORes → Prop} (h : Rsq (go n (231, L, (.long (9007199254740992) :: S), H, cs, ss)) q) : Rsq (go (n + 1) (228, L, S, H, cs, ss)) q := by
  subst hgo
  exact res_of s0_228 h
theorem t0_231 {go : Nat → St → Option ORes} (hgo : go = orun code ret E0 0) {n cs ss : Nat} {L : List Slot} {S : List Value} {H : AH} {q : Option ORes → Prop} {x y : Int64} (h : Rsq (go n (232, L, (.int (lcmpW x y) :: S), H, cs, ss)) q) : Rsq (go (n + 1) (231, L, (.long y :: .long x :: S), H, cs, ss)) q := by
  subst hgo
  exact res_of s0_231 h
theorem t0_232t {go : Nat → St → Option ORes} (hgo : go = orun code ret E0 0) {n cs ss : Nat} {L : List Slot} {S : List Value} {H : AH} {q : Option ORes → Prop} {x : Int32} (hc : 0 < x) (h : Rsq (go n (254, L, S, H, cs, ss)) q) : Rsq (go (n + 1) (232, L, (.int x :: S), H, cs, ss)) q := by
  subst hgo
  exact res_of s0_232 (res_t hc h)
theorem t0_232f {go : Nat → St → Option ORes} (hgo : go = orun code ret E0 0) {n cs ss : Nat} {L : List Slot} {S : List Value} {H : AH} {q : Option ORes → Prop} {x : Int32} (hc : ¬ 0 < x) (h : Rsq (go n (235, L, S, H, cs, ss)) q) : Rsq (go (n + 1) (232, L, (.int x :: S), H, cs, ss)) q := by
  subst hgo
  exact res_of s0_232 (res_f hc h)
theorem t0_235 {go : Nat → St → Option ORes} (hgo : go = orun code ret E0 0) {n cs ss : Nat} {l0 l1 l2 l3 l4 l5 l6 l7 l8 l9 l10 l11 l12 l13 l14 l15 l16 l17 l18 l19 l20 l22 l23 l24 l25 l26 l27 l28 l29 l30 l31 : Slot} {S : List Value} {H : AH} {q : Option ORes → Prop} {v : Int32} (h : Rsq (go n (237, [l0, l1, l2, l3, l4, l5, l6, l7, l8, l9, l10, l11, l12, l13, l14, l15, l16, l17, l18, l19, l20, .val (.int v), l22, l23, l24, l25, l26, l27, l28, l29, l30, l31], (.int v :: S), H, cs, ss)) q) : Rsq (go (n + 1) (235, [l0, l1, l2, l3, l4, l5, l6, l7, l8, l9, l10, l11, l12, l13, l14, l15, l16, l17, l18, l19, l20, .val (.int v), l22, l23, l24, l25, l26, l27, l28, l29, l30, l31], S, H, cs, ss)) q := by
  subst hgo
  exact res_of s0_235 h
theorem t0_237t {go : Nat → St → Option ORes} (hgo : go = orun code ret E0 0) {n cs ss : Nat} {L : List Slot} {S : List Value} {H : AH} {q : Option ORes → Prop} {x : Int32} (hc : x = 0) (h : Rsq (go n (251, L, S, H, cs, ss)) q) : Rsq (go (n + 1) (237, L, (.int x :: S), H, cs, ss)) q := by
  subst hgo
  exact res_of s0_237 (res_t hc h)
theorem t0_237f {go : Nat → St → Option ORes} (hgo : go = orun code ret E0 0) {n cs ss : Nat} {L : List Slot} {S : List Value} {H : AH} {q : Option ORes → Prop} {x : Int32} (hc : ¬ x = 0) (h : Rsq (go n (240, L, S, H, cs, ss)) q) : Rsq (go (n + 1) (237, L, (.int x :: S), H, cs, ss)) q := by
  subst hgo
  exact res_of s0_237 (res_f hc h)
theorem t0_240 {go : Nat → St → Option ORes} (hgo : go = orun code ret E0 0) {n cs ss : Nat} {l0 l1 l2 l3 l4 l5 l6 l7 l8 l9 l10 l11 l12 l13 l14 l15 l16 l17 l18 l20 l21 l22 l23 l24 l25 l26 l27 l28 l29 l30 l31 : Slot} {S : List Value} {H : AH} {q : Option ORes → Prop} {v : UInt64} (h : Rsq (go n (242, [l0, l1, l2, l3, l4, l5, l6, l7, l8, l9, l10, l11, l12, l13, l14, l15, l16, l17, l18, .val (.double v), l20, l21, l22, l23, l24, l25, l26, l27, l28, l29, l30, l31], (.double v :: S), H, cs, ss)) q) : Rsq (go (n + 1) (240, [l0, l1, l2, l3, l4, l5, l6, l7, l8, l9, l10, l11, l12, l13, l14, l15, l16, l17, l18, .val (.double v), l20, l21, l22, l23, l24, l25, l26, l27, l28, l29, l30, l31], S, H, cs, ss)) q := by
  subst hgo
  exact res_of s0_240 h
theorem t0_242 {go : Nat → St → Option ORes} (hgo : go = orun code ret E0 0) {n cs ss : Nat} {L : List Slot} {S : List Value} {H : AH} {q : Option ORes → Prop} (h : Rsq (go n (243, L, (.double (dcv 1) :: S), H, cs, ss)) q) : Rsq (go (n + 1) (242, L, S, H, cs, ss)) q := by
  subst hgo
  exact res_of s0_242 h
theorem t0_243 {go : Nat → St → Option ORes} (hgo : go = orun code ret E0 0) {n cs ss : Nat} {L : List Slot} {S : List Value} {H : AH} {q : Option ORes → Prop} {x y : UInt64} (h : Rsq (go n (244, L, (.int (cmpValue (FP.dcmp x y) .g) :: S), H, cs, ss)) q) : Rsq (go (n + 1) (243, L, (.double y :: .double x :: S), H, cs, ss)) q := by
  subst hgo
  exact res_of s0_243 h
theorem t0_244t {go : Nat → St → Option ORes} (hgo : go = orun code ret E0 0) {n cs ss : Nat} {L : List Slot} {S : List Value} {H : AH} {q : Option ORes → Prop} {x : Int32} (hc : x < 0) (h : Rsq (go n (247, L, S, H, cs, ss)) q) : Rsq (go (n + 1) (244, L, (.int x :: S), H, cs, ss)) q := by
  subst hgo
  exact res_of s0_244 (res_t hc h)
theorem t0_244f {go : Nat → St → Option ORes} (hgo : go = orun code ret E0 0) {n cs ss : Nat} {L : List Slot} {S : List Value} {H : AH} {q : Option ORes → Prop} {x : Int32} (hc : ¬ x < 0) (h : Rsq (go n (251, L, S, H, cs, ss)) q) : Rsq (go (n + 1) (244, L, (.int x :: S), H, cs, ss)) q := by
  subst hgo
  exact res_of s0_244 (res_f hc h)
theorem t0_247 {go : Nat → St → Option ORes} (hgo : go = orun code ret E0 0) {n cs ss : Nat} {L : List Slot} {S : List Value} {H : AH} {q : Option ORes → Prop} (h : Rsq (go n (248, L, (.int 1 :: S), H, cs, ss)) q) : Rsq (go (n + 1) (247, L, S, H, cs, ss)) q := by
  subst hgo
  exact res_of s0_247 h
theorem t0_248 {go : Nat → St → Option ORes} (hgo : go = orun code ret E0 0) {n cs ss : Nat} {L : List Slot} {S : List Value} {H : AH} {q : Option ORes → Prop} (h : Rsq (go n (252, L, S, H, cs, ss)) q) : Rsq (go (n + 1) (248, L, S, H, cs, ss)) q := by
  subst hgo
  exact res_of s0_248 h
theorem t0_251 {go : Nat → St → Option ORes} (hgo : go = orun code ret E0 0) {n cs ss : Nat} {L : List Slot} {S : List Value} {H : AH} {q : Option ORes → Prop} (h : Rsq (go n (252, L, (.int 0 :: S), H, cs, ss)) q) : Rsq (go (n + 1) (251, L, S, H, cs, ss)) q := by
  subst hgo
  exact res_of s0_251 h
theorem t0_252 {go : Nat → St → Option ORes} (hgo : go = orun code ret E0 0) {n cs ss : Nat} {l0 l1 l2 l3 l4 l5 l6 l7 l8 l9 l10 l11 l12 l13 l14 l15 l16 l17 l18 l19 l20 l21 l22 l23 l24 l25 l26 l27 l28 l29 l30 l31 : Slot} {S : List Value} {H : AH} {q : Option ORes → Prop} {x : Int32} (hk : so l21 = true) (h : Rsq (go n (254, [l0, l1, l2, l3, l4, l5, l6, l7, l8, l9, l10, l11, l12, l13, l14, l15, l16, l17, l18, l19, l20, .val (.int x), l22, l23, l24, l25, l26, l27, l28, l29, l30, l31], S, H, cs, ss)) q) : Rsq (go (n + 1) (252, [l0, l1, l2, l3, l4, l5, l6, l7, l8, l9, l10, l11, l12, l13, l14, l15, l16, l17, l18, l19, l20, l21, l22, l23, l24, l25, l26, l27, l28, l29, l30, l31], (.int x :: S), H, cs, ss)) q := by
  subst hgo
  refine res_of s0_252 ?_
  rw [pI_int, st1_so (L := [l0, l1, l2, l3, l4, l5, l6, l7, l8, l9, l10, l11, l12, l13, l14, l15, l16, l17, l18, l19, l20, l21, l22, l23, l24, l25, l26, l27, l28, l29, l30, l31]) (k := 21) (l := l21) rfl hk]
  exact h
theorem t0_254 {go : Nat → St → Option ORes} (hgo : go = orun code ret E0 0) {n cs ss : Nat} {l0 l1 l2 l3 l4 l5 l6 l7 l8 l9 l10 l11 l12 l13 l14 l16 l17 l18 l19 l20 l21 l22 l23 l24 l25 l26 l27 l28 l29 l30 l31 : Slot} {S : List Value} {H : AH} {q : Option ORes → Prop} {v : Int64} (h : Rsq (go n (256, [l0, l1, l2, l3, l4, l5, l6, l7, l8, l9, l10, l11, l12, l13, l14, .val (.long v), l16, l17, l18, l19, l20, l21, l22, l23, l24, l25, l26, l27, l28, l29, l30, l31], (.long v :: S), H, cs, ss)) q) : Rsq (go (n + 1) (254, [l0, l1, l2, l3, l4, l5, l6, l7, l8, l9, l10, l11, l12, l13, l14, .val (.long v), l16, l17, l18, l19, l20, l21, l22, l23, l24, l25, l26, l27, l28, l29, l30, l31], S, H, cs, ss)) q := by
  subst hgo
  exact res_of s0_254 h
theorem t0_256 {go : Nat → St → Option ORes} (hgo : go = orun code ret E0 0) {n cs ss : Nat} {l0 l1 l2 l3 l4 l5 l6 l7 l9 l10 l11 l12 l13 l14 l15 l16 l17 l18 l19 l20 l21 l22 l23 l24 l25 l26 l27 l28 l29 l30 l31 : Slot} {S : List Value} {H : AH} {q : Option ORes → Prop} {v : Int64} (h : Rsq (go n (258, [l0, l1, l2, l3, l4, l5, l6, l7, .val (.long v), l9, l10, l11, l12, l13, l14, l15, l16, l17, l18, l19, l20, l21, l22, l23, l24, l25, l26, l27, l28, l29, l30, l31], (.long v :: S), H, cs, ss)) q) : Rsq (go (n + 1) (256, [l0, l1, l2, l3, l4, l5, l6, l7, .val (.long v), l9, l10, l11, l12, l13, l14, l15, l16, l17, l18, l19, l20, l21, l22, l23, l24, l25, l26, l27, l28, l29, l30, l31], S, H, cs, ss)) q := by
  subst hgo
  exact res_of s0_256 h
theorem t0_258 {go : Nat → St → Option ORes} (hgo : go = orun code ret E0 0) {n cs ss : Nat} {l0 l1 l2 l3 l4 l5 l6 l8 l9 l10 l11 l12 l13 l14 l15 l16 l17 l18 l19 l20 l21 l22 l23 l24 l25 l26 l27 l28 l29 l30 l31 : Slot} {S : List Value} {H : AH} {q : Option ORes → Prop} {v : Int32} (h : Rsq (go n (260, [l0, l1, l2, l3, l4, l5, l6, .val (.int v), l8, l9, l10, l11, l12, l13, l14, l15, l16, l17, l18, l19, l20, l21, l22, l23, l24, l25, l26, l27, l28, l29, l30, l31], (.int v :: S), H, cs, ss)) q) : Rsq (go (n + 1) (258, [l0, l1, l2, l3, l4, l5, l6, .val (.int v), l8, l9, l10, l11, l12, l13, l14, l15, l16, l17, l18, l19, l20, l21, l22, l23, l24, l25, l26, l27, l28, l29, l30, l31], S, H, cs, ss)) q := by
  subst hgo
  exact res_of s0_258 h
theorem u0_260 {go : Nat → St → Option ORes} (hgo : go = orun code ret E0 0) {n cs ss : Nat} {L : List Slot} {S : List Value} {H : AH} : go (n + 1) (260, L, S, H, cs, ss) = (aCall 3 6 24 128 1 5 F3 S H cs ss).bind fun r => go n (263, L, r.1, r.2.1, r.2.2.1, r.2.2.2) := by
  subst hgo
  exact s0_260
theorem t0_263 {go : Nat → St → Option ORes} (hgo : go = orun code ret E0 0) {n cs ss : Nat} {l0 l1 l2 l3 l4 l5 l6 l7 l8 l9 l10 l11 l12 l13 l14 l15 l16 l17 l18 l19 l20 l21 l22 l23 l24 l25 l26 l27 l28 l29 l30 l31 : Slot} {S : List Value} {H : AH} {q : Option ORes → Prop} {x : UInt64} (hk : so2D l22 l23 = true) (h : Rsq (go n (265, [l0, l1, l2, l3, l4, l5, l6, l7, l8, l9, l10, l11, l12, l13, l14, l15, l16, l17, l18, l19, l20, l21, .val (.double x), .second, l24, l25, l26, l27, l28, l29, l30, l31], S, H, cs, ss)) q) : Rsq (go (n + 1) (263, [l0, l1, l2, l3, l4, l5, l6, l7, l8, l9, l10, l11, l12, l13, l14, l15, l16, l17, l18, l19, l20, l21, l22, l23, l24, l25, l26, l27, l28, l29, l30, l31], (.double x :: S), H, cs, ss)) q := by
  subst hgo
  refine res_of s0_263 ?_
  rw [pD_double, st2D_so (L := [l0, l1, l2, l3, l4, l5, l6, l7, l8, l9, l10, l11, l12, l13, l14, l15, l16, l17, l18, l19, l20, l21, l22, l23, l24, l25, l26, l27, l28, l29, l30, l31]) (k := 22) (l := l22) (l' := l23) rfl rfl hk]
  exact h
theorem t0_265 {go : Nat → St → Option ORes} (hgo : go = orun code ret E0 0) {n cs ss : Nat} {l0 l1 l2 l3 l4 l5 l6 l7 l8 l9 l10 l11 l12 l13 l14 l15 l16 l18 l19 l20 l21 l22 l23 l24 l25 l26 l27 l28 l29 l30 l31 : Slot} {S : List Value} {H : AH} {q : Option ORes → Prop} {v : Int64} (h : Rsq (go n (267, [l0, l1, l2, l3, l4, l5, l6, l7, l8, l9, l10, l11, l12, l13, l14, l15, l16, .val (.long v), l18, l19, l20, l21, l22, l23, l24, l25, l26, l27, l28, l29, l30, l31], (.long v :: S), H, cs, ss)) q) : Rsq (go (n + 1) (265, [l0, l1, l2, l3, l4, l5, l6, l7, l8, l9, l10, l11, l12, l13, l14, l15, l16, .val (.long v), l18, l19, l20, l21, l22, l23, l24, l25, l26, l27, l28, l29, l30, l31], S, H, cs, ss)) q := by
  subst hgo
  exact res_of s0_265 h
theorem t0_267 {go : Nat → St → Option ORes} (hgo : go = orun code ret E0 0) {n cs ss : Nat} {l0 l1 l2 l3 l4 l5 l6 l7 l9 l10 l11 l12 l13 l14 l15 l16 l17 l18 l19 l20 l21 l22 l23 l24 l25 l26 l27 l28 l29 l30 l31 : Slot} {S : List Value} {H : AH} {q : Option ORes → Prop} {v : Int64} (h : Rsq (go n (269, [l0, l1, l2, l3, l4, l5, l6, l7, .val (.long v), l9, l10, l11, l12, l13, l14, l15, l16, l17, l18, l19, l20, l21, l22, l23, l24, l25, l26, l27, l28, l29, l30, l31], (.long v :: S), H, cs, ss)) q) : Rsq (go (n + 1) (267, [l0, l1, l2, l3, l4, l5, l6, l7, .val (.long v), l9, l10, l11, l12, l13, l14, l15, l16, l17, l18, l19, l20, l21, l22, l23, l24, l25, l26, l27, l28, l29, l30, l31], S, H, cs, ss)) q := by
  subst hgo
  exact res_of s0_267 h
theorem t0_269 {go : Nat → St → Option ORes} (hgo : go = orun code ret E0 0) {n cs ss : Nat} {l0 l1 l2 l3 l4 l5 l6 l8 l9 l10 l11 l12 l13 l14 l15 l16 l17 l18 l19 l20 l21 l22 l23 l24 l25 l26 l27 l28 l29 l30 l31 : Slot} {S : List Value} {H : AH} {q : Option ORes → Prop} {v : Int32} (h : Rsq (go n (271, [l0, l1, l2, l3, l4, l5, l6, .val (.int v), l8, l9, l10, l11, l12, l13, l14, l15, l16, l17, l18, l19, l20, l21, l22, l23, l24, l25, l26, l27, l28, l29, l30, l31], (.int v :: S), H, cs, ss)) q) : Rsq (go (n + 1) (269, [l0, l1, l2, l3, l4, l5, l6, .val (.int v), l8, l9, l10, l11, l12, l13, l14, l15, l16, l17, l18, l19, l20, l21, l22, l23, l24, l25, l26, l27, l28, l29, l30, l31], S, H, cs, ss)) q := by
  subst hgo
  exact res_of s0_269 h
theorem u0_271 {go : Nat → St → Option ORes} (hgo : go = orun code ret E0 0) {n cs ss : Nat} {L : List Slot} {S : List Value} {H : AH} : go (n + 1) (271, L, S, H, cs, ss) = (aCall 3 6 24 128 1 5 F3 S H cs ss).bind fun r => go n (274, L, r.1, r.2.1, r.2.2.1, r.2.2.2) := by
  subst hgo
  exact s0_271
theorem t0_274 {go : Nat → St → Option ORes} (hgo : go = orun code ret E0 0) {n cs ss : Nat} {l0 l1 l2 l3 l4 l5 l6 l7 l8 l9 l10 l11 l12 l13 l14 l15 l16 l17 l18 l19 l20 l21 l22 l23 l24 l25 l26 l27 l28 l29 l30 l31 : Slot} {S : List Value} {H : AH} {q : Option ORes → Prop} {x : UInt64} (hk : so2D l24 l25 = true) (h : Rsq (go n (276, [l0, l1, l2, l3, l4, l5, l6, l7, l8, l9, l10, l11, l12, l13, l14, l15, l16, l17, l18, l19, l20, l21, l22, l23, .val (.double x), .second, l26, l27, l28, l29, l30, l31], S, H, cs, ss)) q) : Rsq (go (n + 1) (274, [l0, l1, l2, l3, l4, l5, l6, l7, l8, l9, l10, l11, l12, l13, l14, l15, l16, l17, l18, l19, l20, l21, l22, l23, l24, l25, l26, l27, l28, l29, l30, l31], (.double x :: S), H, cs, ss)) q := by
  subst hgo
  refine res_of s0_274 ?_
  rw [pD_double, st2D_so (L := [l0, l1, l2, l3, l4, l5, l6, l7, l8, l9, l10, l11, l12, l13, l14, l15, l16, l17, l18, l19, l20, l21, l22, l23, l24, l25, l26, l27, l28, l29, l30, l31]) (k := 24) (l := l24) (l' := l25) rfl rfl hk]
  exact h
theorem t0_276 {go : Nat → St → Option ORes} (hgo : go = orun code ret E0 0) {n cs ss : Nat} {l0 l1 l2 l3 l4 l5 l6 l7 l8 l9 l10 l11 l12 l13 l14 l15 l16 l17 l18 l19 l20 l22 l23 l24 l25 l26 l27 l28 l29 l30 l31 : Slot} {S : List Value} {H : AH} {q : Option ORes → Prop} {v : Int32} (h : Rsq (go n (278, [l0, l1, l2, l3, l4, l5, l6, l7, l8, l9, l10, l11, l12, l13, l14, l15, l16, l17, l18, l19, l20, .val (.int v), l22, l23, l24, l25, l26, l27, l28, l29, l30, l31], (.int v :: S), H, cs, ss)) q) : Rsq (go (n + 1) (276, [l0, l1, l2, l3, l4, l5, l6, l7, l8, l9, l10, l11, l12, l13, l14, l15, l16, l17, l18, l19, l20, .val (.int v), l22, l23, l24, l25, l26, l27, l28, l29, l30, l31], S, H, cs, ss)) q := by
  subst hgo
  exact res_of s0_276 h
theorem t0_278t {go : Nat → St → Option ORes} (hgo : go = orun code ret E0 0) {n cs ss : Nat} {L : List Slot} {S : List Value} {H : AH} {q : Option ORes → Prop} {x : Int32} (hc : x = 0) (h : Rsq (go n (293, L, S, H, cs, ss)) q) : Rsq (go (n + 1) (278, L, (.int x :: S), H, cs, ss)) q := by
  subst hgo
  exact res_of s0_278 (res_t hc h)
theorem t0_278f {go : Nat → St → Option ORes} (hgo : go = orun code ret E0 0) {n cs ss : Nat} {L : List Slot} {S : List Value} {H : AH} {q : Option ORes → Prop} {x : Int32} (hc : ¬ x = 0) (h : Rsq (go n (281, L, S, H, cs, ss)) q) : Rsq (go (n + 1) (278, L, (.int x :: S), H, cs, ss)) q := by
  subst hgo
  exact res_of s0_278 (res_f hc h)
theorem t0_281 {go : Nat → St → Option ORes} (hgo : go = orun code ret E0 0) {n cs ss : Nat} {l0 l1 l2 l3 l4 l5 l6 l7 l8 l9 l10 l11 l12 l13 l14 l15 l16 l17 l18 l19 l20 l21 l23 l24 l25 l26 l27 l28 l29 l30 l31 : Slot} {S : List Value} {H : AH} {q : Option ORes → Prop} {v : UInt64} (h : Rsq (go n (283, [l0, l1, l2, l3, l4, l5, l6, l7, l8, l9, l10, l11, l12, l13, l14, l15, l16, l17, l18, l19, l20, l21, .val (.double v), l23, l24, l25, l26, l27, l28, l29, l30, l31], (.double v :: S), H, cs, ss)) q) : Rsq (go (n + 1) (281, [l0, l1, l2, l3, l4, l5, l6, l7, l8, l9, l10, l11, l12, l13, l14, l15, l16, l17, l18, l19, l20, l21, .val (.double v), l23, l24, l25, l26, l27, l28, l29, l30, l31], S, H, cs, ss)) q := by
  subst hgo
  exact res_of s0_281 h
theorem t0_283 {go : Nat → St → Option ORes} (hgo : go = orun code ret E0 0) {n cs ss : Nat} {l0 l1 l2 l3 l4 l5 l6 l7 l8 l9 l10 l11 l12 l13 l14 l15 l16 l17 l18 l19 l20 l21 l22 l23 l25 l26 l27 l28 l29 l30 l31 : Slot} {S : List Value} {H : AH} {q : Option ORes → Prop} {v : UInt64} (h : Rsq (go n (285, [l0, l1, l2, l3, l4, l5, l6, l7, l8, l9, l10, l11, l12, l13, l14, l15, l16, l17, l18, l19, l20, l21, l22, l23, .val (.double v), l25, l26, l27, l28, l29, l30, l31], (.double v :: S), H, cs, ss)) q) : Rsq (go (n + 1) (283, [l0, l1, l2, l3, l4, l5, l6, l7, l8, l9, l10, l11, l12, l13, l14, l15, l16, l17, l18, l19, l20, l21, l22, l23, .val (.double v), l25, l26, l27, l28, l29, l30, l31], S, H, cs, ss)) q := by
  subst hgo
  exact res_of s0_283 h
theorem t0_285 {go : Nat → St → Option ORes} (hgo : go = orun code ret E0 0) {n cs ss : Nat} {L : List Slot} {S : List Value} {H : AH} {q : Option ORes → Prop} {x y : UInt64} (h : Rsq (go n (286, L, (.int (cmpValue (FP.dcmp x y) .g) :: S), H, cs, ss)) q) : Rsq (go (n + 1) (285, L, (.double y :: .double x :: S), H, cs, ss)) q := by
  subst hgo
  exact res_of s0_285 h
theorem t0_286t {go : Nat → St → Option ORes} (hgo : go = orun code ret E0 0) {n cs ss : Nat} {L : List Slot} {S : List Value} {H : AH} {q : Option ORes → Prop} {x : Int32} (hc : 0 < x) (h : Rsq (go n (293, L, S, H, cs, ss)) q) : Rsq (go (n + 1) (286, L, (.int x :: S), H, cs, ss)) q := by
  subst hgo
  exact res_of s0_286 (res_t hc h)
theorem t0_286f {go : Nat → St → Option ORes} (hgo : go = orun code ret E0 0) {n cs ss : Nat} {L : List Slot} {S : List Value} {H : AH} {q : Option ORes → Prop} {x : Int32} (hc : ¬ 0 < x) (h : Rsq (go n (289, L, S, H, cs, ss)) q) : Rsq (go (n + 1) (286, L, (.int x :: S), H, cs, ss)) q := by
  subst hgo
  exact res_of s0_286 (res_f hc h)
theorem t0_289 {go : Nat → St → Option ORes} (hgo : go = orun code ret E0 0) {n cs ss : Nat} {L : List Slot} {S : List Value} {H : AH} {q : Option ORes → Prop} (h : Rsq (go n (290, L, (.int 1 :: S), H, cs, ss)) q) : Rsq (go (n + 1) (289, L, S, H, cs, ss)) q := by
  subst hgo
  exact res_of s0_289 h
theorem t0_290 {go : Nat → St → Option ORes} (hgo : go = orun code ret E0 0) {n cs ss : Nat} {L : List Slot} {S : List Value} {H : AH} {q : Option ORes → Prop} (h : Rsq (go n (294, L, S, H, cs, ss)) q) : Rsq (go (n + 1) (290, L, S, H, cs, ss)) q := by
  subst hgo
  exact res_of s0_290 h
theorem t0_293 {go : Nat → St → Option ORes} (hgo : go = orun code ret E0 0) {n cs ss : Nat} {L : List Slot} {S : List Value} {H : AH} {q : Option ORes → Prop} (h : Rsq (go n (294, L, (.int 0 :: S), H, cs, ss)) q) : Rsq (go (n + 1) (293, L, S, H, cs, ss)) q := by
  subst hgo
  exact res_of s0_293 h
theorem t0_294 {go : Nat → St → Option ORes} (hgo : go = orun code ret E0 0) {n cs ss : Nat} {l0 l1 l2 l3 l4 l5 l6 l7 l8 l9 l10 l11 l12 l13 l14 l15 l16 l17 l18 l19 l20 l21 l22 l23 l24 l25 l26 l27 l28 l29 l30 l31 : Slot} {S : List Value} {H : AH} {q : Option ORes → Prop} {x : Int32} (hk : so l21 = true) (h : Rsq (go n (296, [l0, l1, l2, l3, l4, l5, l6, l7, l8, l9, l10, l11, l12, l13, l14, l15, l16, l17, l18, l19, l20, .val (.int x), l22, l23, l24, l25, l26, l27, l28, l29, l30, l31], S, H, cs, ss)) q) : Rsq (go (n + 1) (294, [l0, l1, l2, l3, l4, l5, l6, l7, l8, l9, l10, l11, l12, l13, l14, l15, l16, l17, l18, l19, l20, l21, l22, l23, l24, l25, l26, l27, l28, l29, l30, l31], (.int x :: S), H, cs, ss)) q := by
  subst hgo
  refine res_of s0_294 ?_
  rw [pI_int, st1_so (L := [l0, l1, l2, l3, l4, l5, l6, l7, l8, l9, l10, l11, l12, l13, l14, l15, l16, l17, l18, l19, l20, l21, l22, l23, l24, l25, l26, l27, l28, l29, l30, l31]) (k := 21) (l := l21) rfl hk]
  exact h
theorem t0_296 {go : Nat → St → Option ORes} (hgo : go = orun code ret E0 0) {n cs ss : Nat} {l0 l1 l2 l3 l4 l5 l6 l7 l9 l10 l11 l12 l13 l14 l15 l16 l17 l18 l19 l20 l21 l22 l23 l24 l25 l26 l27 l28 l29 l30 l31 : Slot} {S : List Value} {H : AH} {q : Option ORes → Prop} {v : Int64} (h : Rsq (go n (298, [l0, l1, l2, l3, l4, l5, l6, l7, .val (.long v), l9, l10, l11, l12, l13, l14, l15, l16, l17, l18, l19, l20, l21, l22, l23, l24, l25, l26, l27, l28, l29, l30, l31], (.long v :: S), H, cs, ss)) q) : Rsq (go (n + 1) (296, [l0, l1, l2, l3, l4, l5, l6, l7, .val (.long v), l9, l10, l11, l12, l13, l14, l15, l16, l17, l18, l19, l20, l21, l22, l23, l24, l25, l26, l27, l28, l29, l30, l31], S, H, cs, ss)) q := by
  subst hgo
  exact res_of s0_296 h
theorem t0_298 {go : Nat → St → Option ORes} (hgo : go = orun code ret E0 0) {n cs ss : Nat} {l0 l1 l2 l3 l5 l6 l7 l8 l9 l10 l11 l12 l13 l14 l15 l16 l17 l18 l19 l20 l21 l22 l23 l24 l25 l26 l27 l28 l29 l30 l31 : Slot} {S : List Value} {H : AH} {q : Option ORes → Prop} {v : Int64} (h : Rsq (go n (300, [l0, l1, l2, l3, .val (.long v), l5, l6, l7, l8, l9, l10, l11, l12, l13, l14, l15, l16, l17, l18, l19, l20, l21, l22, l23, l24, l25, l26, l27, l28, l29, l30, l31], (.long v :: S), H, cs, ss)) q) : Rsq (go (n + 1) (298, [l0, l1, l2, l3, .val (.long v), l5, l6, l7, l8, l9, l10, l11, l12, l13, l14, l15, l16, l17, l18, l19, l20, l21, l22, l23, l24, l25, l26, l27, l28, l29, l30, l31], S, H, cs, ss)) q := by
  subst hgo
  exact res_of s0_298 h
theorem t0_300 {go : Nat → St → Option ORes} (hgo : go = orun code ret E0 0) {n cs ss : Nat} {L : List Slot} {S : List Value} {H : AH} {q : Option ORes → Prop} (h : Rsq (go n (303, L, (.long (9223372036854775807) :: S), H, cs, ss)) q) : Rsq (go (n + 1) (300, L, S, H, cs, ss)) q := by
  subst hgo
  exact res_of s0_300 h
theorem t0_303 {go : Nat → St → Option ORes} (hgo : go = orun code ret E0 0) {n cs ss : Nat} {L : List Slot} {S : List Value} {H : AH} {q : Option ORes → Prop} {x y : Int64} (h : Rsq (go n (304, L, (.long (x &&& y) :: S), H, cs, ss)) q) : Rsq (go (n + 1) (303, L, (.long y :: .long x :: S), H, cs, ss)) q := by
  subst hgo
  exact res_of s0_303 h
theorem u0_304 {go : Nat → St → Option ORes} (hgo : go = orun code ret E0 0) {n cs ss : Nat} {L : List Slot} {S : List Value} {H : AH} : go (n + 1) (304, L, S, H, cs, ss) = (aCall 2 6 24 128 0 0 F2 S H cs ss).bind fun r => go n (307, L, r.1, r.2.1, r.2.2.1, r.2.2.2) := by
  subst hgo
  exact s0_304
theorem t0_307 {go : Nat → St → Option ORes} (hgo : go = orun code ret E0 0) {n cs ss : Nat} {l0 l1 l2 l3 l4 l5 l6 l7 l8 l9 l10 l11 l12 l13 l14 l15 l16 l17 l18 l19 l20 l21 l22 l23 l24 l25 l26 l27 l28 l29 l30 l31 : Slot} {S : List Value} {H : AH} {q : Option ORes → Prop} {x : Int64} (hk : so2 l26 l27 = true) (h : Rsq (go n (309, [l0, l1, l2, l3, l4, l5, l6, l7, l8, l9, l10, l11, l12, l13, l14, l15, l16, l17, l18, l19, l20, l21, l22, l23, l24, l25, .val (.long x), .second, l28, l29, l30, l31], S, H, cs, ss)) q) : Rsq (go (n + 1) (307, [l0, l1, l2, l3, l4, l5, l6, l7, l8, l9, l10, l11, l12, l13, l14, l15, l16, l17, l18, l19, l20, l21, l22, l23, l24, l25, l26, l27, l28, l29, l30, l31], (.long x :: S), H, cs, ss)) q := by
  subst hgo
  refine res_of s0_307 ?_
  rw [pL_long, st2_so (L := [l0, l1, l2, l3, l4, l5, l6, l7, l8, l9, l10, l11, l12, l13, l14, l15, l16, l17, l18, l19, l20, l21, l22, l23, l24, l25, l26, l27, l28, l29, l30, l31]) (k := 26) (l := l26) (l' := l27) rfl rfl hk]
  exact h
theorem t0_309 {go : Nat → St → Option ORes} (hgo : go = orun code ret E0 0) {n cs ss : Nat} {l0 l1 l2 l3 l4 l5 l6 l7 l8 l9 l10 l12 l13 l14 l15 l16 l17 l18 l19 l20 l21 l22 l23 l24 l25 l26 l27 l28 l29 l30 l31 : Slot} {S : List Value} {H : AH} {q : Option ORes → Prop} {v : Int64} (h : Rsq (go n (311, [l0, l1, l2, l3, l4, l5, l6, l7, l8, l9, l10, .val (.long v), l12, l13, l14, l15, l16, l17, l18, l19, l20, l21, l22, l23, l24, l25, l26, l27, l28, l29, l30, l31], (.long v :: S), H, cs, ss)) q) : Rsq (go (n + 1) (309, [l0, l1, l2, l3, l4, l5, l6, l7, l8, l9, l10, .val (.long v), l12, l13, l14, l15, l16, l17, l18, l19, l20, l21, l22, l23, l24, l25, l26, l27, l28, l29, l30, l31], S, H, cs, ss)) q := by
  subst hgo
  exact res_of s0_309 h
theorem t0_311 {go : Nat → St → Option ORes} (hgo : go = orun code ret E0 0) {n cs ss : Nat} {l0 l1 l2 l3 l4 l5 l6 l7 l8 l9 l10 l11 l12 l13 l14 l15 l16 l17 l18 l19 l20 l21 l22 l23 l24 l25 l27 l28 l29 l30 l31 : Slot} {S : List Value} {H : AH} {q : Option ORes → Prop} {v : Int64} (h : Rsq (go n (313, [l0, l1, l2, l3, l4, l5, l6, l7, l8, l9, l10, l11, l12, l13, l14, l15, l16, l17, l18, l19, l20, l21, l22, l23, l24, l25, .val (.long v), l27, l28, l29, l30, l31], (.long v :: S), H, cs, ss)) q) : Rsq (go (n + 1) (311, [l0, l1, l2, l3, l4, l5, l6, l7, l8, l9, l10, l11, l12, l13, l14, l15, l16, l17, l18, l19, l20, l21, l22, l23, l24, l25, .val (.long v), l27, l28, l29, l30, l31], S, H, cs, ss)) q := by
  subst hgo
  exact res_of s0_311 h
theorem t0_313 {go : Nat → St → Option ORes} (hgo : go = orun code ret E0 0) {n cs ss : Nat} {l0 l1 l2 l3 l4 l5 l6 l8 l9 l10 l11 l12 l13 l14 l15 l16 l17 l18 l19 l20 l21 l22 l23 l24 l25 l26 l27 l28 l29 l30 l31 : Slot} {S : List Value} {H : AH} {q : Option ORes → Prop} {v : Int32} (h : Rsq (go n (315, [l0, l1, l2, l3, l4, l5, l6, .val (.int v), l8, l9, l10, l11, l12, l13, l14, l15, l16, l17, l18, l19, l20, l21, l22, l23, l24, l25, l26, l27, l28, l29, l30, l31], (.int v :: S), H, cs, ss)) q) : Rsq (go (n + 1) (313, [l0, l1, l2, l3, l4, l5, l6, .val (.int v), l8, l9, l10, l11, l12, l13, l14, l15, l16, l17, l18, l19, l20, l21, l22, l23, l24, l25, l26, l27, l28, l29, l30, l31], S, H, cs, ss)) q := by
  subst hgo
  exact res_of s0_313 h
theorem u0_315 {go : Nat → St → Option ORes} (hgo : go = orun code ret E0 0) {n cs ss : Nat} {L : List Slot} {S : List Value} {H : AH} : go (n + 1) (315, L, S, H, cs, ss) = (aCall 3 6 24 128 1 5 F3 S H cs ss).bind fun r => go n (318, L, r.1, r.2.1, r.2.2.1, r.2.2.2) := by
  subst hgo
  exact s0_315
theorem t0_318 {go : Nat → St → Option ORes} (hgo : go = orun code ret E0 0) {n cs ss : Nat} {l0 l1 l2 l3 l4 l5 l6 l7 l8 l9 l10 l11 l12 l13 l14 l15 l16 l17 l18 l19 l20 l21 l22 l23 l24 l25 l26 l27 l28 l29 l30 l31 : Slot} {S : List Value} {H : AH} {q : Option ORes → Prop} {x : UInt64} (hk : so2D l28 l29 = true) (h : Rsq (go n (320, [l0, l1, l2, l3, l4, l5, l6, l7, l8, l9, l10, l11, l12, l13, l14, l15, l16, l17, l18, l19, l20, l21, l22, l23, l24, l25, l26, l27, .val (.double x), .second, l30, l31], S, H, cs, ss)) q) : Rsq (go (n + 1) (318, [l0, l1, l2, l3, l4, l5, l6, l7, l8, l9, l10, l11, l12, l13, l14, l15, l16, l17, l18, l19, l20, l21, l22, l23, l24, l25, l26, l27, l28, l29, l30, l31], (.double x :: S), H, cs, ss)) q := by
  subst hgo
  refine res_of s0_318 ?_
  rw [pD_double, st2D_so (L := [l0, l1, l2, l3, l4, l5, l6, l7, l8, l9, l10, l11, l12, l13, l14, l15, l16, l17, l18, l19, l20, l21, l22, l23, l24, l25, l26, l27, l28, l29, l30, l31]) (k := 28) (l := l28) (l' := l29) rfl rfl hk]
  exact h
theorem t0_320 {go : Nat → St → Option ORes} (hgo : go = orun code ret E0 0) {n cs ss : Nat} {l0 l1 l2 l3 l4 l5 l6 l7 l8 l9 l10 l11 l12 l13 l14 l15 l16 l17 l18 l19 l20 l22 l23 l24 l25 l26 l27 l28 l29 l30 l31 : Slot} {S : List Value} {H : AH} {q : Option ORes → Prop} {v : Int32} (h : Rsq (go n (322, [l0, l1, l2, l3, l4, l5, l6, l7, l8, l9, l10, l11, l12, l13, l14, l15, l16, l17, l18, l19, l20, .val (.int v), l22, l23, l24, l25, l26, l27, l28, l29, l30, l31], (.int v :: S), H, cs, ss)) q) : Rsq (go (n + 1) (320, [l0, l1, l2, l3, l4, l5, l6, l7, l8, l9, l10, l11, l12, l13, l14, l15, l16, l17, l18, l19, l20, .val (.int v), l22, l23, l24, l25, l26, l27, l28, l29, l30, l31], S, H, cs, ss)) q := by
  subst hgo
  exact res_of s0_320 h
theorem t0_322t {go : Nat → St → Option ORes} (hgo : go = orun code ret E0 0) {n cs ss : Nat} {L : List Slot} {S : List Value} {H : AH} {q : Option ORes → Prop} {x : Int32} (hc : x = 0) (h : Rsq (go n (337, L, S, H, cs, ss)) q) : Rsq (go (n + 1) (322, L, (.int x :: S), H, cs, ss)) q := by
  subst hgo
  exact res_of s0_322 (res_t hc h)
theorem t0_322f {go : Nat → St → Option ORes} (hgo : go = orun code ret E0 0) {n cs ss : Nat} {L : List Slot} {S : List Value} {H : AH} {q : Option ORes → Prop} {x : Int32} (hc : ¬ x = 0) (h : Rsq (go n (325, L, S, H, cs, ss)) q) : Rsq (go (n + 1) (322, L, (.int x :: S), H, cs, ss)) q := by
  subst hgo
  exact res_of s0_322 (res_f hc h)
theorem t0_325 {go : Nat → St → Option ORes} (hgo : go = orun code ret E0 0) {n cs ss : Nat} {l0 l1 l2 l3 l4 l5 l6 l7 l8 l9 l10 l11 l12 l13 l14 l15 l16 l17 l18 l19 l20 l21 l22 l23 l24 l25 l26 l27 l29 l30 l31 : Slot} {S : List Value} {H : AH} {q : Option ORes → Prop} {v : UInt64} (h : Rsq (go n (327, [l0, l1, l2, l3, l4, l5, l6, l7, l8, l9, l10, l11, l12, l13, l14, l15, l16, l17, l18, l19, l20, l21, l22, l23, l24, l25, l26, l27, .val (.double v), l29, l30, l31], (.double v :: S), H, cs, ss)) q) : Rsq (go (n + 1) (325, [l0, l1, l2, l3, l4, l5, l6, l7, l8, l9, l10, l11, l12, l13, l14, l15, l16, l17, l18, l19, l20, l21, l22, l23, l24, l25, l26, l27, .val (.double v), l29, l30, l31], S, H, cs, ss)) q := by
  subst hgo
  exact res_of s0_325 h
theorem t0_327 {go : Nat → St → Option ORes} (hgo : go = orun code ret E0 0) {n cs ss : Nat} {l0 l1 l2 l3 l4 l5 l6 l7 l8 l9 l10 l11 l12 l13 l14 l15 l16 l17 l18 l20 l21 l22 l23 l24 l25 l26 l27 l28 l29 l30 l31 : Slot} {S : List Value} {H : AH} {q : Option ORes → Prop} {v : UInt64} (h : Rsq (go n (329, [l0, l1, l2, l3, l4, l5, l6, l7, l8, l9, l10, l11, l12, l13, l14, l15, l16, l17, l18, .val (.double v), l20, l21, l22, l23, l24, l25, l26, l27, l28, l29, l30, l31], (.double v :: S), H, cs, ss)) q) : Rsq (go (n + 1) (327, [l0, l1, l2, l3, l4, l5, l6, l7, l8, l9, l10, l11, l12, l13, l14, l15, l16, l17, l18, .val (.double v), l20, l21, l22, l23, l24, l25, l26, l27, l28, l29, l30, l31], S, H, cs, ss)) q := by
  subst hgo
  exact res_of s0_327 h
theorem t0_329 {go : Nat → St → Option ORes} (hgo : go = orun code ret E0 0) {n cs ss : Nat} {L : List Slot} {S : List Value} {H : AH} {q : Option ORes → Prop} {x y : UInt64} (h : Rsq (go n (330, L, (.int (cmpValue (FP.dcmp x y) .g) :: S), H, cs, ss)) q) : Rsq (go (n + 1) (329, L, (.double y :: .double x :: S), H, cs, ss)) q := by
  subst hgo
  exact res_of s0_329 h
theorem t0_330t {go : Nat → St → Option ORes} (hgo : go = orun code ret E0 0) {n cs ss : Nat} {L : List Slot} {S : List Value} {H : AH} {q : Option ORes → Prop} {x : Int32} (hc : 0 < x) (h : Rsq (go n (337, L, S, H, cs, ss)) q) : Rsq (go (n + 1) (330, L, (.int x :: S), H, cs, ss)) q := by
  subst hgo
  exact res_of s0_330 (res_t hc h)
theorem t0_330f {go : Nat → St → Option ORes} (hgo : go = orun code ret E0 0) {n cs ss : Nat} {L : List Slot} {S : List Value} {H : AH} {q : Option ORes → Prop} {x : Int32} (hc : ¬ 0 < x) (h : Rsq (go n (333, L, S, H, cs, ss)) q) : Rsq (go (n + 1) (330, L, (.int x :: S), H, cs, ss)) q := by
  subst hgo
  exact res_of s0_330 (res_f hc h)
theorem t0_333 {go : Nat → St → Option ORes} (hgo : go = orun code ret E0 0) {n cs ss : Nat} {L : List Slot} {S : List Value} {H : AH} {q : Option ORes → Prop} (h : Rsq (go n (334, L, (.int 1 :: S), H, cs, ss)) q) : Rsq (go (n + 1) (333, L, S, H, cs, ss)) q := by
  subst hgo
  exact res_of s0_333 h
theorem t0_334 {go : Nat → St → Option ORes} (hgo : go = orun code ret E0 0) {n cs ss : Nat} {L : List Slot} {S : List Value} {H : AH} {q : Option ORes → Prop} (h : Rsq (go n (338, L, S, H, cs, ss)) q) : Rsq (go (n + 1) (334, L, S, H, cs, ss)) q := by
  subst hgo
  exact res_of s0_334 h
theorem t0_337 {go : Nat → St → Option ORes} (hgo : go = orun code ret E0 0) {n cs ss : Nat} {L : List Slot} {S : List Value} {H : AH} {q : Option ORes → Prop} (h : Rsq (go n (338, L, (.int 0 :: S), H, cs, ss)) q) : Rsq (go (n + 1) (337, L, S, H, cs, ss)) q := by
  subst hgo
  exact res_of s0_337 h
theorem t0_338 {go : Nat → St → Option ORes} (hgo : go = orun code ret E0 0) {n cs ss : Nat} {l0 l1 l2 l3 l4 l5 l6 l7 l8 l9 l10 l11 l12 l13 l14 l15 l16 l17 l18 l19 l20 l21 l22 l23 l24 l25 l26 l27 l28 l29 l30 l31 : Slot} {S : List Value} {H : AH} {q : Option ORes → Prop} {x : Int32} (hk : so l21 = true) (h : Rsq (go n (340, [l0, l1, l2, l3, l4, l5, l6, l7, l8, l9, l10, l11, l12, l13, l14, l15, l16, l17, l18, l19, l20, .val (.int x), l22, l23, l24, l25, l26, l27, l28, l29, l30, l31], S, H, cs, ss)) q) : Rsq (go (n + 1) (338, [l0, l1, l2, l3, l4, l5, l6, l7, l8, l9, l10, l11, l12, l13, l14, l15, l16, l17, l18, l19, l20, l21, l22, l23, l24, l25, l26, l27, l28, l29, l30, l31], (.int x :: S), H, cs, ss)) q := by
  subst hgo
  refine res_of s0_338 ?_
  rw [pI_int, st1_so (L := [l0, l1, l2, l3, l4, l5, l6, l7, l8, l9, l10, l11, l12, l13, l14, l15, l16, l17, l18, l19, l20, l21, l22, l23, l24, l25, l26, l27, l28, l29, l30, l31]) (k := 21) (l := l21) rfl hk]
  exact h
theorem t0_340 {go : Nat → St → Option ORes} (hgo : go = orun code ret E0 0) {n cs ss : Nat} {l0 l1 l2 l3 l4 l5 l6 l7 l9 l10 l11 l12 l13 l14 l15 l16 l17 l18 l19 l20 l21 l22 l23 l24 l25 l26 l27 l28 l29 l30 l31 : Slot} {S : List Value} {H : AH} {q : Option ORes → Prop} {v : Int64} (h : Rsq (go n (342, [l0, l1, l2, l3, l4, l5, l6, l7, .val (.long v), l9, l10, l11, l12, l13, l14, l15, l16, l17, l18, l19, l20, l21, l22, l23, l24, l25, l26, l27, l28, l29, l30, l31], (.long v :: S), H, cs, ss)) q) : Rsq (go (n + 1) (340, [l0, l1, l2, l3, l4, l5, l6, l7, .val (.long v), l9, l10, l11, l12, l13, l14, l15, l16, l17, l18, l19, l20, l21, l22, l23, l24, l25, l26, l27, l28, l29, l30, l31], S, H, cs, ss)) q := by
  subst hgo
  exact res_of s0_340 h
theorem t0_342 {go : Nat → St → Option ORes} (hgo : go = orun code ret E0 0) {n cs ss : Nat} {L : List Slot} {S : List Value} {H : AH} {q : Option ORes → Prop} (h : Rsq (go n (345, L, (.long (4611686018427387903) :: S), H, cs, ss)) q) : Rsq (go (n + 1) (342, L, S, H, cs, ss)) q := by
  subst hgo
  exact res_of s0_342 h
theorem t0_345 {go : Nat → St → Option ORes} (hgo : go = orun code ret E0 0) {n cs ss : Nat} {L : List Slot} {S : List Value} {H : AH} {q : Option ORes → Prop} {x y : Int64} (h : Rsq (go n (346, L, (.int (lcmpW x y) :: S), H, cs, ss)) q) : Rsq (go (n + 1) (345, L, (.long y :: .long x :: S), H, cs, ss)) q := by
  subst hgo
  exact res_of s0_345 h
theorem t0_346t {go : Nat → St → Option ORes} (hgo : go = orun code ret E0 0) {n cs ss : Nat} {L : List Slot} {S : List Value} {H : AH} {q : Option ORes → Prop} {x : Int32} (hc : 0 < x) (h : Rsq (go n (396, L, S, H, cs, ss)) q) : Rsq (go (n + 1) (346, L, (.int x :: S), H, cs, ss)) q := by
  subst hgo
  exact res_of s0_346 (res_t hc h)
theorem t0_346f {go : Nat → St → Option ORes} (hgo : go = orun code ret E0 0) {n cs ss : Nat} {L : List Slot} {S : List Value} {H : AH} {q : Option ORes → Prop} {x : Int32} (hc : ¬ 0 < x) (h : Rsq (go n (349, L, S, H, cs, ss)) q) : Rsq (go (n + 1) (346, L, (.int x :: S), H, cs, ss)) q := by
  subst hgo
  exact res_of s0_346 (res_f hc h)
theorem t0_349 {go : Nat → St → Option ORes} (hgo : go = orun code ret E0 0) {n cs ss : Nat} {L : List Slot} {S : List Value} {H : AH} {q : Option ORes → Prop} (h : Rsq (go n (352, L, (.long (2) :: S), H, cs, ss)) q) : Rsq (go (n + 1) (349, L, S, H, cs, ss)) q := by
  subst hgo
  exact res_of s0_349 h
theorem t0_352 {go : Nat → St → Option ORes} (hgo : go = orun code ret E0 0) {n cs ss : Nat} {l0 l1 l2 l3 l4 l5 l6 l7 l8 l9 l10 l12 l13 l14 l15 l16 l17 l18 l19 l20 l21 l22 l23 l24 l25 l26 l27 l28 l29 l30 l31 : Slot} {S : List Value} {H : AH} {q : Option ORes → Prop} {v : Int64} (h : Rsq (go n (354, [l0, l1, l2, l3, l4, l5, l6, l7, l8, l9, l10, .val (.long v), l12, l13, l14, l15, l16, l17, l18, l19, l20, l21, l22, l23, l24, l25, l26, l27, l28, l29, l30, l31], (.long v :: S), H, cs, ss)) q) : Rsq (go (n + 1) (352, [l0, l1, l2, l3, l4, l5, l6, l7, l8, l9, l10, .val (.long v), l12, l13, l14, l15, l16, l17, l18, l19, l20, l21, l22, l23, l24, l25, l26, l27, l28, l29, l30, l31], S, H, cs, ss)) q := by
  subst hgo
  exact res_of s0_352 h
theorem t0_354 {go : Nat → St → Option ORes} (hgo : go = orun code ret E0 0) {n cs ss : Nat} {L : List Slot} {S : List Value} {H : AH} {q : Option ORes → Prop} {x y : Int64} (h : Rsq (go n (355, L, (.long (x * y) :: S), H, cs, ss)) q) : Rsq (go (n + 1) (354, L, (.long y :: .long x :: S), H, cs, ss)) q := by
  subst hgo
  exact res_of s0_354 h
theorem t0_355 {go : Nat → St → Option ORes} (hgo : go = orun code ret E0 0) {n cs ss : Nat} {L : List Slot} {S : List Value} {H : AH} {q : Option ORes → Prop} (h : Rsq (go n (358, L, (.long (2) :: S), H, cs, ss)) q) : Rsq (go (n + 1) (355, L, S, H, cs, ss)) q := by
  subst hgo
  exact res_of s0_355 h
theorem t0_358 {go : Nat → St → Option ORes} (hgo : go = orun code ret E0 0) {n cs ss : Nat} {l0 l1 l2 l3 l4 l5 l6 l7 l9 l10 l11 l12 l13 l14 l15 l16 l17 l18 l19 l20 l21 l22 l23 l24 l25 l26 l27 l28 l29 l30 l31 : Slot} {S : List Value} {H : AH} {q : Option ORes → Prop} {v : Int64} (h : Rsq (go n (360, [l0, l1, l2, l3, l4, l5, l6, l7, .val (.long v), l9, l10, l11, l12, l13, l14, l15, l16, l17, l18, l19, l20, l21, l22, l23, l24, l25, l26, l27, l28, l29, l30, l31], (.long v :: S), H, cs, ss)) q) : Rsq (go (n + 1) (358, [l0, l1, l2, l3, l4, l5, l6, l7, .val (.long v), l9, l10, l11, l12, l13, l14, l15, l16, l17, l18, l19, l20, l21, l22, l23, l24, l25, l26, l27, l28, l29, l30, l31], S, H, cs, ss)) q := by
  subst hgo
  exact res_of s0_358 h
theorem t0_360 {go : Nat → St → Option ORes} (hgo : go = orun code ret E0 0) {n cs ss : Nat} {L : List Slot} {S : List Value} {H : AH} {q : Option ORes → Prop} {x y : Int64} (h : Rsq (go n (361, L, (.long (x * y) :: S), H, cs, ss)) q) : Rsq (go (n + 1) (360, L, (.long y :: .long x :: S), H, cs, ss)) q := by
  subst hgo
  exact res_of s0_360 h
theorem t0_361 {go : Nat → St → Option ORes} (hgo : go = orun code ret E0 0) {n cs ss : Nat} {l0 l1 l2 l3 l4 l5 l6 l8 l9 l10 l11 l12 l13 l14 l15 l16 l17 l18 l19 l20 l21 l22 l23 l24 l25 l26 l27 l28 l29 l30 l31 : Slot} {S : List Value} {H : AH} {q : Option ORes → Prop} {v : Int32} (h : Rsq (go n (363, [l0, l1, l2, l3, l4, l5, l6, .val (.int v), l8, l9, l10, l11, l12, l13, l14, l15, l16, l17, l18, l19, l20, l21, l22, l23, l24, l25, l26, l27, l28, l29, l30, l31], (.int v :: S), H, cs, ss)) q) : Rsq (go (n + 1) (361, [l0, l1, l2, l3, l4, l5, l6, .val (.int v), l8, l9, l10, l11, l12, l13, l14, l15, l16, l17, l18, l19, l20, l21, l22, l23, l24, l25, l26, l27, l28, l29, l30, l31], S, H, cs, ss)) q := by
  subst hgo
  exact res_of s0_361 h
theorem t0_363t {go : Nat → St → Option ORes} (hgo : go = orun code ret E0 0) {n cs ss : Nat} {L : List Slot} {S : List Value} {H : AH} {q : Option ORes → Prop} {x : Int32} (hc : x = 0) (h : Rsq (go n (366, L, S, H, cs, ss)) q) : Rsq (go (n + 1) (363, L, (.int x :: S), H, cs, ss)) q := by
  subst hgo
  exact res_of s0_363 (res_t hc h)
theorem t0_363f {go : Nat → St → Option ORes} (hgo : go = orun code ret E0 0) {n cs ss : Nat} {L : List Slot} {S : List Value} {H : AH} {q : Option ORes → Prop} {x : Int32} (hc : ¬ x = 0) (h : Rsq (go n (370, L, S, H, cs, ss)) q) : Rsq (go (n + 1) (363, L, (.int x :: S), H, cs, ss)) q := by
  subst hgo
  exact res_of s0_363 (res_f hc h)
theorem t0_366 {go : Nat → St → Option ORes} (hgo : go = orun code ret E0 0) {n cs ss : Nat} {L : List Slot} {S : List Value} {H : AH} {q : Option ORes → Prop} (h : Rsq (go n (367, L, (.int 1 :: S), H, cs, ss)) q) : Rsq (go (n + 1) (366, L, S, H, cs, ss)) q := by
  subst hgo
  exact res_of s0_366 h
theorem t0_367 {go : Nat → St → Option ORes} (hgo : go = orun code ret E0 0) {n cs ss : Nat} {L : List Slot} {S : List Value} {H : AH} {q : Option ORes → Prop} (h : Rsq (go n (371, L, S, H, cs, ss)) q) : Rsq (go (n + 1) (367, L, S, H, cs, ss)) q := by
  subst hgo
  exact res_of s0_367 h
theorem t0_370 {go : Nat → St → Option ORes} (hgo : go = orun code ret E0 0) {n cs ss : Nat} {L : List Slot} {S : List Value} {H : AH} {q : Option ORes → Prop} (h : Rsq (go n (371, L, (.int 0 :: S), H, cs, ss)) q) : Rsq (go (n + 1) (370, L, S, H, cs, ss)) q := by
  subst hgo
  exact res_of s0_370 h
theorem u0_371 {go : Nat → St → Option ORes} (hgo : go = orun code ret E0 0) {n cs ss : Nat} {L : List Slot} {S : List Value} {H : AH} : go (n + 1) (371, L, S, H, cs, ss) = (aCall 3 6 24 128 1 5 F3 S H cs ss).bind fun r => go n (374, L, r.1, r.2.1, r.2.2.1, r.2.2.2) := by
  subst hgo
  exact s0_371
theorem t0_374 {go : Nat → St → Option ORes} (hgo : go = orun code ret E0 0) {n cs ss : Nat} {l0 l1 l2 l3 l4 l5 l6 l7 l8 l9 l10 l11 l12 l13 l14 l15 l16 l17 l18 l19 l20 l21 l22 l23 l24 l25 l26 l27 l28 l29 l30 l31 : Slot} {S : List Value} {H : AH} {q : Option ORes → Prop} {x : UInt64} (hk : so2D l30 l31 = true) (h : Rsq (go n (376, [l0, l1, l2, l3, l4, l5, l6, l7, l8, l9, l10, l11, l12, l13, l14, l15, l16, l17, l18, l19, l20, l21, l22, l23, l24, l25, l26, l27, l28, l29, .val (.double x), .second], S, H, cs, ss)) q) : Rsq (go (n + 1) (374, [l0, l1, l2, l3, l4, l5, l6, l7, l8, l9, l10, l11, l12, l13, l14, l15, l16, l17, l18, l19, l20, l21, l22, l23, l24, l25, l26, l27, l28, l29, l30, l31], (.double x :: S), H, cs, ss)) q := by
  subst hgo
  refine res_of s0_374 ?_
  rw [pD_double, st2D_so (L := [l0, l1, l2, l3, l4, l5, l6, l7, l8, l9, l10, l11, l12, l13, l14, l15, l16, l17, l18, l19, l20, l21, l22, l23, l24, l25, l26, l27, l28, l29, l30, l31]) (k := 30) (l := l30) (l' := l31) rfl rfl hk]
  exact h
theorem t0_376 {go : Nat → St → Option ORes} (hgo : go = orun code ret E0 0) {n cs ss : Nat} {l0 l1 l2 l3 l4 l5 l6 l7 l8 l9 l10 l11 l12 l13 l14 l15 l16 l17 l18 l19 l20 l22 l23 l24 l25 l26 l27 l28 l29 l30 l31 : Slot} {S : List Value} {H : AH} {q : Option ORes → Prop} {v : Int32} (h : Rsq (go n (378, [l0, l1, l2, l3, l4, l5, l6, l7, l8, l9, l10, l11, l12, l13, l14, l15, l16, l17, l18, l19, l20, .val (.int v), l22, l23, l24, l25, l26, l27, l28, l29, l30, l31], (.int v :: S), H, cs, ss)) q) : Rsq (go (n + 1) (376, [l0, l1, l2, l3, l4, l5, l6, l7, l8, l9, l10, l11, l12, l13, l14, l15, l16, l17, l18, l19, l20, .val (.int v), l22, l23, l24, l25, l26, l27, l28, l29, l30, l31], S, H, cs, ss)) q := by
  subst hgo
  exact res_of s0_376 h
theorem t0_378t {go : Nat → St → Option ORes} (hgo : go = orun code ret E0 0) {n cs ss : Nat} {L : List Slot} {S : List Value} {H : AH} {q : Option ORes → Prop} {x : Int32} (hc : x = 0) (h : Rsq (go n (393, L, S, H, cs, ss)) q) : Rsq (go (n + 1) (378, L, (.int x :: S), H, cs, ss)) q := by
  subst hgo
  exact res_of s0_378 (res_t hc h)
theorem t0_378f {go : Nat → St → Option ORes} (hgo : go = orun code ret E0 0) {n cs ss : Nat} {L : List Slot} {S : List Value} {H : AH} {q : Option ORes → Prop} {x : Int32} (hc : ¬ x = 0) (h : Rsq (go n (381, L, S, H, cs, ss)) q) : Rsq (go (n + 1) (378, L, (.int x :: S), H, cs, ss)) q := by
  subst hgo
  exact res_of s0_378 (res_f hc h)
theorem t0_381 {go : Nat → St → Option ORes} (hgo : go = orun code ret E0 0) {n cs ss : Nat} {l0 l1 l2 l3 l4 l5 l6 l7 l8 l9 l10 l11 l12 l13 l14 l15 l16 l17 l18 l19 l20 l21 l22 l23 l24 l25 l26 l27 l28 l29 l31 : Slot} {S : List Value} {H : AH} {q : Option ORes → Prop} {v : UInt64} (h : Rsq (go n (383, [l0, l1, l2, l3, l4, l5, l6, l7, l8, l9, l10, l11, l12, l13, l14, l15, l16, l17, l18, l19, l20, l21, l22, l23, l24, l25, l26, l27, l28, l29, .val (.double v), l31], (.double v :: S), H, cs, ss)) q) : Rsq (go (n + 1) (381, [l0, l1, l2, l3, l4, l5, l6, l7, l8, l9, l10, l11, l12, l13, l14, l15, l16, l17, l18, l19, l20, l21, l22, l23, l24, l25, l26, l27, l28, l29, .val (.double v), l31], S, H, cs, ss)) q := by
  subst hgo
  exact res_of s0_381 h
theorem t0_383 {go : Nat → St → Option ORes} (hgo : go = orun code ret E0 0) {n cs ss : Nat} {l0 l1 l2 l3 l4 l5 l6 l7 l8 l9 l10 l11 l12 l13 l14 l15 l16 l17 l18 l20 l21 l22 l23 l24 l25 l26 l27 l28 l29 l30 l31 : Slot} {S : List Value} {H : AH} {q : Option ORes → Prop} {v : UInt64} (h : Rsq (go n (385, [l0, l1, l2, l3, l4, l5, l6, l7, l8, l9, l10, l11, l12, l13, l14, l15, l16, l17, l18, .val (.double v), l20, l21, l22, l23, l24, l25, l26, l27, l28, l29, l30, l31], (.double v :: S), H, cs, ss)) q) : Rsq (go (n + 1) (383, [l0, l1, l2, l3, l4, l5, l6, l7, l8, l9, l10, l11, l12, l13, l14, l15, l16, l17, l18, .val (.double v), l20, l21, l22, l23, l24, l25, l26, l27, l28, l29, l30, l31], S, H, cs, ss)) q := by
  subst hgo
  exact res_of s0_383 h
theorem t0_385 {go : Nat → St → Option ORes} (hgo : go = orun code ret E0 0) {n cs ss : Nat} {L : List Slot} {S : List Value} {H : AH} {q : Option ORes → Prop} {x y : UInt64} (h : Rsq (go n (386, L, (.int (cmpValue (FP.dcmp x y) .l) :: S), H, cs, ss)) q) : Rsq (go (n + 1) (385, L, (.double y :: .double x :: S), H, cs, ss)) q := by
  subst hgo
  exact res_of s0_385 h
theorem t0_386t {go : Nat → St → Option ORes} (hgo : go = orun code ret E0 0) {n cs ss : Nat} {L : List Slot} {S : List Value} {H : AH} {q : Option ORes → Prop} {x : Int32} (hc : x = 0) (h : Rsq (go n (389, L, S, H, cs, ss)) q) : Rsq (go (n + 1) (386, L, (.int x :: S), H, cs, ss)) q := by
  subst hgo
  exact res_of s0_386 (res_t hc h)
theorem t0_386f {go : Nat → St → Option ORes} (hgo : go = orun code ret E0 0) {n cs ss : Nat} {L : List Slot} {S : List Value} {H : AH} {q : Option ORes → Prop} {x : Int32} (hc : ¬ x = 0) (h : Rsq (go n (393, L, S, H, cs, ss)) q) : Rsq (go (n + 1) (386, L, (.int x :: S), H, cs, ss)) q := by
  subst hgo
  exact res_of s0_386 (res_f hc h)
theorem t0_389 {go : Nat → St → Option ORes} (hgo : go = orun code ret E0 0) {n cs ss : Nat} {L : List Slot} {S : List Value} {H : AH} {q : Option ORes → Prop} (h : Rsq (go n (390, L, (.int 1 :: S), H, cs, ss)) q) : Rsq (go (n + 1) (389, L, S, H, cs, ss)) q := by
  subst hgo
  exact res_of s0_389 h
theorem t0_390 {go : Nat → St → Option ORes} (hgo : go = orun code ret E0 0) {n cs ss : Nat} {L : List Slot} {S : List Value} {H : AH} {q : Option ORes → Prop} (h : Rsq (go n (394, L, S, H, cs, ss)) q) : Rsq (go (n + 1) (390, L, S, H, cs, ss)) q := by
  subst hgo
  exact res_of s0_390 h
theorem t0_393 {go : Nat → St → Option ORes} (hgo : go = orun code ret E0 0) {n cs ss : Nat} {L : List Slot} {S : List Value} {H : AH} {q : Option ORes → Prop} (h : Rsq (go n (394, L, (.int 0 :: S), H, cs, ss)) q) : Rsq (go (n + 1) (393, L, S, H, cs, ss)) q := by
  subst hgo
  exact res_of s0_393 h
theorem t0_394 {go : Nat → St → Option ORes} (hgo : go = orun code ret E0 0) {n cs ss : Nat} {l0 l1 l2 l3 l4 l5 l6 l7 l8 l9 l10 l11 l12 l13 l14 l15 l16 l17 l18 l19 l20 l21 l22 l23 l24 l25 l26 l27 l28 l29 l30 l31 : Slot} {S : List Value} {H : AH} {q : Option ORes → Prop} {x : Int32} (hk : so l21 = true) (h : Rsq (go n (396, [l0, l1, l2, l3, l4, l5, l6, l7, l8, l9, l10, l11, l12, l13, l14, l15, l16, l17, l18, l19, l20, .val (.int x), l22, l23, l24, l25, l26, l27, l28, l29, l30, l31], S, H, cs, ss)) q) : Rsq (go (n + 1) (394, [l0, l1, l2, l3, l4, l5, l6, l7, l8, l9, l10, l11, l12, l13, l14, l15, l16, l17, l18, l19, l20, l21, l22, l23, l24, l25, l26, l27, l28, l29, l30, l31], (.int x :: S), H, cs, ss)) q := by
  subst hgo
  refine res_of s0_394 ?_
  rw [pI_int, st1_so (L := [l0, l1, l2, l3, l4, l5, l6, l7, l8, l9, l10, l11, l12, l13, l14, l15, l16, l17, l18, l19, l20, l21, l22, l23, l24, l25, l26, l27, l28, l29, l30, l31]) (k := 21) (l := l21) rfl hk]
  exact h
theorem t0_396 {go : Nat → St → Option ORes} (hgo : go = orun code ret E0 0) {n cs ss : Nat} {l0 l1 l2 l3 l4 l5 l6 l7 l8 l9 l10 l11 l12 l13 l14 l15 l16 l18 l19 l20 l21 l22 l23 l24 l25 l26 l27 l28 l29 l30 l31 : Slot} {S : List Value} {H : AH} {q : Option ORes → Prop} {v : Int64} (h : Rsq (go n (398, [l0, l1, l2, l3, l4, l5, l6, l7, l8, l9, l10, l11, l12, l13, l14, l15, l16, .val (.long v), l18, l19, l20, l21, l22, l23, l24, l25, l26, l27, l28, l29, l30, l31], (.long v :: S), H, cs, ss)) q) : Rsq (go (n + 1) (396, [l0, l1, l2, l3, l4, l5, l6, l7, l8, l9, l10, l11, l12, l13, l14, l15, l16, .val (.long v), l18, l19, l20, l21, l22, l23, l24, l25, l26, l27, l28, l29, l30, l31], S, H, cs, ss)) q := by
  subst hgo
  exact res_of s0_396 h
theorem t0_398 {go : Nat → St → Option ORes} (hgo : go = orun code ret E0 0) {n cs ss : Nat} {L : List Slot} {S : List Value} {H : AH} {q : Option ORes → Prop} (h : Rsq (go n (399, L, (.long 0 :: S), H, cs, ss)) q) : Rsq (go (n + 1) (398, L, S, H, cs, ss)) q := by
  subst hgo
  exact res_of s0_398 h
theorem t0_399 {go : Nat → St → Option ORes} (hgo : go = orun code ret E0 0) {n cs ss : Nat} {L : List Slot} {S : List Value} {H : AH} {q : Option ORes → Prop} {x y : Int64} (h : Rsq (go n (400, L, (.int (lcmpW x y) :: S), H, cs, ss)) q) : Rsq (go (n + 1) (399, L, (.long y :: .long x :: S), H, cs, ss)) q := by
  subst hgo
  exact res_of s0_399 h
theorem t0_400t {go : Nat → St → Option ORes} (hgo : go = orun code ret E0 0) {n cs ss : Nat} {L : List Slot} {S : List Value} {H : AH} {q : Option ORes → Prop} {x : Int32} (hc : 0 < x) (h : Rsq (go n (403, L, S, H, cs, ss)) q) : Rsq (go (n + 1) (400, L, (.int x :: S), H, cs, ss)) q := by
  subst hgo
  exact res_of s0_400 (res_t hc h)
theorem t0_400f {go : Nat → St → Option ORes} (hgo : go = orun code ret E0 0) {n cs ss : Nat} {L : List Slot} {S : List Value} {H : AH} {q : Option ORes → Prop} {x : Int32} (hc : ¬ 0 < x) (h : Rsq (go n (448, L, S, H, cs, ss)) q) : Rsq (go (n + 1) (400, L, (.int x :: S), H, cs, ss)) q := by
  subst hgo
  exact res_of s0_400 (res_f hc h)
theorem t0_403 {go : Nat → St → Option ORes} (hgo : go = orun code ret E0 0) {n cs ss : Nat} {l0 l1 l2 l3 l4 l5 l6 l7 l8 l9 l10 l11 l12 l13 l14 l15 l16 l18 l19 l20 l21 l22 l23 l24 l25 l26 l27 l28 l29 l30 l31 : Slot} {S : List Value} {H : AH} {q : Option ORes → Prop} {v : Int64} (h : Rsq (go n (405, [l0, l1, l2, l3, l4, l5, l6, l7, l8, l9, l10, l11, l12, l13, l14, l15, l16, .val (.long v), l18, l19, l20, l21, l22, l23, l24, l25, l26, l27, l28, l29, l30, l31], (.long v :: S), H, cs, ss)) q) : Rsq (go (n + 1) (403, [l0, l1, l2, l3, l4, l5, l6, l7, l8, l9, l10, l11, l12, l13, l14, l15, l16, .val (.long v), l18, l19, l20, l21, l22, l23, l24, l25, l26, l27, l28, l29, l30, l31], S, H, cs, ss)) q := by
  subst hgo
  exact res_of s0_403 h
theorem t0_405 {go : Nat → St → Option ORes} (hgo : go = orun code ret E0 0) {n cs ss : Nat} {L : List Slot} {S : List Value} {H : AH} {q : Option ORes → Prop} (h : Rsq (go n (408, L, (.long (4611686018427387903) :: S), H, cs, ss)) q) : Rsq (go (n + 1) (405, L, S, H, cs, ss)) q := by
  subst hgo
  exact res_of s0_405 h
theorem t0_408 {go : Nat → St → Option ORes} (hgo : go = orun code ret E0 0) {n cs ss : Nat} {L : List Slot} {S : List Value} {H : AH} {q : Option ORes → Prop} {x y : Int64} (h : Rsq (go n (409, L, (.int (lcmpW x y) :: S), H, cs, ss)) q) : Rsq (go (n + 1) (408, L, (.long y :: .long x :: S), H, cs, ss)) q := by
  subst hgo
  exact res_of s0_408 h
theorem t0_409t {go : Nat → St → Option ORes} (hgo : go = orun code ret E0 0) {n cs ss : Nat} {L : List Slot} {S : List Value} {H : AH} {q : Option ORes → Prop} {x : Int32} (hc : 0 < x) (h : Rsq (go n (448, L, S, H, cs, ss)) q) : Rsq (go (n + 1) (409, L, (.int x :: S), H, cs, ss)) q := by
  subst hgo
  exact res_of s0_409 (res_t hc h)
theorem t0_409f {go : Nat → St → Option ORes} (hgo : go = orun code ret E0 0) {n cs ss : Nat} {L : List Slot} {S : List Value} {H : AH} {q : Option ORes → Prop} {x : Int32} (hc : ¬ 0 < x) (h : Rsq (go n (412, L, S, H, cs, ss)) q) : Rsq (go (n + 1) (409, L, (.int x :: S), H, cs, ss)) q := by
  subst hgo
  exact res_of s0_409 (res_f hc h)
theorem t0_412 {go : Nat → St → Option ORes} (hgo : go = orun code ret E0 0) {n cs ss : Nat} {l0 l1 l2 l3 l4 l5 l6 l7 l8 l9 l10 l11 l12 l13 l14 l15 l16 l18 l19 l20 l21 l22 l23 l24 l25 l26 l27 l28 l29 l30 l31 : Slot} {S : List Value} {H : AH} {q : Option ORes → Prop} {v : Int64} (h : Rsq (go n (414, [l0, l1, l2, l3, l4, l5, l6, l7, l8, l9, l10, l11, l12, l13, l14, l15, l16, .val (.long v), l18, l19, l20, l21, l22, l23, l24, l25, l26, l27, l28, l29, l30, l31], (.long v :: S), H, cs, ss)) q) : Rsq (go (n + 1) (412, [l0, l1, l2, l3, l4, l5, l6, l7, l8, l9, l10, l11, l12, l13, l14, l15, l16, .val (.long v), l18, l19, l20, l21, l22, l23, l24, l25, l26, l27, l28, l29, l30, l31], S, H, cs, ss)) q := by
  subst hgo
  exact res_of s0_412 h
theorem t0_414 {go : Nat → St → Option ORes} (hgo : go = orun code ret E0 0) {n cs ss : Nat} {L : List Slot} {S : List Value} {H : AH} {q : Option ORes → Prop} (h : Rsq (go n (417, L, (.long (2) :: S), H, cs, ss)) q) : Rsq (go (n + 1) (414, L, S, H, cs, ss)) q := by
  subst hgo
  exact res_of s0_414 h
theorem t0_417 {go : Nat → St → Option ORes} (hgo : go = orun code ret E0 0) {n cs ss : Nat} {l0 l1 l2 l3 l4 l5 l6 l7 l8 l9 l10 l11 l12 l13 l14 l15 l16 l18 l19 l20 l21 l22 l23 l24 l25 l26 l27 l28 l29 l30 l31 : Slot} {S : List Value} {H : AH} {q : Option ORes → Prop} {v : Int64} (h : Rsq (go n (419, [l0, l1, l2, l3, l4, l5, l6, l7, l8, l9, l10, l11, l12, l13, l14, l15, l16, .val (.long v), l18, l19, l20, l21, l22, l23, l24, l25, l26, l27, l28, l29, l30, l31], (.long v :: S), H, cs, ss)) q) : Rsq (go (n + 1) (417, [l0, l1, l2, l3, l4, l5, l6, l7, l8, l9, l10, l11, l12, l13, l14, l15, l16, .val (.long v), l18, l19, l20, l21, l22, l23, l24, l25, l26, l27, l28, l29, l30, l31], S, H, cs, ss)) q := by
  subst hgo
  exact res_of s0_417 h
theorem t0_419 {go : Nat → St → Option ORes} (hgo : go = orun code ret E0 0) {n cs ss : Nat} {L : List Slot} {S : List Value} {H : AH} {q : Option ORes → Prop} {x y : Int64} (h : Rsq (go n (420, L, (.long (x * y) :: S), H, cs, ss)) q) : Rsq (go (n + 1) (419, L, (.long y :: .long x :: S), H, cs, ss)) q := by
  subst hgo
  exact res_of s0_419 h
theorem t0_420 {go : Nat → St → Option ORes} (hgo : go = orun code ret E0 0) {n cs ss : Nat} {l0 l1 l2 l3 l4 l5 l6 l8 l9 l10 l11 l12 l13 l14 l15 l16 l17 l18 l19 l20 l21 l22 l23 l24 l25 l26 l27 l28 l29 l30 l31 : Slot} {S : List Value} {H : AH} {q : Option ORes → Prop} {v : Int32} (h : Rsq (go n (422, [l0, l1, l2, l3, l4, l5, l6, .val (.int v), l8, l9, l10, l11, l12, l13, l14, l15, l16, l17, l18, l19, l20, l21, l22, l23, l24, l25, l26, l27, l28, l29, l30, l31], (.int v :: S), H, cs, ss)) q) : Rsq (go (n + 1) (420, [l0, l1, l2, l3, l4, l5, l6, .val (.int v), l8, l9, l10, l11, l12, l13, l14, l15, l16, l17, l18, l19, l20, l21, l22, l23, l24, l25, l26, l27, l28, l29, l30, l31], S, H, cs, ss)) q := by
  subst hgo
  exact res_of s0_420 h
theorem u0_422 {go : Nat → St → Option ORes} (hgo : go = orun code ret E0 0) {n cs ss : Nat} {L : List Slot} {S : List Value} {H : AH} : go (n + 1) (422, L, S, H, cs, ss) = (aCall 3 6 24 128 1 5 F3 S H cs ss).bind fun r => go n (425, L, r.1, r.2.1, r.2.2.1, r.2.2.2) := by
  subst hgo
  exact s0_422
theorem t0_425 {go : Nat → St → Option ORes} (hgo : go = orun code ret E0 0) {n cs ss : Nat} {l0 l1 l2 l3 l4 l5 l6 l7 l8 l9 l10 l11 l12 l13 l14 l15 l16 l17 l18 l19 l20 l21 l22 l23 l24 l25 l26 l27 l28 l29 l30 l31 : Slot} {S : List Value} {H : AH} {q : Option ORes → Prop} {x : UInt64} (hk : so2D l30 l31 = true) (h : Rsq (go n (427, [l0, l1, l2, l3, l4, l5, l6, l7, l8, l9, l10, l11, l12, l13, l14, l15, l16, l17, l18, l19, l20, l21, l22, l23, l24, l25, l26, l27, l28, l29, .val (.double x), .second], S, H, cs, ss)) q) : Rsq (go (n + 1) (425, [l0, l1, l2, l3, l4, l5, l6, l7, l8, l9, l10, l11, l12, l13, l14, l15, l16, l17, l18, l19, l20, l21, l22, l23, l24, l25, l26, l27, l28, l29, l30, l31], (.double x :: S), H, cs, ss)) q := by
  subst hgo
  refine res_of s0_425 ?_
  rw [pD_double, st2D_so (L := [l0, l1, l2, l3, l4, l5, l6, l7, l8, l9, l10, l11, l12, l13, l14, l15, l16, l17, l18, l19, l20, l21, l22, l23, l24, l25, l26, l27, l28, l29, l30, l31]) (k := 30) (l := l30) (l' := l31) rfl rfl hk]
  exact h
theorem t0_427 {go : Nat → St → Option ORes} (hgo : go = orun code ret E0 0) {n cs ss : Nat} {l0 l1 l2 l3 l4 l5 l6 l7 l8 l9 l10 l11 l12 l13 l14 l15 l16 l17 l18 l19 l20 l22 l23 l24 l25 l26 l27 l28 l29 l30 l31 : Slot} {S : List Value} {H : AH} {q : Option ORes → Prop} {v : Int32} (h : Rsq (go n (429, [l0, l1, l2, l3, l4, l5, l6, l7, l8, l9, l10, l11, l12, l13, l14, l15, l16, l17, l18, l19, l20, .val (.int v), l22, l23, l24, l25, l26, l27, l28, l29, l30, l31], (.int v :: S), H, cs, ss)) q) : Rsq (go (n + 1) (427, [l0, l1, l2, l3, l4, l5, l6, l7, l8, l9, l10, l11, l12, l13, l14, l15, l16, l17, l18, l19, l20, .val (.int v), l22, l23, l24, l25, l26, l27, l28, l29, l30, l31], S, H, cs, ss)) q := by
  subst hgo
  exact res_of s0_427 h
theorem t0_429t {go : Nat → St → Option ORes} (hgo : go = orun code ret E0 0) {n cs ss : Nat} {L : List Slot} {S : List Value} {H : AH} {q : Option ORes → Prop} {x : Int32} (hc : x = 0) (h : Rsq (go n (445, L, S, H, cs, ss)) q) : Rsq (go (n + 1) (429, L, (.int x :: S), H, cs, ss)) q := by
  subst hgo
  exact res_of s0_429 (res_t hc h)
theorem t0_429f {go : Nat → St → Option ORes} (hgo : go = orun code ret E0 0) {n cs ss : Nat} {L : List Slot} {S : List Value} {H : AH} {q : Option ORes → Prop} {x : Int32} (hc : ¬ x = 0) (h : Rsq (go n (432, L, S, H, cs, ss)) q) : Rsq (go (n + 1) (429, L, (.int x :: S), H, cs, ss)) q := by
  subst hgo
  exact res_of s0_429 (res_f hc h)
theorem t0_432 {go : Nat → St → Option ORes} (hgo : go = orun code ret E0 0) {n cs ss : Nat} {l0 l1 l2 l3 l4 l5 l6 l7 l8 l9 l10 l11 l12 l13 l14 l15 l16 l17 l18 l19 l20 l21 l22 l23 l24 l25 l26 l27 l28 l29 l31 : Slot} {S : List Value} {H : AH} {q : Option ORes → Prop} {v : UInt64} (h : Rsq (go n (434, [l0, l1, l2, l3, l4, l5, l6, l7, l8, l9, l10, l11, l12, l13, l14, l15, l16, l17, l18, l19, l20, l21, l22, l23, l24, l25, l26, l27, l28, l29, .val (.double v), l31], (.double v :: S), H, cs, ss)) q) : Rsq (go (n + 1) (432, [l0, l1, l2, l3, l4, l5, l6, l7, l8, l9, l10, l11, l12, l13, l14, l15, l16, l17, l18, l19, l20, l21, l22, l23, l24, l25, l26, l27, l28, l29, .val (.double v), l31], S, H, cs, ss)) q := by
  subst hgo
  exact res_of s0_432 h
theorem t0_434 {go : Nat → St → Option ORes} (hgo : go = orun code ret E0 0) {n cs ss : Nat} {L : List Slot} {S : List Value} {H : AH} {q : Option ORes → Prop} (h : Rsq (go n (437, L, (.double (4602678819172646912) :: S), H, cs, ss)) q) : Rsq (go (n + 1) (434, L, S, H, cs, ss)) q := by
  subst hgo
  exact res_of s0_434 h
theorem t0_437 {go : Nat → St → Option ORes} (hgo : go = orun code ret E0 0) {n cs ss : Nat} {L : List Slot} {S : List Value} {H : AH} {q : Option ORes → Prop} {x y : UInt64} (h : Rsq (go n (438, L, (.int (cmpValue (FP.dcmp x y) .l) :: S), H, cs, ss)) q) : Rsq (go (n + 1) (437, L, (.double y :: .double x :: S), H, cs, ss)) q := by
  subst hgo
  exact res_of s0_437 h
theorem t0_438t {go : Nat → St → Option ORes} (hgo : go = orun code ret E0 0) {n cs ss : Nat} {L : List Slot} {S : List Value} {H : AH} {q : Option ORes → Prop} {x : Int32} (hc : x = 0) (h : Rsq (go n (441, L, S, H, cs, ss)) q) : Rsq (go (n + 1) (438, L, (.int x :: S), H, cs, ss)) q := by
  subst hgo
  exact res_of s0_438 (res_t hc h)
theorem t0_438f {go : Nat → St → Option ORes} (hgo : go = orun code ret E0 0) {n cs ss : Nat} {L : List Slot} {S : List Value} {H : AH} {q : Option ORes → Prop} {x : Int32} (hc : ¬ x = 0) (h : Rsq (go n (445, L, S, H, cs, ss)) q) : Rsq (go (n + 1) (438, L, (.int x :: S), H, cs, ss)) q := by
  subst hgo
  exact res_of s0_438 (res_f hc h)
theorem t0_441 {go : Nat → St → Option ORes} (hgo : go = orun code ret E0 0) {n cs ss : Nat} {L : List Slot} {S : List Value} {H : AH} {q : Option ORes → Prop} (h : Rsq (go n (442, L, (.int 1 :: S), H, cs, ss)) q) : Rsq (go (n + 1) (441, L, S, H, cs, ss)) q := by
  subst hgo
  exact res_of s0_441 h
theorem t0_442 {go : Nat → St → Option ORes} (hgo : go = orun code ret E0 0) {n cs ss : Nat} {L : List Slot} {S : List Value} {H : AH} {q : Option ORes → Prop} (h : Rsq (go n (446, L, S, H, cs, ss)) q) : Rsq (go (n + 1) (442, L, S, H, cs, ss)) q := by
  subst hgo
  exact res_of s0_442 h
theorem t0_445 {go : Nat → St → Option ORes} (hgo : go = orun code ret E0 0) {n cs ss : Nat} {L : List Slot} {S : List Value} {H : AH} {q : Option ORes → Prop} (h : Rsq (go n (446, L, (.int 0 :: S), H, cs, ss)) q) : Rsq (go (n + 1) (445, L, S, H, cs, ss)) q := by
  subst hgo
  exact res_of s0_445 h
theorem t0_446 {go : Nat → St → Option ORes} (hgo : go = orun code ret E0 0) {n cs ss : Nat} {l0 l1 l2 l3 l4 l5 l6 l7 l8 l9 l10 l11 l12 l13 l14 l15 l16 l17 l18 l19 l20 l21 l22 l23 l24 l25 l26 l27 l28 l29 l30 l31 : Slot} {S : List Value} {H : AH} {q : Option ORes → Prop} {x : Int32} (hk : so l21 = true) (h : Rsq (go n (448, [l0, l1, l2, l3, l4, l5, l6, l7, l8, l9, l10, l11, l12, l13, l14, l15, l16, l17, l18, l19, l20, .val (.int x), l22, l23, l24, l25, l26, l27, l28, l29, l30, l31], S, H, cs, ss)) q) : Rsq (go (n + 1) (446, [l0, l1, l2, l3, l4, l5, l6, l7, l8, l9, l10, l11, l12, l13, l14, l15, l16, l17, l18, l19, l20, l21, l22, l23, l24, l25, l26, l27, l28, l29, l30, l31], (.int x :: S), H, cs, ss)) q := by
  subst hgo
  refine res_of s0_446 ?_
  rw [pI_int, st1_so (L := [l0, l1, l2, l3, l4, l5, l6, l7, l8, l9, l10, l11, l12, l13, l14, l15, l16, l17, l18, l19, l20, l21, l22, l23, l24, l25, l26, l27, l28, l29, l30, l31]) (k := 21) (l := l21) rfl hk]
  exact h
theorem t0_448 {go : Nat → St → Option ORes} (hgo : go = orun code ret E0 0) {n cs ss : Nat} {l0 l1 l2 l3 l4 l5 l6 l7 l8 l9 l10 l11 l12 l13 l14 l15 l16 l17 l18 l19 l20 l22 l23 l24 l25 l26 l27 l28 l29 l30 l31 : Slot} {S : List Value} {H : AH} {q : Option ORes → Prop} {v : Int32} (h : Rsq (go n (450, [l0, l1, l2, l3, l4, l5, l6, l7, l8, l9, l10, l11, l12, l13, l14, l15, l16, l17, l18, l19, l20, .val (.int v), l22, l23, l24, l25, l26, l27, l28, l29, l30, l31], (.int v :: S), H, cs, ss)) q) : Rsq (go (n + 1) (448, [l0, l1, l2, l3, l4, l5, l6, l7, l8, l9, l10, l11, l12, l13, l14, l15, l16, l17, l18, l19, l20, .val (.int v), l22, l23, l24, l25, l26, l27, l28, l29, l30, l31], S, H, cs, ss)) q := by
  subst hgo
  exact res_of s0_448 h
theorem t0_450 {go : Nat → St → Option ORes} (hgo : go = orun code ret E0 0) {n cs ss : Nat} {L : List Slot} {S : List Value} {H : AH} {q : Option ORes → Prop} {z : Int32} (h : q (some (some (.int (z &&& 1)), H))) : Rsq (go (n + 1) (450, L, (.int z :: S), H, cs, ss)) q := by
  subst hgo
  exact res_of s0_450 h
theorem qb_8 : (Int8.ofInt 8).toInt32 = 8 := by decide
theorem qc_0 : Int32.ofInt 0 = 0 := by decide
theorem qc_1 : Int32.ofInt 1 = 1 := by decide
theorem qc_3 : Int32.ofInt 3 = 3 := by decide
theorem qc_4 : Int32.ofInt 4 = 4 := by decide
-- BASE END
open OwnFL
def p1073 : Nat := 2 ^ 1073
theorem nw {H : AH} {o : Ob} : (H ++ [o])[H.length]? = some o := by simp
theorem st_se {H : AH} {k : Nat} {o o' : Ob} (h : H[k]? = some o) : (H.set k o')[k]? = some o' := by rw [List.getElem?_set_self (List.getElem?_eq_some_iff.mp h).1]
theorem ft_on {t : String} : fits (.object t) .null = true := rfl
theorem cv_c {a b : UInt64} (ha : FP.Core.val64 a ≠ .nan) (hb : FP.Core.val64 b ≠ .nan) (op : CmpOp) : cmpValue (FP.dcmp a b) op = if FP.Core.zval FP.Core.b64 (FP.Core.val64 a) < FP.Core.zval FP.Core.b64 (FP.Core.val64 b) then -1 else if FP.Core.zval FP.Core.b64 (FP.Core.val64 a) = FP.Core.zval FP.Core.b64 (FP.Core.val64 b) then 0 else 1 := by
  rw [show FP.dcmp a b = _ from FP.Core.dcmp_zval ha hb, FP.Core.compare_ite]
  (repeat' split) <;> rfl
theorem cv_le {a b : UInt64} {x y : Nat} (ha : FP.Core.val64 a ≠ .nan) (hb : FP.Core.val64 b ≠ .nan) (za : FP.Core.zval FP.Core.b64 (FP.Core.val64 a) = (x : Int)) (zb : FP.Core.zval FP.Core.b64 (FP.Core.val64 b) = (y : Int)) (h : x ≤ y) (op : CmpOp) : ¬ 0 < cmpValue (FP.dcmp a b) op := by
  rw [cv_c ha hb, za, zb]
  by_cases u : (x : Int) < (y : Int)
  · rw [if_pos u]; decide
  · rw [if_neg u, if_pos (by omega)]; decide
theorem cv_lt {a b : UInt64} {x y : Nat} (ha : FP.Core.val64 a ≠ .nan) (hb : FP.Core.val64 b ≠ .nan) (za : FP.Core.zval FP.Core.b64 (FP.Core.val64 a) = (x : Int)) (zb : FP.Core.zval FP.Core.b64 (FP.Core.val64 b) = (y : Int)) (h : x < y) (op : CmpOp) : cmpValue (FP.dcmp a b) op < 0 := by
  rw [cv_c ha hb, za, zb, if_pos (by omega)]; decide
theorem cv_eq {a b : UInt64} {x y : Nat} (ha : FP.Core.val64 a ≠ .nan) (hb : FP.Core.val64 b ≠ .nan) (za : FP.Core.zval FP.Core.b64 (FP.Core.val64 a) = (x : Int)) (zb : FP.Core.zval FP.Core.b64 (FP.Core.val64 b) = (y : Int)) (h : x = y) (op : CmpOp) : cmpValue (FP.dcmp a b) op = 0 := by
  rw [cv_c ha hb, za, zb, if_neg (by omega), if_pos (by omega)]
theorem cv_ne {a b : UInt64} {x y : Nat} (ha : FP.Core.val64 a ≠ .nan) (hb : FP.Core.val64 b ≠ .nan) (za : FP.Core.zval FP.Core.b64 (FP.Core.val64 a) = (x : Int)) (zb : FP.Core.zval FP.Core.b64 (FP.Core.val64 b) = (y : Int)) (h : ¬ x = y) (op : CmpOp) : ¬ cmpValue (FP.dcmp a b) op = 0 := by
  rw [cv_c ha hb, za, zb]
  by_cases u : (x : Int) < (y : Int)
  · rw [if_pos u]; decide
  · rw [if_neg u, if_neg (by omega)]; decide
theorem n0 : FP.Core.val64 (dcv 0) ≠ .nan := by decide +kernel
theorem n1 : FP.Core.val64 (dcv 1) ≠ .nan := by decide +kernel
theorem z0 : FP.Core.zval FP.Core.b64 (FP.Core.val64 (dcv 0)) = ((0 : Nat) : Int) := by decide +kernel
theorem z1 : FP.Core.zval FP.Core.b64 (FP.Core.val64 (dcv 1)) = ((FP.Core.one64 : Nat) : Int) := by decide +kernel
theorem rt_nn {a b : Int64} (ha : 0 ≤ a.toInt) (hb : 0 < b.toInt) : nNaN (FP.ddiv (FP.l2d a) (FP.l2d b)) = true := nNaN_of (Jvm.Free.Fl.noNaN64_no.mpr ((FP.Core.notNaN_iff _).mpr (rt_ne ha hb)))
theorem land_nn (x : Int64) : 0 ≤ (x &&& 9223372036854775807).toInt := (c_andSL x 9223372036854775807).2.2 (by decide)
theorem rem_ok {x b : Int64} (hx : 0 ≤ x.toInt) (hb : 0 < b.toInt) : 0 ≤ (x % b).toInt ∧ (x % b).toInt < b.toInt := by
  rw [Int64.toInt_mod]
  exact ⟨Int.tmod_nonneg _ hx, Int.tmod_lt_of_pos _ hb⟩
theorem dbl {x : Int64} (h0 : 0 ≤ x.toInt) (h : x.toInt ≤ 4611686018427387903) : (2 * x).toInt = 2 * x.toInt := by
  have := c_lmul 2 x
  have e : (2 : Int64).toInt = 2 := by decide
  have h1 := (2 * x).toInt_lt
  have h2 := (2 * x).le_toInt
  rw [e] at this
  omega
theorem i_lt {x y : Int64} : x < y ↔ x.toInt < y.toInt := Int64.lt_iff_toInt_lt
theorem nz {b : Int64} (hb : 0 < b.toInt) : ¬ b = 0 := fun u => by rw [u] at hb; exact absurd hb (by decide)
def own_min (x y : Int64) : Int64 := if y < x then y else x
def own_max (x y : Int64) : Int64 := if x < y then y else x
theorem F1_eq (x y : Int64) (H : AH) : F1 [.long x, .long y] H = some (some (.long (own_min x y)), H) := by
  unfold own_min
  by_cases h : y < x
  · rw [if_pos h]
    refine is_of f1_in fun go hgo => ?_
    refine t1_0 hgo ?_
    refine t1_1 hgo ?_
    refine t1_2 hgo ?_
    refine t1_3t hgo ((lw_gt _ _).mpr h) ?_
    refine t1_10 hgo ?_
    refine t1_11 hgo ?_
    exact is_r
  · rw [if_neg h]
    refine is_of f1_in fun go hgo => ?_
    refine t1_0 hgo ?_
    refine t1_1 hgo ?_
    refine t1_2 hgo ?_
    refine t1_3f hgo (fun q => h ((lw_gt _ _).mp q)) ?_
    refine t1_6 hgo ?_
    refine t1_7 hgo ?_
    refine t1_11 hgo ?_
    exact is_r
theorem F2_eq (x y : Int64) (H : AH) : F2 [.long x, .long y] H = some (some (.long (own_max x y)), H) := by
  unfold own_max
  by_cases h : x < y
  · rw [if_pos h]
    refine is_of f2_in fun go hgo => ?_
    refine t2_0 hgo ?_
    refine t2_1 hgo ?_
    refine t2_2 hgo ?_
    refine t2_3t hgo ((lw_lt _ _).mpr h) ?_
    refine t2_10 hgo ?_
    refine t2_11 hgo ?_
    exact is_r
  · rw [if_neg h]
    refine is_of f2_in fun go hgo => ?_
    refine t2_0 hgo ?_
    refine t2_1 hgo ?_
    refine t2_2 hgo ?_
    refine t2_3f hgo (fun q => h ((lw_lt _ _).mp q)) ?_
    refine t2_6 hgo ?_
    refine t2_7 hgo ?_
    refine t2_11 hgo ?_
    exact is_r
theorem F5_eq {a : Nat} {vs : List Value} {H : AH} (ha : H[a]? = some (.inl (0, vs))) : F5 [.ref a] H = some (none, H) := by
  refine is_of f5_in fun go hgo => ?_
  refine t5_0 hgo rfl ?_
  refine res_of (u5_1 hgo) ?_
  simp only [eq_self, and_self, true_and, and_true, not_true_eq_false, not_false_eq_true, if_true, if_false, reduceIte, Option.bind_some, List.getElem?_cons_zero, List.getElem?_cons_succ, Nat.reduceAdd, Nat.reduceSub, Nat.reduceLT, Nat.reduceLeDiff, Nat.le_refl, Nat.zero_add, Nat.add_zero, List.length_cons, List.length_nil, Int32.reduceLT, Int32.reduceToNatClampNeg, Int32.reduceAdd, Int32.reduceSub, Int32.reduceMul, decide_true, aCall, aRecv, aObj, obj, List.take_succ_cons, List.take_zero, List.drop_succ_cons, List.drop_zero, List.reverse_cons, List.reverse_nil, List.nil_append, List.cons_append, List.append_nil, List.map_cons, List.map_nil, List.sum_cons, List.sum_nil, cat_int, cat_long, cat_double, cat_ref, cat_null, Option.toList_some, Option.toList_none, ha]
  refine t5_4 hgo ?_
  exact is_r
theorem F4_eq {a : Nat} {d b : Int64} {z : Int32} {H : AH} (hz : z = 0 ∨ z = 1) (ha : H[a]? = some (.inl (0, [.long 0, .long 0, .long 0, .int 0, .null]))) : F4 [.ref a, .long 7, .long d, .long b, .int z, .null] H = some (none, H.set a (.inl (0, [.long 7, .long d, .long b, .int z, .null]))) := by
  have hs : ∀ o, (H.set a o)[a]? = some o := fun o => st_se ha
  have e5 := F5_eq ha
  rcases hz with rfl | rfl
  · refine is_of f4_inn fun go hgo => ?_
    refine t4_0 hgo rfl ?_
    refine res_of (u4_1 hgo) ?_
    simp only [eq_self, and_self, true_and, and_true, not_true_eq_false, not_false_eq_true, if_true, if_false, reduceIte, Option.bind_some, List.getElem?_cons_zero, List.getElem?_cons_succ, Nat.reduceAdd, Nat.reduceSub, Nat.reduceLT, Nat.reduceLeDiff, Nat.le_refl, Nat.zero_add, Nat.add_zero, List.length_cons, List.length_nil, Int32.reduceLT, Int32.reduceToNatClampNeg, Int32.reduceAdd, Int32.reduceSub, Int32.reduceMul, decide_true, aCall, aRecv, aObj, obj, List.take_succ_cons, List.take_zero, List.drop_succ_cons, List.drop_zero, List.reverse_cons, List.reverse_nil, List.nil_append, List.cons_append, List.append_nil, List.map_cons, List.map_nil, List.sum_cons, List.sum_nil, cat_int, cat_long, cat_double, cat_ref, cat_null, Option.toList_some, Option.toList_none, ha, hs, e5, ft_on, List.set_set, Nat.zero_le]
    refine t4_4 hgo rfl ?_
    refine t4_5 hgo ?_
    refine res_of (u4_6 hgo) ?_
    simp only [eq_self, and_self, true_and, and_true, not_true_eq_false, not_false_eq_true, if_true, if_false, reduceIte, Option.bind_some, List.getElem?_cons_zero, List.getElem?_cons_succ, Nat.reduceAdd, Nat.reduceSub, Nat.reduceLT, Nat.reduceLeDiff, Nat.le_refl, Nat.zero_add, Nat.add_zero, List.length_cons, List.length_nil, Int32.reduceLT, Int32.reduceToNatClampNeg, Int32.reduceAdd, Int32.reduceSub, Int32.reduceMul, decide_true, aPut, obj, nr_i, nr_j, nr_a, nr_o, nr_b, nr_b1, nr_b0, ft_i, ft_j, ft_a, ft_o, ft_b, ft_b1, ft_b0, List.set_cons_zero, List.set_cons_succ, ha, hs, e5, ft_on, List.set_set, Nat.zero_le]
    refine t4_9 hgo rfl ?_
    refine t4_10 hgo ?_
    refine res_of (u4_11 hgo) ?_
    simp only [eq_self, and_self, true_and, and_true, not_true_eq_false, not_false_eq_true, if_true, if_false, reduceIte, Option.bind_some, List.getElem?_cons_zero, List.getElem?_cons_succ, Nat.reduceAdd, Nat.reduceSub, Nat.reduceLT, Nat.reduceLeDiff, Nat.le_refl, Nat.zero_add, Nat.add_zero, List.length_cons, List.length_nil, Int32.reduceLT, Int32.reduceToNatClampNeg, Int32.reduceAdd, Int32.reduceSub, Int32.reduceMul, decide_true, aPut, obj, nr_i, nr_j, nr_a, nr_o, nr_b, nr_b1, nr_b0, ft_i, ft_j, ft_a, ft_o, ft_b, ft_b1, ft_b0, List.set_cons_zero, List.set_cons_succ, ha, hs, e5, ft_on, List.set_set, Nat.zero_le]
    refine t4_14 hgo rfl ?_
    refine t4_15 hgo ?_
    refine res_of (u4_17 hgo) ?_
    simp only [eq_self, and_self, true_and, and_true, not_true_eq_false, not_false_eq_true, if_true, if_false, reduceIte, Option.bind_some, List.getElem?_cons_zero, List.getElem?_cons_succ, Nat.reduceAdd, Nat.reduceSub, Nat.reduceLT, Nat.reduceLeDiff, Nat.le_refl, Nat.zero_add, Nat.add_zero, List.length_cons, List.length_nil, Int32.reduceLT, Int32.reduceToNatClampNeg, Int32.reduceAdd, Int32.reduceSub, Int32.reduceMul, decide_true, aPut, obj, nr_i, nr_j, nr_a, nr_o, nr_b, nr_b1, nr_b0, ft_i, ft_j, ft_a, ft_o, ft_b, ft_b1, ft_b0, List.set_cons_zero, List.set_cons_succ, ha, hs, e5, ft_on, List.set_set, Nat.zero_le]
    refine t4_20 hgo rfl ?_
    refine t4_21 hgo ?_
    refine res_of (u4_23 hgo) ?_
    simp only [eq_self, and_self, true_and, and_true, not_true_eq_false, not_false_eq_true, if_true, if_false, reduceIte, Option.bind_some, List.getElem?_cons_zero, List.getElem?_cons_succ, Nat.reduceAdd, Nat.reduceSub, Nat.reduceLT, Nat.reduceLeDiff, Nat.le_refl, Nat.zero_add, Nat.add_zero, List.length_cons, List.length_nil, Int32.reduceLT, Int32.reduceToNatClampNeg, Int32.reduceAdd, Int32.reduceSub, Int32.reduceMul, decide_true, aPut, obj, nr_i, nr_j, nr_a, nr_o, nr_b, nr_b1, nr_b0, ft_i, ft_j, ft_a, ft_o, ft_b, ft_b1, ft_b0, List.set_cons_zero, List.set_cons_succ, ha, hs, e5, ft_on, List.set_set, Nat.zero_le]
    refine t4_26 hgo rfl ?_
    refine t4_27 hgo rfl ?_
    refine res_of (u4_29 hgo) ?_
    simp only [eq_self, and_self, true_and, and_true, not_true_eq_false, not_false_eq_true, if_true, if_false, reduceIte, Option.bind_some, List.getElem?_cons_zero, List.getElem?_cons_succ, Nat.reduceAdd, Nat.reduceSub, Nat.reduceLT, Nat.reduceLeDiff, Nat.le_refl, Nat.zero_add, Nat.add_zero, List.length_cons, List.length_nil, Int32.reduceLT, Int32.reduceToNatClampNeg, Int32.reduceAdd, Int32.reduceSub, Int32.reduceMul, decide_true, aPut, obj, nr_i, nr_j, nr_a, nr_o, nr_b, nr_b1, nr_b0, ft_i, ft_j, ft_a, ft_o, ft_b, ft_b1, ft_b0, List.set_cons_zero, List.set_cons_succ, ha, hs, e5, ft_on, List.set_set, Nat.zero_le]
    refine t4_32 hgo ?_
    exact is_r
  · refine is_of f4_inn fun go hgo => ?_
    refine t4_0 hgo rfl ?_
    refine res_of (u4_1 hgo) ?_
    simp only [eq_self, and_self, true_and, and_true, not_true_eq_false, not_false_eq_true, if_true, if_false, reduceIte, Option.bind_some, List.getElem?_cons_zero, List.getElem?_cons_succ, Nat.reduceAdd, Nat.reduceSub, Nat.reduceLT, Nat.reduceLeDiff, Nat.le_refl, Nat.zero_add, Nat.add_zero, List.length_cons, List.length_nil, Int32.reduceLT, Int32.reduceToNatClampNeg, Int32.reduceAdd, Int32.reduceSub, Int32.reduceMul, decide_true, aCall, aRecv, aObj, obj, List.take_succ_cons, List.take_zero, List.drop_succ_cons, List.drop_zero, List.reverse_cons, List.reverse_nil, List.nil_append, List.cons_append, List.append_nil, List.map_cons, List.map_nil, List.sum_cons, List.sum_nil, cat_int, cat_long, cat_double, cat_ref, cat_null, Option.toList_some, Option.toList_none, ha, hs, e5, ft_on, List.set_set, Nat.zero_le]
    refine t4_4 hgo rfl ?_
    refine t4_5 hgo ?_
    refine res_of (u4_6 hgo) ?_
    simp only [eq_self, and_self, true_and, and_true, not_true_eq_false, not_false_eq_true, if_true, if_false, reduceIte, Option.bind_some, List.getElem?_cons_zero, List.getElem?_cons_succ, Nat.reduceAdd, Nat.reduceSub, Nat.reduceLT, Nat.reduceLeDiff, Nat.le_refl, Nat.zero_add, Nat.add_zero, List.length_cons, List.length_nil, Int32.reduceLT, Int32.reduceToNatClampNeg, Int32.reduceAdd, Int32.reduceSub, Int32.reduceMul, decide_true, aPut, obj, nr_i, nr_j, nr_a, nr_o, nr_b, nr_b1, nr_b0, ft_i, ft_j, ft_a, ft_o, ft_b, ft_b1, ft_b0, List.set_cons_zero, List.set_cons_succ, ha, hs, e5, ft_on, List.set_set, Nat.zero_le]
    refine t4_9 hgo rfl ?_
    refine t4_10 hgo ?_
    refine res_of (u4_11 hgo) ?_
    simp only [eq_self, and_self, true_and, and_true, not_true_eq_false, not_false_eq_true, if_true, if_false, reduceIte, Option.bind_some, List.getElem?_cons_zero, List.getElem?_cons_succ, Nat.reduceAdd, Nat.reduceSub, Nat.reduceLT, Nat.reduceLeDiff, Nat.le_refl, Nat.zero_add, Nat.add_zero, List.length_cons, List.length_nil, Int32.reduceLT, Int32.reduceToNatClampNeg, Int32.reduceAdd, Int32.reduceSub, Int32.reduceMul, decide_true, aPut, obj, nr_i, nr_j, nr_a, nr_o, nr_b, nr_b1, nr_b0, ft_i, ft_j, ft_a, ft_o, ft_b, ft_b1, ft_b0, List.set_cons_zero, List.set_cons_succ, ha, hs, e5, ft_on, List.set_set, Nat.zero_le]
    refine t4_14 hgo rfl ?_
    refine t4_15 hgo ?_
    refine res_of (u4_17 hgo) ?_
    simp only [eq_self, and_self, true_and, and_true, not_true_eq_false, not_false_eq_true, if_true, if_false, reduceIte, Option.bind_some, List.getElem?_cons_zero, List.getElem?_cons_succ, Nat.reduceAdd, Nat.reduceSub, Nat.reduceLT, Nat.reduceLeDiff, Nat.le_refl, Nat.zero_add, Nat.add_zero, List.length_cons, List.length_nil, Int32.reduceLT, Int32.reduceToNatClampNeg, Int32.reduceAdd, Int32.reduceSub, Int32.reduceMul, decide_true, aPut, obj, nr_i, nr_j, nr_a, nr_o, nr_b, nr_b1, nr_b0, ft_i, ft_j, ft_a, ft_o, ft_b, ft_b1, ft_b0, List.set_cons_zero, List.set_cons_succ, ha, hs, e5, ft_on, List.set_set, Nat.zero_le]
    refine t4_20 hgo rfl ?_
    refine t4_21 hgo ?_
    refine res_of (u4_23 hgo) ?_
    simp only [eq_self, and_self, true_and, and_true, not_true_eq_false, not_false_eq_true, if_true, if_false, reduceIte, Option.bind_some, List.getElem?_cons_zero, List.getElem?_cons_succ, Nat.reduceAdd, Nat.reduceSub, Nat.reduceLT, Nat.reduceLeDiff, Nat.le_refl, Nat.zero_add, Nat.add_zero, List.length_cons, List.length_nil, Int32.reduceLT, Int32.reduceToNatClampNeg, Int32.reduceAdd, Int32.reduceSub, Int32.reduceMul, decide_true, aPut, obj, nr_i, nr_j, nr_a, nr_o, nr_b, nr_b1, nr_b0, ft_i, ft_j, ft_a, ft_o, ft_b, ft_b1, ft_b0, List.set_cons_zero, List.set_cons_succ, ha, hs, e5, ft_on, List.set_set, Nat.zero_le]
    refine t4_26 hgo rfl ?_
    refine t4_27 hgo rfl ?_
    refine res_of (u4_29 hgo) ?_
    simp only [eq_self, and_self, true_and, and_true, not_true_eq_false, not_false_eq_true, if_true, if_false, reduceIte, Option.bind_some, List.getElem?_cons_zero, List.getElem?_cons_succ, Nat.reduceAdd, Nat.reduceSub, Nat.reduceLT, Nat.reduceLeDiff, Nat.le_refl, Nat.zero_add, Nat.add_zero, List.length_cons, List.length_nil, Int32.reduceLT, Int32.reduceToNatClampNeg, Int32.reduceAdd, Int32.reduceSub, Int32.reduceMul, decide_true, aPut, obj, nr_i, nr_j, nr_a, nr_o, nr_b, nr_b1, nr_b0, ft_i, ft_j, ft_a, ft_o, ft_b, ft_b1, ft_b0, List.set_cons_zero, List.set_cons_succ, ha, hs, e5, ft_on, List.set_set, Nat.zero_le]
    refine t4_32 hgo ?_
    exact is_r
theorem F6_z {a : Nat} {d : Int64} {z : Int32} {H : AH} (ha : H[a]? = some (.inl (0, [.long 7, .long d, .long 0, .int z, .null]))) : F6 [.ref a] H = some (some (.double (dcv 0)), H) := by
  refine is_of f6_in fun go hgo => ?_
  refine t6_0 hgo rfl ?_
  refine res_of (u6_1 hgo) ?_
  simp only [eq_self, and_self, true_and, and_true, not_true_eq_false, not_false_eq_true, if_true, if_false, reduceIte, Option.bind_some, List.getElem?_cons_zero, List.getElem?_cons_succ, Nat.reduceAdd, Nat.reduceSub, Nat.reduceLT, Nat.reduceLeDiff, Nat.le_refl, Nat.zero_add, Nat.add_zero, List.length_cons, List.length_nil, Int32.reduceLT, Int32.reduceToNatClampNeg, Int32.reduceAdd, Int32.reduceSub, Int32.reduceMul, decide_true, aGet, obj, ha]
  refine t6_4 hgo ?_
  refine t6_5 hgo ?_
  refine t6_6t hgo ((lw_eq _ _).mpr rfl) ?_
  refine t6_9 hgo ?_
  refine t6_10 hgo ?_
  refine t6_24 hgo ?_
  exact is_r
theorem F6_p {a : Nat} {d b : Int64} {z : Int32} {H : AH} (hd : 0 ≤ d.toInt) (hb : 0 < b.toInt) (ha : H[a]? = some (.inl (0, [.long 7, .long d, .long b, .int z, .null]))) : F6 [.ref a] H = some (some (.double (rt d b)), H) := by
  refine is_of f6_in fun go hgo => ?_
  refine t6_0 hgo rfl ?_
  refine res_of (u6_1 hgo) ?_
  simp only [eq_self, and_self, true_and, and_true, not_true_eq_false, not_false_eq_true, if_true, if_false, reduceIte, Option.bind_some, List.getElem?_cons_zero, List.getElem?_cons_succ, Nat.reduceAdd, Nat.reduceSub, Nat.reduceLT, Nat.reduceLeDiff, Nat.le_refl, Nat.zero_add, Nat.add_zero, List.length_cons, List.length_nil, Int32.reduceLT, Int32.reduceToNatClampNeg, Int32.reduceAdd, Int32.reduceSub, Int32.reduceMul, decide_true, aGet, obj, ha]
  refine t6_4 hgo ?_
  refine t6_5 hgo ?_
  refine t6_6f hgo (fun q => nz hb ((lw_eq _ _).mp q)) ?_
  refine t6_13 hgo rfl ?_
  refine res_of (u6_14 hgo) ?_
  simp only [eq_self, and_self, true_and, and_true, not_true_eq_false, not_false_eq_true, if_true, if_false, reduceIte, Option.bind_some, List.getElem?_cons_zero, List.getElem?_cons_succ, Nat.reduceAdd, Nat.reduceSub, Nat.reduceLT, Nat.reduceLeDiff, Nat.le_refl, Nat.zero_add, Nat.add_zero, List.length_cons, List.length_nil, Int32.reduceLT, Int32.reduceToNatClampNeg, Int32.reduceAdd, Int32.reduceSub, Int32.reduceMul, decide_true, aGet, obj, ha]
  refine t6_17 hgo ?_
  refine t6_18 hgo rfl ?_
  refine res_of (u6_19 hgo) ?_
  simp only [eq_self, and_self, true_and, and_true, not_true_eq_false, not_false_eq_true, if_true, if_false, reduceIte, Option.bind_some, List.getElem?_cons_zero, List.getElem?_cons_succ, Nat.reduceAdd, Nat.reduceSub, Nat.reduceLT, Nat.reduceLeDiff, Nat.le_refl, Nat.zero_add, Nat.add_zero, List.length_cons, List.length_nil, Int32.reduceLT, Int32.reduceToNatClampNeg, Int32.reduceAdd, Int32.reduceSub, Int32.reduceMul, decide_true, aGet, obj, ha]
  refine t6_22 hgo ?_
  refine t6_23 hgo (rt_nn hd hb) ?_
  refine t6_24 hgo ?_
  exact is_r
theorem F3_z {d : Int64} {z : Int32} {H : AH} (hz : z = 0 ∨ z = 1) : F3 [.long d, .long 0, .int z] H = some (some (.double (dcv 0)), H ++ [Sum.inl (0, [Value.long 7, Value.long d, Value.long 0, Value.int z, Value.null])]) := by
  have hn : (H ++ [Sum.inl (0, [Value.long 0, Value.long 0, Value.long 0, Value.int 0, Value.null])])[H.length]? = some (Sum.inl (0, [Value.long 0, Value.long 0, Value.long 0, Value.int 0, Value.null])) := nw
  have hn1 : (H ++ [Sum.inl (0, [Value.long 7, Value.long d, Value.long 0, Value.int z, Value.null])])[H.length]? = some (Sum.inl (0, [Value.long 7, Value.long d, Value.long 0, Value.int z, Value.null])) := nw
  have e4 := F4_eq (d := d) (b := 0) hz hn
  rw [List.set_append_right _ _ (Nat.le_refl _), Nat.sub_self, List.set_cons_zero] at e4
  have e6 := F6_z hn1
  refine is_of f3_in fun go hgo => ?_
  refine res_of (u3_0 hgo) ?_
  simp only [eq_self, and_self, true_and, and_true, not_true_eq_false, not_false_eq_true, if_true, if_false, reduceIte, Option.bind_some, List.getElem?_cons_zero, List.getElem?_cons_succ, Nat.reduceAdd, Nat.reduceSub, Nat.reduceLT, Nat.reduceLeDiff, Nat.le_refl, Nat.zero_add, Nat.add_zero, List.length_cons, List.length_nil, Int32.reduceLT, Int32.reduceToNatClampNeg, Int32.reduceAdd, Int32.reduceSub, Int32.reduceMul, decide_true, aNew, List.nil_append, List.cons_append, hn, hn1, e4, e6]
  refine t3_3 hgo rfl ?_
  refine t3_4 hgo ?_
  refine t3_7 hgo ?_
  refine t3_8 hgo ?_
  refine t3_9 hgo ?_
  refine t3_11 hgo ?_
  refine res_of (u3_12 hgo) ?_
  simp only [eq_self, and_self, true_and, and_true, not_true_eq_false, not_false_eq_true, if_true, if_false, reduceIte, Option.bind_some, List.getElem?_cons_zero, List.getElem?_cons_succ, Nat.reduceAdd, Nat.reduceSub, Nat.reduceLT, Nat.reduceLeDiff, Nat.le_refl, Nat.zero_add, Nat.add_zero, List.length_cons, List.length_nil, Int32.reduceLT, Int32.reduceToNatClampNeg, Int32.reduceAdd, Int32.reduceSub, Int32.reduceMul, decide_true, aCall, aRecv, aObj, obj, List.take_succ_cons, List.take_zero, List.drop_succ_cons, List.drop_zero, List.reverse_cons, List.reverse_nil, List.nil_append, List.cons_append, List.append_nil, List.map_cons, List.map_nil, List.sum_cons, List.sum_nil, cat_int, cat_long, cat_double, cat_ref, cat_null, Option.toList_some, Option.toList_none, hn, hn1, e4, e6]
  refine res_of (u3_15 hgo) ?_
  simp only [eq_self, and_self, true_and, and_true, not_true_eq_false, not_false_eq_true, if_true, if_false, reduceIte, Option.bind_some, List.getElem?_cons_zero, List.getElem?_cons_succ, Nat.reduceAdd, Nat.reduceSub, Nat.reduceLT, Nat.reduceLeDiff, Nat.le_refl, Nat.zero_add, Nat.add_zero, List.length_cons, List.length_nil, Int32.reduceLT, Int32.reduceToNatClampNeg, Int32.reduceAdd, Int32.reduceSub, Int32.reduceMul, decide_true, aCall, aRecv, aObj, obj, List.take_succ_cons, List.take_zero, List.drop_succ_cons, List.drop_zero, List.reverse_cons, List.reverse_nil, List.nil_append, List.cons_append, List.append_nil, List.map_cons, List.map_nil, List.sum_cons, List.sum_nil, cat_int, cat_long, cat_double, cat_ref, cat_null, Option.toList_some, Option.toList_none, hn, hn1, e4, e6]
  refine t3_18 hgo ?_
  exact is_r
theorem F3_p {d b : Int64} {z : Int32} {H : AH} (hz : z = 0 ∨ z = 1) (hd : 0 ≤ d.toInt) (hb : 0 < b.toInt) : F3 [.long d, .long b, .int z] H = some (some (.double (rt d b)), H ++ [Sum.inl (0, [Value.long 7, Value.long d, Value.long b, Value.int z, Value.null])]) := by
  have hn : (H ++ [Sum.inl (0, [Value.long 0, Value.long 0, Value.long 0, Value.int 0, Value.null])])[H.length]? = some (Sum.inl (0, [Value.long 0, Value.long 0, Value.long 0, Value.int 0, Value.null])) := nw
  have hn1 : (H ++ [Sum.inl (0, [Value.long 7, Value.long d, Value.long b, Value.int z, Value.null])])[H.length]? = some (Sum.inl (0, [Value.long 7, Value.long d, Value.long b, Value.int z, Value.null])) := nw
  have e4 := F4_eq (d := d) (b := b) hz hn
  rw [List.set_append_right _ _ (Nat.le_refl _), Nat.sub_self, List.set_cons_zero] at e4
  have e6 := F6_p hd hb hn1
  refine is_of f3_in fun go hgo => ?_
  refine res_of (u3_0 hgo) ?_
  simp only [eq_self, and_self, true_and, and_true, not_true_eq_false, not_false_eq_true, if_true, if_false, reduceIte, Option.bind_some, List.getElem?_cons_zero, List.getElem?_cons_succ, Nat.reduceAdd, Nat.reduceSub, Nat.reduceLT, Nat.reduceLeDiff, Nat.le_refl, Nat.zero_add, Nat.add_zero, List.length_cons, List.length_nil, Int32.reduceLT, Int32.reduceToNatClampNeg, Int32.reduceAdd, Int32.reduceSub, Int32.reduceMul, decide_true, aNew, List.nil_append, List.cons_append, hn, hn1, e4, e6]
  refine t3_3 hgo rfl ?_
  refine t3_4 hgo ?_
  refine t3_7 hgo ?_
  refine t3_8 hgo ?_
  refine t3_9 hgo ?_
  refine t3_11 hgo ?_
  refine res_of (u3_12 hgo) ?_
  simp only [eq_self, and_self, true_and, and_true, not_true_eq_false, not_false_eq_true, if_true, if_false, reduceIte, Option.bind_some, List.getElem?_cons_zero, List.getElem?_cons_succ, Nat.reduceAdd, Nat.reduceSub, Nat.reduceLT, Nat.reduceLeDiff, Nat.le_refl, Nat.zero_add, Nat.add_zero, List.length_cons, List.length_nil, Int32.reduceLT, Int32.reduceToNatClampNeg, Int32.reduceAdd, Int32.reduceSub, Int32.reduceMul, decide_true, aCall, aRecv, aObj, obj, List.take_succ_cons, List.take_zero, List.drop_succ_cons, List.drop_zero, List.reverse_cons, List.reverse_nil, List.nil_append, List.cons_append, List.append_nil, List.map_cons, List.map_nil, List.sum_cons, List.sum_nil, cat_int, cat_long, cat_double, cat_ref, cat_null, Option.toList_some, Option.toList_none, hn, hn1, e4, e6]
  refine res_of (u3_15 hgo) ?_
  simp only [eq_self, and_self, true_and, and_true, not_true_eq_false, not_false_eq_true, if_true, if_false, reduceIte, Option.bind_some, List.getElem?_cons_zero, List.getElem?_cons_succ, Nat.reduceAdd, Nat.reduceSub, Nat.reduceLT, Nat.reduceLeDiff, Nat.le_refl, Nat.zero_add, Nat.add_zero, List.length_cons, List.length_nil, Int32.reduceLT, Int32.reduceToNatClampNeg, Int32.reduceAdd, Int32.reduceSub, Int32.reduceMul, decide_true, aCall, aRecv, aObj, obj, List.take_succ_cons, List.take_zero, List.drop_succ_cons, List.drop_zero, List.reverse_cons, List.reverse_nil, List.nil_append, List.cons_append, List.append_nil, List.map_cons, List.map_nil, List.sum_cons, List.sum_nil, cat_int, cat_long, cat_double, cat_ref, cat_null, Option.toList_some, Option.toList_none, hn, hn1, e4, e6]
  refine t3_18 hgo ?_
  exact is_r
set_option maxRecDepth 65536 in
set_option maxHeartbeats 4000000 in
theorem law_396 {go : Nat → St → Option ORes} (hgo : go = orun code ret E0 0) {v0 v1 v2 : Int64} {v3 : Int32} {z : Int32} {B : Int64} {f : Int32} {D : Int64} {O l h : Int64} {rl rh : UInt64} {B2 : Int64} {r2 : UInt64} {l30 l31 : Slot} {c S m : Nat} {H : AH} (hc : c ≤ 20) (hS : S ≤ 100) (hz : z = 0 ∨ z = 1) (hh0 : 0 ≤ h.toInt) (h30 : so2D l30 l31 = true) : Rsq (go (m + 30) (396, [.val (.long v0), .second, .val (.long v1), .second, .val (.long v2), .second, .val (.int v3), .val (.int z), .val (.long B), .second, .val (.int f), .val (.long D), .second, .val (.long O), .second, .val (.long l), .second, .val (.long h), .second, .val (.double (rt D B)), .second, .val (.int 1), .val (.double rl), .second, .val (.double rh), .second, .val (.long B2), .second, .val (.double r2), .second, l30, l31], [], H, c, S)) OneI := by
  have c1 : c + 1 ≤ 24 := by omega
  have s1 : S + 5 ≤ 128 := by omega
  have c0 : c ≤ 24 := by omega
  have s0 : S ≤ 128 := by omega
  by_cases h0 : (0 : Int64) < h
  · by_cases h1 : (4611686018427387903 : Int64) < h
    · skip
      refine t0_396 hgo ?_
      refine t0_398 hgo ?_
      refine t0_399 hgo ?_
      refine t0_400t hgo ((lw_gt _ _).mpr h0) ?_
      refine t0_403 hgo ?_
      refine t0_405 hgo ?_
      refine t0_408 hgo ?_
      refine t0_409t hgo ((lw_gt _ _).mpr h1) ?_
      refine t0_448 hgo ?_
      refine t0_450 hgo ?_
      exact one_b
    · have k0 : 0 < h.toInt := by rw [i_lt] at h0; exact h0
      have k1 : h.toInt ≤ 4611686018427387903 := by
        rw [i_lt] at h1
        have : (4611686018427387903 : Int64).toInt = 4611686018427387903 := by decide
        omega
      have k2 := dbl hh0 k1
      have e3 := F3_p (d := h) (b := 2 * h) (H := H) hz hh0 (by omega)
      have hv := rt_half k0 k2
      have e : cmpValue (FP.dcmp (rt h (2 * h)) 4602678819172646912) .l = 0 := by
        refine cv_eq (x := p1073) (y := p1073) (by rw [hv]; decide) (by decide +kernel) (by rw [hv]; decide +kernel) (by decide +kernel) rfl .l
      refine t0_396 hgo ?_
      refine t0_398 hgo ?_
      refine t0_399 hgo ?_
      refine t0_400t hgo ((lw_gt _ _).mpr h0) ?_
      refine t0_403 hgo ?_
      refine t0_405 hgo ?_
      refine t0_408 hgo ?_
      refine t0_409f hgo (fun q => h1 ((lw_gt _ _).mp q)) ?_
      refine t0_412 hgo ?_
      refine t0_414 hgo ?_
      refine t0_417 hgo ?_
      refine t0_419 hgo ?_
      refine t0_420 hgo ?_
      refine res_of (u0_422 hgo) ?_
      simp only [eq_self, and_self, true_and, and_true, not_true_eq_false, not_false_eq_true, if_true, if_false, reduceIte, Option.bind_some, List.getElem?_cons_zero, List.getElem?_cons_succ, Nat.reduceAdd, Nat.reduceSub, Nat.reduceLT, Nat.reduceLeDiff, Nat.le_refl, Nat.zero_add, Nat.add_zero, List.length_cons, List.length_nil, Int32.reduceLT, Int32.reduceToNatClampNeg, Int32.reduceAdd, Int32.reduceSub, Int32.reduceMul, decide_true, aCall, aRecv, aObj, obj, List.take_succ_cons, List.take_zero, List.drop_succ_cons, List.drop_zero, List.reverse_cons, List.reverse_nil, List.nil_append, List.cons_append, List.append_nil, List.map_cons, List.map_nil, List.sum_cons, List.sum_nil, cat_int, cat_long, cat_double, cat_ref, cat_null, Option.toList_some, Option.toList_none, e3, c1, s1]
      refine t0_425 hgo (by first | rfl | assumption) ?_
      refine t0_427 hgo ?_
      refine t0_429f hgo (by decide) ?_
      refine t0_432 hgo ?_
      refine t0_434 hgo ?_
      refine t0_437 hgo ?_
      refine t0_438t hgo e ?_
      refine t0_441 hgo ?_
      refine t0_442 hgo ?_
      refine t0_446 hgo rfl ?_
      refine t0_448 hgo ?_
      refine t0_450 hgo ?_
      exact one_b
  · skip
    refine t0_396 hgo ?_
    refine t0_398 hgo ?_
    refine t0_399 hgo ?_
    refine t0_400f hgo (fun q => h0 ((lw_gt _ _).mp q)) ?_
    refine t0_448 hgo ?_
    refine t0_450 hgo ?_
    exact one_b
set_option maxRecDepth 65536 in
set_option maxHeartbeats 4000000 in
theorem law_340 {go : Nat → St → Option ORes} (hgo : go = orun code ret E0 0) {v0 v1 v2 : Int64} {v3 : Int32} {z : Int32} {B : Int64} {f : Int32} {D : Int64} {O l h : Int64} {rl rh : UInt64} {B2 : Int64} {r2 : UInt64} {c S m : Nat} {H : AH} (hc : c ≤ 19) (hS : S ≤ 95) (hz : z = 0 ∨ z = 1) (hB : 0 < B.toInt) (hD : 0 ≤ D.toInt) (hDB : D.toInt ≤ B.toInt) (hh0 : 0 ≤ h.toInt) : Rsq (go (m + 70) (340, [.val (.long v0), .second, .val (.long v1), .second, .val (.long v2), .second, .val (.int v3), .val (.int z), .val (.long B), .second, .val (.int f), .val (.long D), .second, .val (.long O), .second, .val (.long l), .second, .val (.long h), .second, .val (.double (rt D B)), .second, .val (.int 1), .val (.double rl), .second, .val (.double rh), .second, .val (.long B2), .second, .val (.double r2), .second, .unset, .unset], [], H, c, S)) OneI := by
  have c1 : c + 1 ≤ 24 := by omega
  have s1 : S + 5 ≤ 128 := by omega
  have c0 : c ≤ 24 := by omega
  have s0 : S ≤ 128 := by omega
  by_cases h1 : (4611686018427387903 : Int64) < B
  · skip
    refine t0_340 hgo ?_
    refine t0_342 hgo ?_
    refine t0_345 hgo ?_
    refine t0_346t hgo ((lw_gt _ _).mpr h1) ?_
    exact law_396 hgo (by omega) (by omega) hz hh0 rfl
  · have k1 : B.toInt ≤ 4611686018427387903 := by
      rw [i_lt] at h1
      have : (4611686018427387903 : Int64).toInt = 4611686018427387903 := by decide
      omega
    have kB := dbl (by omega) k1
    have kD := dbl hD (by omega)
    have hq := rt_double hD hB kD kB
    have nn := rt_ne hD hB
    have e : cmpValue (FP.dcmp (rt (2 * D) (2 * B)) (rt D B)) .l = 0 := by
      rw [hq]; exact cv_eq nn nn (zval_rt hD hB) (zval_rt hD hB) rfl .l
    rcases hz with rfl | rfl
    · have e3 := F3_p (d := 2 * D) (b := 2 * B) (z := 1) (H := H) (Or.inr rfl) (by omega) (by omega)
      refine t0_340 hgo ?_
      refine t0_342 hgo ?_
      refine t0_345 hgo ?_
      refine t0_346f hgo (fun q => h1 ((lw_gt _ _).mp q)) ?_
      refine t0_349 hgo ?_
      refine t0_352 hgo ?_
      refine t0_354 hgo ?_
      refine t0_355 hgo ?_
      refine t0_358 hgo ?_
      refine t0_360 hgo ?_
      refine t0_361 hgo ?_
      refine t0_363t hgo (by decide) ?_
      refine t0_366 hgo ?_
      refine t0_367 hgo ?_
      refine res_of (u0_371 hgo) ?_
      simp only [eq_self, and_self, true_and, and_true, not_true_eq_false, not_false_eq_true, if_true, if_false, reduceIte, Option.bind_some, List.getElem?_cons_zero, List.getElem?_cons_succ, Nat.reduceAdd, Nat.reduceSub, Nat.reduceLT, Nat.reduceLeDiff, Nat.le_refl, Nat.zero_add, Nat.add_zero, List.length_cons, List.length_nil, Int32.reduceLT, Int32.reduceToNatClampNeg, Int32.reduceAdd, Int32.reduceSub, Int32.reduceMul, decide_true, aCall, aRecv, aObj, obj, List.take_succ_cons, List.take_zero, List.drop_succ_cons, List.drop_zero, List.reverse_cons, List.reverse_nil, List.nil_append, List.cons_append, List.append_nil, List.map_cons, List.map_nil, List.sum_cons, List.sum_nil, cat_int, cat_long, cat_double, cat_ref, cat_null, Option.toList_some, Option.toList_none, e3, c1, s1]
      refine t0_374 hgo (by first | rfl | assumption) ?_
      refine t0_376 hgo ?_
      refine t0_378f hgo (by decide) ?_
      refine t0_381 hgo ?_
      refine t0_383 hgo ?_
      refine t0_385 hgo ?_
      refine t0_386t hgo e ?_
      refine t0_389 hgo ?_
      refine t0_390 hgo ?_
      refine t0_394 hgo rfl ?_
      exact law_396 hgo (by omega) (by omega) (Or.inl rfl) hh0 rfl
    · have e3 := F3_p (d := 2 * D) (b := 2 * B) (z := 0) (H := H) (Or.inl rfl) (by omega) (by omega)
      refine t0_340 hgo ?_
      refine t0_342 hgo ?_
      refine t0_345 hgo ?_
      refine t0_346f hgo (fun q => h1 ((lw_gt _ _).mp q)) ?_
      refine t0_349 hgo ?_
      refine t0_352 hgo ?_
      refine t0_354 hgo ?_
      refine t0_355 hgo ?_
      refine t0_358 hgo ?_
      refine t0_360 hgo ?_
      refine t0_361 hgo ?_
      refine t0_363f hgo (by decide) ?_
      refine t0_370 hgo ?_
      refine res_of (u0_371 hgo) ?_
      simp only [eq_self, and_self, true_and, and_true, not_true_eq_false, not_false_eq_true, if_true, if_false, reduceIte, Option.bind_some, List.getElem?_cons_zero, List.getElem?_cons_succ, Nat.reduceAdd, Nat.reduceSub, Nat.reduceLT, Nat.reduceLeDiff, Nat.le_refl, Nat.zero_add, Nat.add_zero, List.length_cons, List.length_nil, Int32.reduceLT, Int32.reduceToNatClampNeg, Int32.reduceAdd, Int32.reduceSub, Int32.reduceMul, decide_true, aCall, aRecv, aObj, obj, List.take_succ_cons, List.take_zero, List.drop_succ_cons, List.drop_zero, List.reverse_cons, List.reverse_nil, List.nil_append, List.cons_append, List.append_nil, List.map_cons, List.map_nil, List.sum_cons, List.sum_nil, cat_int, cat_long, cat_double, cat_ref, cat_null, Option.toList_some, Option.toList_none, e3, c1, s1]
      refine t0_374 hgo (by first | rfl | assumption) ?_
      refine t0_376 hgo ?_
      refine t0_378f hgo (by decide) ?_
      refine t0_381 hgo ?_
      refine t0_383 hgo ?_
      refine t0_385 hgo ?_
      refine t0_386t hgo e ?_
      refine t0_389 hgo ?_
      refine t0_390 hgo ?_
      refine t0_394 hgo rfl ?_
      exact law_396 hgo (by omega) (by omega) (Or.inr rfl) hh0 rfl
set_option maxRecDepth 65536 in
set_option maxHeartbeats 4000000 in
theorem law_296 {go : Nat → St → Option ORes} (hgo : go = orun code ret E0 0) {v0 v1 v2 : Int64} {v3 : Int32} {z : Int32} {B : Int64} {f : Int32} {D : Int64} {O l h : Int64} {rl rh : UInt64} {c S m : Nat} {H : AH} (hc : c ≤ 18) (hS : S ≤ 90) (hz : z = 0 ∨ z = 1) (hB : 0 < B.toInt) (hD : 0 ≤ D.toInt) (hDB : D.toInt ≤ B.toInt) (hh0 : 0 ≤ h.toInt) : Rsq (go (m + 100) (296, [.val (.long v0), .second, .val (.long v1), .second, .val (.long v2), .second, .val (.int v3), .val (.int z), .val (.long B), .second, .val (.int f), .val (.long D), .second, .val (.long O), .second, .val (.long l), .second, .val (.long h), .second, .val (.double (rt D B)), .second, .val (.int 1), .val (.double rl), .second, .val (.double rh), .second, .unset, .unset, .unset, .unset, .unset, .unset], [], H, c, S)) OneI := by
  have c1 : c + 1 ≤ 24 := by omega
  have s1 : S + 5 ≤ 128 := by omega
  have c0 : c ≤ 24 := by omega
  have s0 : S ≤ 128 := by omega
  have hm : B.toInt ≤ (own_max B (v2 &&& 9223372036854775807)).toInt := by
    unfold own_max
    split
    · rename_i u; rw [i_lt] at u; omega
    · omega
  have e2 := F2_eq B (v2 &&& 9223372036854775807) H
  have e3 := F3_p (d := D) (b := own_max B (v2 &&& 9223372036854775807)) (H := H) hz hD (by omega)
  generalize own_max B (v2 &&& 9223372036854775807) = B2 at *
  have e := cv_le (rt_ne hD (show 0 < B2.toInt by omega)) (rt_ne hD hB) (zval_rt hD (show 0 < B2.toInt by omega)) (zval_rt hD hB) (Rm_mono hD (show 0 < B2.toInt by omega) (by omega) (Int.le_refl _) hB hm) .g
  refine t0_296 hgo ?_
  refine t0_298 hgo ?_
  refine t0_300 hgo ?_
  refine t0_303 hgo ?_
  refine res_of (u0_304 hgo) ?_
  simp only [eq_self, and_self, true_and, and_true, not_true_eq_false, not_false_eq_true, if_true, if_false, reduceIte, Option.bind_some, List.getElem?_cons_zero, List.getElem?_cons_succ, Nat.reduceAdd, Nat.reduceSub, Nat.reduceLT, Nat.reduceLeDiff, Nat.le_refl, Nat.zero_add, Nat.add_zero, List.length_cons, List.length_nil, Int32.reduceLT, Int32.reduceToNatClampNeg, Int32.reduceAdd, Int32.reduceSub, Int32.reduceMul, decide_true, aCall, aRecv, aObj, obj, List.take_succ_cons, List.take_zero, List.drop_succ_cons, List.drop_zero, List.reverse_cons, List.reverse_nil, List.nil_append, List.cons_append, List.append_nil, List.map_cons, List.map_nil, List.sum_cons, List.sum_nil, cat_int, cat_long, cat_double, cat_ref, cat_null, Option.toList_some, Option.toList_none, e2, e3, c1, s1, c0, s0]
  refine t0_307 hgo rfl ?_
  refine t0_309 hgo ?_
  refine t0_311 hgo ?_
  refine t0_313 hgo ?_
  refine res_of (u0_315 hgo) ?_
  simp only [eq_self, and_self, true_and, and_true, not_true_eq_false, not_false_eq_true, if_true, if_false, reduceIte, Option.bind_some, List.getElem?_cons_zero, List.getElem?_cons_succ, Nat.reduceAdd, Nat.reduceSub, Nat.reduceLT, Nat.reduceLeDiff, Nat.le_refl, Nat.zero_add, Nat.add_zero, List.length_cons, List.length_nil, Int32.reduceLT, Int32.reduceToNatClampNeg, Int32.reduceAdd, Int32.reduceSub, Int32.reduceMul, decide_true, aCall, aRecv, aObj, obj, List.take_succ_cons, List.take_zero, List.drop_succ_cons, List.drop_zero, List.reverse_cons, List.reverse_nil, List.nil_append, List.cons_append, List.append_nil, List.map_cons, List.map_nil, List.sum_cons, List.sum_nil, cat_int, cat_long, cat_double, cat_ref, cat_null, Option.toList_some, Option.toList_none, e2, e3, c1, s1, c0, s0]
  refine t0_318 hgo (by first | rfl | assumption) ?_
  refine t0_320 hgo ?_
  refine t0_322f hgo (by decide) ?_
  refine t0_325 hgo ?_
  refine t0_327 hgo ?_
  refine t0_329 hgo ?_
  refine t0_330f hgo e ?_
  refine t0_333 hgo ?_
  refine t0_334 hgo ?_
  refine t0_338 hgo rfl ?_
  exact law_340 hgo (by omega) (by omega) hz hB hD hDB hh0
set_option maxRecDepth 65536 in
set_option maxHeartbeats 4000000 in
theorem law_254 {go : Nat → St → Option ORes} (hgo : go = orun code ret E0 0) {v0 v1 v2 : Int64} {v3 : Int32} {z : Int32} {B : Int64} {f : Int32} {D : Int64} {O l h : Int64} {c S m : Nat} {H : AH} (hc : c ≤ 16) (hS : S ≤ 80) (hz : z = 0 ∨ z = 1) (hB : 0 < B.toInt) (hD : 0 ≤ D.toInt) (hDB : D.toInt ≤ B.toInt) (hl : 0 ≤ l.toInt) (hlh : l.toInt ≤ h.toInt) (hhB : h.toInt ≤ B.toInt) : Rsq (go (m + 130) (254, [.val (.long v0), .second, .val (.long v1), .second, .val (.long v2), .second, .val (.int v3), .val (.int z), .val (.long B), .second, .val (.int f), .val (.long D), .second, .val (.long O), .second, .val (.long l), .second, .val (.long h), .second, .val (.double (rt D B)), .second, .val (.int 1), .unset, .unset, .unset, .unset, .unset, .unset, .unset, .unset, .unset, .unset], [], H, c, S)) OneI := by
  have c1 : c + 1 ≤ 24 := by omega
  have s1 : S + 5 ≤ 128 := by omega
  have c0 : c ≤ 24 := by omega
  have s0 : S ≤ 128 := by omega
  have c2 : c + 1 + 1 ≤ 24 := by omega
  have s2 : S + 5 + 5 ≤ 128 := by omega
  have e3 := F3_p (d := l) (b := B) (H := H) hz hl hB
  have e4 := F3_p (d := h) (b := B) (H := H ++ [Sum.inl (0, [Value.long 7, Value.long l, Value.long B, Value.int z, Value.null])]) hz (by omega) hB
  have e := cv_le (rt_ne hl hB) (rt_ne (show 0 ≤ h.toInt by omega) hB) (zval_rt hl hB) (zval_rt (by omega) hB) (Rm_mono hl hB (by omega) hlh hB (Int.le_refl _)) .g
  refine t0_254 hgo ?_
  refine t0_256 hgo ?_
  refine t0_258 hgo ?_
  refine res_of (u0_260 hgo) ?_
  simp only [eq_self, and_self, true_and, and_true, not_true_eq_false, not_false_eq_true, if_true, if_false, reduceIte, Option.bind_some, List.getElem?_cons_zero, List.getElem?_cons_succ, Nat.reduceAdd, Nat.reduceSub, Nat.reduceLT, Nat.reduceLeDiff, Nat.le_refl, Nat.zero_add, Nat.add_zero, List.length_cons, List.length_nil, Int32.reduceLT, Int32.reduceToNatClampNeg, Int32.reduceAdd, Int32.reduceSub, Int32.reduceMul, decide_true, aCall, aRecv, aObj, obj, List.take_succ_cons, List.take_zero, List.drop_succ_cons, List.drop_zero, List.reverse_cons, List.reverse_nil, List.nil_append, List.cons_append, List.append_nil, List.map_cons, List.map_nil, List.sum_cons, List.sum_nil, cat_int, cat_long, cat_double, cat_ref, cat_null, Option.toList_some, Option.toList_none, e3, e4, c1, s1, c2, s2]
  refine t0_263 hgo (by first | rfl | assumption) ?_
  refine t0_265 hgo ?_
  refine t0_267 hgo ?_
  refine t0_269 hgo ?_
  refine res_of (u0_271 hgo) ?_
  simp only [eq_self, and_self, true_and, and_true, not_true_eq_false, not_false_eq_true, if_true, if_false, reduceIte, Option.bind_some, List.getElem?_cons_zero, List.getElem?_cons_succ, Nat.reduceAdd, Nat.reduceSub, Nat.reduceLT, Nat.reduceLeDiff, Nat.le_refl, Nat.zero_add, Nat.add_zero, List.length_cons, List.length_nil, Int32.reduceLT, Int32.reduceToNatClampNeg, Int32.reduceAdd, Int32.reduceSub, Int32.reduceMul, decide_true, aCall, aRecv, aObj, obj, List.take_succ_cons, List.take_zero, List.drop_succ_cons, List.drop_zero, List.reverse_cons, List.reverse_nil, List.nil_append, List.cons_append, List.append_nil, List.map_cons, List.map_nil, List.sum_cons, List.sum_nil, cat_int, cat_long, cat_double, cat_ref, cat_null, Option.toList_some, Option.toList_none, e3, e4, c1, s1, c2, s2]
  refine t0_274 hgo (by first | rfl | assumption) ?_
  refine t0_276 hgo ?_
  refine t0_278f hgo (by decide) ?_
  refine t0_281 hgo ?_
  refine t0_283 hgo ?_
  refine t0_285 hgo ?_
  refine t0_286f hgo e ?_
  refine t0_289 hgo ?_
  refine t0_290 hgo ?_
  refine t0_294 hgo rfl ?_
  exact law_296 hgo (by omega) (by omega) hz hB hD hDB (by omega)
set_option maxRecDepth 65536 in
set_option maxHeartbeats 4000000 in
theorem law_218 {go : Nat → St → Option ORes} (hgo : go = orun code ret E0 0) {v0 v1 v2 : Int64} {v3 : Int32} {z : Int32} {B : Int64} {f : Int32} {D : Int64} {O l h : Int64} {c S m : Nat} {H : AH} (hc : c ≤ 16) (hS : S ≤ 80) (hz : z = 0 ∨ z = 1) (hB : 0 < B.toInt) (hD : 0 ≤ D.toInt) (hDB : D.toInt ≤ B.toInt) (hl : 0 ≤ l.toInt) (hlh : l.toInt ≤ h.toInt) (hhB : h.toInt ≤ B.toInt) : Rsq (go (m + 150) (218, [.val (.long v0), .second, .val (.long v1), .second, .val (.long v2), .second, .val (.int v3), .val (.int z), .val (.long B), .second, .val (.int f), .val (.long D), .second, .val (.long O), .second, .val (.long l), .second, .val (.long h), .second, .val (.double (rt D B)), .second, .val (.int 1), .unset, .unset, .unset, .unset, .unset, .unset, .unset, .unset, .unset, .unset], [], H, c, S)) OneI := by
  by_cases h1 : D < B
  · by_cases h2 : (9007199254740992 : Int64) < B
    · skip
      refine t0_218 hgo ?_
      refine t0_220 hgo ?_
      refine t0_222 hgo ?_
      refine t0_223t hgo ((lw_lt _ _).mpr h1) ?_
      refine t0_226 hgo ?_
      refine t0_228 hgo ?_
      refine t0_231 hgo ?_
      refine t0_232t hgo ((lw_gt _ _).mpr h2) ?_
      exact law_254 hgo (by omega) (by omega) hz hB hD hDB hl hlh hhB
    · have k : B.toInt ≤ 2 ^ 53 := by
        rw [i_lt] at h2
        have : (9007199254740992 : Int64).toInt = 9007199254740992 := by decide
        omega
      have e := cv_lt (rt_ne hD hB) n1 (zval_rt hD hB) z1 (Rm_lt1 hD (i_lt.mp h1) k) .g
      refine t0_218 hgo ?_
      refine t0_220 hgo ?_
      refine t0_222 hgo ?_
      refine t0_223t hgo ((lw_lt _ _).mpr h1) ?_
      refine t0_226 hgo ?_
      refine t0_228 hgo ?_
      refine t0_231 hgo ?_
      refine t0_232f hgo (fun q => h2 ((lw_gt _ _).mp q)) ?_
      refine t0_235 hgo ?_
      refine t0_237f hgo (by decide) ?_
      refine t0_240 hgo ?_
      refine t0_242 hgo ?_
      refine t0_243 hgo ?_
      refine t0_244t hgo e ?_
      refine t0_247 hgo ?_
      refine t0_248 hgo ?_
      refine t0_252 hgo rfl ?_
      exact law_254 hgo (by omega) (by omega) hz hB hD hDB hl hlh hhB
  · skip
    refine t0_218 hgo ?_
    refine t0_220 hgo ?_
    refine t0_222 hgo ?_
    refine t0_223f hgo (fun q => h1 ((lw_lt _ _).mp q)) ?_
    exact law_254 hgo (by omega) (by omega) hz hB hD hDB hl hlh hhB
set_option maxRecDepth 65536 in
set_option maxHeartbeats 4000000 in
theorem law_191 {go : Nat → St → Option ORes} (hgo : go = orun code ret E0 0) {v0 v1 v2 : Int64} {v3 : Int32} {z : Int32} {B : Int64} {f : Int32} {D : Int64} {O l h : Int64} {c S m : Nat} {H : AH} (hc : c ≤ 16) (hS : S ≤ 80) (hz : z = 0 ∨ z = 1) (hB : 0 < B.toInt) (hD : 0 ≤ D.toInt) (hDB : D.toInt ≤ B.toInt) (hl : 0 ≤ l.toInt) (hlh : l.toInt ≤ h.toInt) (hhB : h.toInt ≤ B.toInt) : Rsq (go (m + 170) (191, [.val (.long v0), .second, .val (.long v1), .second, .val (.long v2), .second, .val (.int v3), .val (.int z), .val (.long B), .second, .val (.int f), .val (.long D), .second, .val (.long O), .second, .val (.long l), .second, .val (.long h), .second, .val (.double (rt D B)), .second, .val (.int 1), .unset, .unset, .unset, .unset, .unset, .unset, .unset, .unset, .unset, .unset], [], H, c, S)) OneI := by
  by_cases h1 : D = B
  · have e : cmpValue (FP.dcmp (rt D B) (dcv 1)) .l = 0 := by
      subst h1
      have hv := rt_one hB
      exact cv_eq (x := FP.Core.one64) (by rw [hv]; decide) n1 (by rw [hv]; decide +kernel) z1 rfl .l
    refine t0_191 hgo ?_
    refine t0_193 hgo ?_
    refine t0_195 hgo ?_
    refine t0_196t hgo ((lw_eq _ _).mpr h1) ?_
    refine t0_199 hgo ?_
    refine t0_201f hgo (by decide) ?_
    refine t0_204 hgo ?_
    refine t0_206 hgo ?_
    refine t0_207 hgo ?_
    refine t0_208t hgo e ?_
    refine t0_211 hgo ?_
    refine t0_212 hgo ?_
    refine t0_216 hgo rfl ?_
    exact law_218 hgo hc hS hz hB hD hDB hl hlh hhB
  · skip
    refine t0_191 hgo ?_
    refine t0_193 hgo ?_
    refine t0_195 hgo ?_
    refine t0_196f hgo (fun q => h1 ((lw_eq _ _).mp q)) ?_
    exact law_218 hgo hc hS hz hB hD hDB hl hlh hhB
set_option maxRecDepth 65536 in
set_option maxHeartbeats 4000000 in
theorem law_157 {go : Nat → St → Option ORes} (hgo : go = orun code ret E0 0) {v0 v1 v2 : Int64} {v3 : Int32} {z : Int32} {B : Int64} {f : Int32} {D : Int64} {O l h : Int64} {c S m : Nat} {H : AH} (hc : c ≤ 16) (hS : S ≤ 80) (hz : z = 0 ∨ z = 1) (hB : 0 < B.toInt) (hD : 0 ≤ D.toInt) (hDB : D.toInt ≤ B.toInt) (hl : 0 ≤ l.toInt) (hlh : l.toInt ≤ h.toInt) (hhB : h.toInt ≤ B.toInt) : Rsq (go (m + 190) (157, [.val (.long v0), .second, .val (.long v1), .second, .val (.long v2), .second, .val (.int v3), .val (.int z), .val (.long B), .second, .val (.int f), .val (.long D), .second, .val (.long O), .second, .val (.long l), .second, .val (.long h), .second, .val (.double (rt D B)), .second, .val (.int 1), .unset, .unset, .unset, .unset, .unset, .unset, .unset, .unset, .unset, .unset], [], H, c, S)) OneI := by
  by_cases h1 : D = 0
  · have e : cmpValue (FP.dcmp (rt D B) (dcv 0)) .l = 0 := cv_eq (rt_ne hD hB) n0 (zval_rt hD hB) z0 (by rw [h1]; exact Rm_zero hB) .l
    refine t0_157 hgo ?_
    refine t0_159 hgo ?_
    refine t0_160 hgo ?_
    refine t0_161t hgo ((lw_eq _ _).mpr h1) ?_
    refine t0_164 hgo ?_
    refine t0_165 hgo ?_
    refine t0_169 hgo ?_
    refine t0_171 hgo ?_
    refine t0_172 hgo ?_
    refine t0_173t hgo e ?_
    refine t0_176 hgo ?_
    refine t0_177 hgo ?_
    refine t0_181t hgo (by decide) ?_
    refine t0_184 hgo ?_
    refine t0_185 hgo ?_
    refine t0_189 hgo rfl ?_
    exact law_191 hgo hc hS hz hB hD hDB hl hlh hhB
  · have k : 0 < D.toInt := by
      rcases Int.lt_or_eq_of_le hD with u | u
      · exact u
      · exact absurd (Int64.toInt_inj.mp (u.symm.trans (by decide))) h1
    have e : ¬ cmpValue (FP.dcmp (rt D B) (dcv 0)) .l = 0 := cv_ne (rt_ne hD hB) n0 (zval_rt hD hB) z0 (by have := Rm_pos k hB; omega) .l
    refine t0_157 hgo ?_
    refine t0_159 hgo ?_
    refine t0_160 hgo ?_
    refine t0_161f hgo (fun q => h1 ((lw_eq _ _).mp q)) ?_
    refine t0_168 hgo ?_
    refine t0_169 hgo ?_
    refine t0_171 hgo ?_
    refine t0_172 hgo ?_
    refine t0_173f hgo e ?_
    refine t0_180 hgo ?_
    refine t0_181t hgo (by decide) ?_
    refine t0_184 hgo ?_
    refine t0_185 hgo ?_
    refine t0_189 hgo rfl ?_
    exact law_191 hgo hc hS hz hB hD hDB hl hlh hhB
set_option maxRecDepth 65536 in
set_option maxHeartbeats 4000000 in
theorem law_131 {go : Nat → St → Option ORes} (hgo : go = orun code ret E0 0) {v0 v1 v2 : Int64} {v3 : Int32} {z : Int32} {B : Int64} {f : Int32} {D : Int64} {O l h : Int64} {c S m : Nat} {H : AH} (hc : c ≤ 16) (hS : S ≤ 80) (hz : z = 0 ∨ z = 1) (hB : 0 < B.toInt) (hD : 0 ≤ D.toInt) (hDB : D.toInt ≤ B.toInt) (hl : 0 ≤ l.toInt) (hlh : l.toInt ≤ h.toInt) (hhB : h.toInt ≤ B.toInt) : Rsq (go (m + 205) (131, [.val (.long v0), .second, .val (.long v1), .second, .val (.long v2), .second, .val (.int v3), .val (.int z), .val (.long B), .second, .val (.int f), .val (.long D), .second, .val (.long O), .second, .val (.long l), .second, .val (.long h), .second, .val (.double (rt D B)), .second, .unset, .unset, .unset, .unset, .unset, .unset, .unset, .unset, .unset, .unset, .unset], [], H, c, S)) OneI := by
  have e1 := cv_le n0 (rt_ne hD hB) z0 (zval_rt hD hB) (Nat.zero_le _) .g
  have e2 := cv_le (rt_ne hD hB) n1 (zval_rt hD hB) z1 (Rm_le1 hD hB hDB) .g
  refine t0_131 hgo ?_
  refine t0_132 hgo ?_
  refine t0_134 hgo ?_
  refine t0_135f hgo e1 ?_
  refine t0_138 hgo ?_
  refine t0_140 hgo ?_
  refine t0_141 hgo ?_
  refine t0_142f hgo e2 ?_
  refine t0_145 hgo ?_
  refine t0_146 hgo ?_
  refine t0_150 hgo rfl ?_
  refine t0_152 hgo ?_
  refine t0_154f hgo (by decide) ?_
  exact law_157 hgo hc hS hz hB hD hDB hl hlh hhB
set_option maxRecDepth 65536 in
set_option maxHeartbeats 4000000 in
theorem law_91 {go : Nat → St → Option ORes} (hgo : go = orun code ret E0 0) {v0 v1 v2 : Int64} {v3 : Int32} {z : Int32} {B : Int64} {f : Int32} {D : Int64} {c S m : Nat} {H : AH} (hc : c ≤ 15) (hS : S ≤ 75) (hz : z = 0 ∨ z = 1) (hB : 0 < B.toInt) (hD : 0 ≤ D.toInt) (hDB : D.toInt ≤ B.toInt) : Rsq (go (m + 230) (91, [.val (.long v0), .second, .val (.long v1), .second, .val (.long v2), .second, .val (.int v3), .val (.int z), .val (.long B), .second, .val (.int f), .val (.long D), .second, .unset, .unset, .unset, .unset, .unset, .unset, .unset, .unset, .unset, .unset, .unset, .unset, .unset, .unset, .unset, .unset, .unset, .unset, .unset], [], H, c, S)) OneI := by
  have c1 : c + 1 ≤ 24 := by omega
  have s1 : S + 5 ≤ 128 := by omega
  have c0 : c ≤ 24 := by omega
  have s0 : S ≤ 128 := by omega
  have ho := rem_ok (land_nn v2) hB
  have e1 := F1_eq D ((v2 &&& 9223372036854775807) % B) H
  have e2 := F2_eq D ((v2 &&& 9223372036854775807) % B) H
  have hm : 0 ≤ (own_min D ((v2 &&& 9223372036854775807) % B)).toInt ∧ (own_min D ((v2 &&& 9223372036854775807) % B)).toInt ≤ (own_max D ((v2 &&& 9223372036854775807) % B)).toInt ∧ (own_max D ((v2 &&& 9223372036854775807) % B)).toInt ≤ B.toInt := by
    unfold own_min own_max
    by_cases u1 : (v2 &&& 9223372036854775807) % B < D
    · have k1 := i_lt.mp u1
      rw [if_pos u1, if_neg (fun u2 => by have := i_lt.mp u2; omega)]; omega
    · have k1 : ¬ ((v2 &&& 9223372036854775807) % B).toInt < D.toInt := fun k => u1 (i_lt.mpr k)
      rw [if_neg u1]
      by_cases u2 : D < (v2 &&& 9223372036854775807) % B
      · have := i_lt.mp u2
        rw [if_pos u2]; omega
      · rw [if_neg u2]; omega
  have e3 := F3_p (d := D) (b := B) (H := H) hz hD hB
  refine t0_91 hgo ?_
  refine t0_93 hgo ?_
  refine t0_96 hgo ?_
  refine t0_97 hgo ?_
  refine t0_99 hgo (nz hB) ?_
  refine t0_100 hgo rfl ?_
  refine t0_102 hgo ?_
  refine t0_104 hgo ?_
  refine res_of (u0_106 hgo) ?_
  simp only [eq_self, and_self, true_and, and_true, not_true_eq_false, not_false_eq_true, if_true, if_false, reduceIte, Option.bind_some, List.getElem?_cons_zero, List.getElem?_cons_succ, Nat.reduceAdd, Nat.reduceSub, Nat.reduceLT, Nat.reduceLeDiff, Nat.le_refl, Nat.zero_add, Nat.add_zero, List.length_cons, List.length_nil, Int32.reduceLT, Int32.reduceToNatClampNeg, Int32.reduceAdd, Int32.reduceSub, Int32.reduceMul, decide_true, aCall, aRecv, aObj, obj, List.take_succ_cons, List.take_zero, List.drop_succ_cons, List.drop_zero, List.reverse_cons, List.reverse_nil, List.nil_append, List.cons_append, List.append_nil, List.map_cons, List.map_nil, List.sum_cons, List.sum_nil, cat_int, cat_long, cat_double, cat_ref, cat_null, Option.toList_some, Option.toList_none, e1, e2, e3, c1, s1, c0, s0]
  refine t0_109 hgo rfl ?_
  refine t0_111 hgo ?_
  refine t0_113 hgo ?_
  refine res_of (u0_115 hgo) ?_
  simp only [eq_self, and_self, true_and, and_true, not_true_eq_false, not_false_eq_true, if_true, if_false, reduceIte, Option.bind_some, List.getElem?_cons_zero, List.getElem?_cons_succ, Nat.reduceAdd, Nat.reduceSub, Nat.reduceLT, Nat.reduceLeDiff, Nat.le_refl, Nat.zero_add, Nat.add_zero, List.length_cons, List.length_nil, Int32.reduceLT, Int32.reduceToNatClampNeg, Int32.reduceAdd, Int32.reduceSub, Int32.reduceMul, decide_true, aCall, aRecv, aObj, obj, List.take_succ_cons, List.take_zero, List.drop_succ_cons, List.drop_zero, List.reverse_cons, List.reverse_nil, List.nil_append, List.cons_append, List.append_nil, List.map_cons, List.map_nil, List.sum_cons, List.sum_nil, cat_int, cat_long, cat_double, cat_ref, cat_null, Option.toList_some, Option.toList_none, e1, e2, e3, c1, s1, c0, s0]
  refine t0_118 hgo rfl ?_
  refine t0_120 hgo ?_
  refine t0_122 hgo ?_
  refine t0_124 hgo ?_
  refine res_of (u0_126 hgo) ?_
  simp only [eq_self, and_self, true_and, and_true, not_true_eq_false, not_false_eq_true, if_true, if_false, reduceIte, Option.bind_some, List.getElem?_cons_zero, List.getElem?_cons_succ, Nat.reduceAdd, Nat.reduceSub, Nat.reduceLT, Nat.reduceLeDiff, Nat.le_refl, Nat.zero_add, Nat.add_zero, List.length_cons, List.length_nil, Int32.reduceLT, Int32.reduceToNatClampNeg, Int32.reduceAdd, Int32.reduceSub, Int32.reduceMul, decide_true, aCall, aRecv, aObj, obj, List.take_succ_cons, List.take_zero, List.drop_succ_cons, List.drop_zero, List.reverse_cons, List.reverse_nil, List.nil_append, List.cons_append, List.append_nil, List.map_cons, List.map_nil, List.sum_cons, List.sum_nil, cat_int, cat_long, cat_double, cat_ref, cat_null, Option.toList_some, Option.toList_none, e1, e2, e3, c1, s1, c0, s0]
  refine t0_129 hgo (by first | rfl | assumption) ?_
  exact law_131 hgo (by omega) (by omega) hz hB hD hDB hm.1 hm.2.1 hm.2.2
set_option maxRecDepth 65536 in
set_option maxHeartbeats 4000000 in
theorem law_57 {go : Nat → St → Option ORes} (hgo : go = orun code ret E0 0) {v0 v1 v2 : Int64} {v3 : Int32} {z : Int32} {B : Int64} {c S m : Nat} {H : AH} (hc : c ≤ 15) (hS : S ≤ 75) (hz : z = 0 ∨ z = 1) (hB : 0 < B.toInt) : Rsq (go (m + 250) (57, [.val (.long v0), .second, .val (.long v1), .second, .val (.long v2), .second, .val (.int v3), .val (.int z), .val (.long B), .second, .unset, .unset, .unset, .unset, .unset, .unset, .unset, .unset, .unset, .unset, .unset, .unset, .unset, .unset, .unset, .unset, .unset, .unset, .unset, .unset, .unset, .unset], [], H, c, S)) OneI := by
  have ho := rem_ok (land_nn v0) hB
  by_cases h1 : (v3 &&& 4) = 0
  · skip
    refine t0_57 hgo ?_
    refine t0_59 hgo ?_
    refine t0_60 hgo ?_
    refine t0_61t hgo h1 ?_
    refine t0_68 hgo ?_
    refine t0_69 hgo rfl ?_
    refine t0_71 hgo ?_
    refine t0_73t hgo (by decide) ?_
    refine t0_81 hgo ?_
    refine t0_82 hgo ?_
    refine t0_85 hgo ?_
    refine t0_86 hgo ?_
    refine t0_88 hgo (nz hB) ?_
    refine t0_89 hgo rfl ?_
    exact law_91 hgo hc hS hz hB ho.1 (by omega)
  · skip
    refine t0_57 hgo ?_
    refine t0_59 hgo ?_
    refine t0_60 hgo ?_
    refine t0_61f hgo h1 ?_
    refine t0_64 hgo ?_
    refine t0_65 hgo ?_
    refine t0_69 hgo rfl ?_
    refine t0_71 hgo ?_
    refine t0_73f hgo (by decide) ?_
    refine t0_76 hgo ?_
    refine t0_78 hgo ?_
    refine t0_89 hgo rfl ?_
    exact law_91 hgo hc hS hz hB (by omega) (Int.le_refl _)
set_option maxRecDepth 65536 in
set_option maxHeartbeats 4000000 in
theorem law_32 {go : Nat → St → Option ORes} (hgo : go = orun code ret E0 0) {v0 v1 v2 : Int64} {v3 : Int32} {z : Int32} {B : Int64} {c S m : Nat} {H : AH} (hc : c ≤ 15) (hS : S ≤ 75) (hz : z = 0 ∨ z = 1) (hB0 : 0 ≤ B.toInt) : Rsq (go (m + 265) (32, [.val (.long v0), .second, .val (.long v1), .second, .val (.long v2), .second, .val (.int v3), .val (.int z), .val (.long B), .second, .unset, .unset, .unset, .unset, .unset, .unset, .unset, .unset, .unset, .unset, .unset, .unset, .unset, .unset, .unset, .unset, .unset, .unset, .unset, .unset, .unset, .unset], [], H, c, S)) OneI := by
  have c1 : c + 1 ≤ 24 := by omega
  have s1 : S + 5 ≤ 128 := by omega
  have c0 : c ≤ 24 := by omega
  have s0 : S ≤ 128 := by omega
  by_cases h1 : B = 0
  · have e3 := F3_z (d := v0) (H := H) hz
    have e : cmpValue (FP.dcmp (dcv 0) (dcv 0)) .l = 0 := cv_eq n0 n0 z0 z0 rfl .l
    refine t0_32 hgo ?_
    refine t0_34 hgo ?_
    refine t0_35 hgo ?_
    refine t0_36t hgo ((lw_eq _ _).mpr h1) ?_
    refine t0_39 hgo ?_
    refine t0_40 hgo ?_
    refine t0_41 hgo ?_
    refine res_of (u0_43 hgo) ?_
    simp only [eq_self, and_self, true_and, and_true, not_true_eq_false, not_false_eq_true, if_true, if_false, reduceIte, Option.bind_some, List.getElem?_cons_zero, List.getElem?_cons_succ, Nat.reduceAdd, Nat.reduceSub, Nat.reduceLT, Nat.reduceLeDiff, Nat.le_refl, Nat.zero_add, Nat.add_zero, List.length_cons, List.length_nil, Int32.reduceLT, Int32.reduceToNatClampNeg, Int32.reduceAdd, Int32.reduceSub, Int32.reduceMul, decide_true, aCall, aRecv, aObj, obj, List.take_succ_cons, List.take_zero, List.drop_succ_cons, List.drop_zero, List.reverse_cons, List.reverse_nil, List.nil_append, List.cons_append, List.append_nil, List.map_cons, List.map_nil, List.sum_cons, List.sum_nil, cat_int, cat_long, cat_double, cat_ref, cat_null, Option.toList_some, Option.toList_none, e3, c1, s1]
    refine t0_46 hgo ?_
    refine t0_47 hgo ?_
    refine t0_48t hgo e ?_
    refine t0_51 hgo ?_
    refine t0_52 hgo ?_
    refine t0_56 hgo ?_
    exact one_b
  · have hB : 0 < B.toInt := by
      rcases Int.lt_or_eq_of_le hB0 with u | u
      · exact u
      · exact absurd (Int64.toInt_inj.mp (u.symm.trans (by decide))) h1
    refine t0_32 hgo ?_
    refine t0_34 hgo ?_
    refine t0_35 hgo ?_
    refine t0_36f hgo (fun q => h1 ((lw_eq _ _).mp q)) ?_
    exact law_57 hgo hc hS hz hB
set_option maxRecDepth 65536 in
set_option maxHeartbeats 4000000 in
theorem law_15 {go : Nat → St → Option ORes} (hgo : go = orun code ret E0 0) {v0 v1 v2 : Int64} {v3 : Int32} {z : Int32} {c S m : Nat} {H : AH} (hc : c ≤ 15) (hS : S ≤ 75) (hz : z = 0 ∨ z = 1) : Rsq (go (m + 280) (15, [.val (.long v0), .second, .val (.long v1), .second, .val (.long v2), .second, .val (.int v3), .val (.int z), .unset, .unset, .unset, .unset, .unset, .unset, .unset, .unset, .unset, .unset, .unset, .unset, .unset, .unset, .unset, .unset, .unset, .unset, .unset, .unset, .unset, .unset, .unset, .unset], [], H, c, S)) OneI := by
  by_cases h1 : (v3 &&& 3) = 0
  · skip
    refine t0_15 hgo ?_
    refine t0_16 hgo ?_
    refine t0_19 hgo ?_
    refine t0_20 hgo rfl ?_
    refine t0_22 hgo ?_
    refine t0_24 hgo ?_
    refine t0_25 hgo ?_
    refine t0_26t hgo h1 ?_
    refine t0_29 hgo ?_
    refine t0_30 hgo rfl ?_
    exact law_32 hgo hc hS hz (by decide)
  · skip
    refine t0_15 hgo ?_
    refine t0_16 hgo ?_
    refine t0_19 hgo ?_
    refine t0_20 hgo rfl ?_
    refine t0_22 hgo ?_
    refine t0_24 hgo ?_
    refine t0_25 hgo ?_
    refine t0_26f hgo h1 ?_
    exact law_32 hgo hc hS hz (land_nn v1)
set_option maxRecDepth 65536 in
set_option maxHeartbeats 4000000 in
theorem law_val (v0 v1 v2 : Int64) (v3 : Int32) : ∃ H', F0 [.long v0, .long v1, .long v2, .int v3] [] = some (some (.int 1), H') := by
  refine one_of f0_in fun go hgo => ?_
  by_cases h1 : (v3 &&& 8) = 0
  · skip
    refine t0_0 hgo ?_
    refine t0_2 hgo ?_
    refine t0_4 hgo ?_
    refine t0_5t hgo h1 ?_
    refine t0_12 hgo ?_
    refine t0_13 hgo rfl ?_
    exact law_15 hgo (by decide) (by decide) (Or.inl rfl)
  · skip
    refine t0_0 hgo ?_
    refine t0_2 hgo ?_
    refine t0_4 hgo ?_
    refine t0_5f hgo h1 ?_
    refine t0_8 hgo ?_
    refine t0_9 hgo ?_
    refine t0_13 hgo rfl ?_
    exact law_15 hgo (by decide) (by decide) (Or.inr rfl)
set_option maxRecDepth 65536 in
set_option maxHeartbeats 40000000 in
theorem comes_1 {Post : Tables → Env → Array Value → State → Outcome → State → Prop} (hpost : ∀ tb e args s v u, (limb_1_1.after args s (.returned v) u = true ∧ limb_1_2.after args s (.returned v) u = true ∧ True) → FrameEnd s (.returned v) u (Jvm.fieldLocs frame_1_writes args s ++ Jvm.arrayLocs frame_1_arrays args s ++ Jvm.staticLocs frame_1_statics s) 24 128 → Post tb e args s (.returned v) u) :
    ArmFor flags0 classFile x code maxLocals ret World_1 tables_1 room_1 Calls_1 rest_1 Pre_1 Post := by
  intro l hfl _ _ p e ha hc hk s m args below hf hA hF happ hP
  obtain ⟨hcalls, hrest, hpre⟩ := hP
  obtain ⟨-, -, -, hnamed, -, -, -, hat⟩ := (Spec.applies_iff hf).mp happ
  obtain ⟨hg, hn⟩ := and_e (Cond.before_iff.mp (show (Jvm.Cond.and given_1 narrow_1).before args s = true from hpre))
  obtain ⟨g0, g1⟩ := and_e hg
  obtain ⟨i1, g2⟩ := and_e g1
  obtain ⟨i2, g3⟩ := and_e g2
  obtain ⟨i3, g4⟩ := and_e g3
  obtain ⟨w0, w1, w2, w3, rfl⟩ : ∃ w0 w1 w2 w3 : Value, args = #[w0, w1, w2, w3] := by
    have hs : args.size = 4 := by simpa [Cond.value, given_1] using g0
    obtain ⟨L⟩ := args
    match L, hs with
    | [w0, w1, w2, w3], _ => exact ⟨w0, w1, w2, w3, rfl⟩
  have hw := fun d (hd : d ∈ tables_1) => atoms_spec (ws := Jvm.Cond.code x code maxLocals ret :: tables_1) hat d (List.mem_cons_of_mem _ hd)
  obtain ⟨v0, e0⟩ := isL_v i1
  obtain rfl : w0 = (.long v0) := Option.some.inj e0
  obtain ⟨v1, e1⟩ := isL_v i2
  obtain rfl : w1 = (.long v1) := Option.some.inj e1
  obtain ⟨v2, e2⟩ := isL_v i3
  obtain rfl : w2 = (.long v2) := Option.some.inj e2
  obtain ⟨v3, e3⟩ := is_v g4
  obtain rfl : w3 = (.int v3) := Option.some.inj e3
  obtain ⟨H', hv⟩ := law_val v0 v1 v2 v3
  obtain ⟨n, o, h1, h2, h3, _, L, rfl, ⟨rfl, -, N⟩, hq⟩ := says0 l (Z := s) (σ := fun k => s.heap.size + k) (n0 := s.heap.size) sg_start hw _ _ _ s.heap hv rep_start p e ha hc hk s m _ below hf ((Spec.applies_iff_loose hf).mp happ).1 ⟨rfl, State.Warmed39.refl s, rfl⟩ trivial
  refine ⟨n, _, h1, h2, h3, hpost _ _ _ _ _ _ ⟨Cond.after_iff.mpr rfl, Cond.after_iff.mpr (eq_i res_at (Term.int_eval (1)) rfl), trivial⟩ ⟨hq.1, hq.2.1, (hq.2.2.sift fun y hy => Or.inr (N y hy)).mono (by decide) (by decide)⟩⟩
theorem main_1_1 : Claimed_1_1 := comes_1 fun _ _ _ _ _ _ h hF => ⟨h.1, hF⟩
theorem main_1_2 : Claimed_1_2 := comes_1 fun _ _ _ _ _ _ h hF => ⟨h.2.1, hF⟩
end Jvm.Pilot.@@N@@
namespace Jvm.Pilot.@@N@@
open Jvm Jvm.ClassFile Sem Op Lib Jvm.Free Jvm.Stand Jvm.Pilot.@@N@@.Jvm.D
/-! MADE BY PROGRAM (witnessworld.py) out of the Statement's table words and the real class files: 11 classes; the members and pool entries that the words name. The judged class is class 1, her method 2. -/
namespace start1
open Jvm.ClassFile
def u (s : String) : CpInfo := .utf8 (stringToUtf16 s)
/-- a pool by its gaps: so many unusable entries, then the entry; so many at the end -/
def gap : Nat → List CpInfo → List CpInfo
  | 0, r => r
  | n + 1, r => .unusable :: gap n r
def poolList (es : List (Nat × CpInfo)) (last : Nat) : List CpInfo := es.foldr (fun e r => gap e.1 (e.2 :: r)) (gap last [])
def pool (es : List (Nat × CpInfo)) (last : Nat) : Array CpInfo := ⟨poolList es last⟩
def fileOf (pool : Array CpInfo) (this : Nat) (attrs : Array Attribute := #[]) (ms : Array MethodInfo := #[]) (fl : Nat := 33) (sup : Nat := 0) (ifs : Array Nat := #[]) (fds : Array FieldInfo := #[]) : ClassFile where
  minorVersion := 0
  majorVersion := 65
  constantPool := pool
  accessFlags := fl
  thisClass := this
  superClass := sup
  interfaces := ifs
  fields := fds
  methods := ms
  attributes := attrs
def plain (name : String) (sup : Option ClassId) : Class where
  name := name
  kind := .ordinary
  loader := none
  accessFlags := 33
  super := sup
  interfaces := #[]
  cf := none
  fields := #[]
  methods := #[]
  instanceTypes := #[]
  staticTypes := #[]
  resolved := #[]
  callSites := []
  init := .initialized
  statics := none
  mirror := none

def pool0 : Array CpInfo := pool [(5, u "<init>"), (0, u "()V"), (1, .class_ 10), (1, u "java/lang/Object")] 113

def k0c0 : Code := { maxStack := 0, maxLocals := 1, code := object_method_1_code, exceptionTable := #[], attributes := #[] }
def k0m0 : Method := { name := "<init>", desc := "()V", sig := { parameters := [], returnType := none }, accessFlags := 1, code := some k0c0 }
/-- java/lang/Object -/
def k0 : Class := { plain "java/lang/Object" none with
  accessFlags := 33
  interfaces := #[]
  cf := some (fileOf pool0 8 #[] #[{ accessFlags := 1, nameIndex := 5, descriptorIndex := 6, attributes := #[] }] 33 0 #[] #[])
  fields := #[]
  methods := #[k0m0]
  instanceTypes := #[]
  staticTypes := #[]
  resolved := Array.replicate 124 none
  statics := none }

def pool1 : Array CpInfo := pool [(2, .class_ 4), (1, u "java/lang/Object"), (0, u "<init>"), (0, u "()V"), (0, .class_ 8), (0, u "com/example/keeplast/keeplast/Dirt"), (0, .long 7), (1, .methodref 7 12), (0, .nameAndType 5 13), (0, u "(JJJZLcom/example/keeplast/keeplast/Dirt$Prefix;)V"), (0, .methodref 7 15), (0, .nameAndType 16 17), (0, u "ratio"), (0, u "()D"), (2, .long 9223372036854775807), (1, .methodref 23 24), (0, .class_ 25), (0, .nameAndType 16 26), (0, u "com/example/keeplast/keeplast/DirtRatioPinLaw"), (0, u "(JJZ)D"), (0, .methodref 28 29), (0, .class_ 30), (0, .nameAndType 31 32), (0, u "java/lang/Math"), (0, u "min"), (0, u "(JJ)J"), (0, .methodref 28 34), (0, .nameAndType 35 32), (0, u "max"), (0, .long 9007199254740992), (1, .long 4611686018427387903), (1, .long 2), (1, .double 4602678819172646912), (3, u "law"), (0, u "(JJJI)Z")] 7

def k1m0 : Method := { name := "<init>", desc := "()V", sig := { parameters := [], returnType := none }, accessFlags := 2, code := none }
def k1c1 : Code := { maxStack := 10, maxLocals := 5, code := method_2_code, exceptionTable := #[], attributes := #[] }
def k1m1 : Method := { name := "ratio", desc := "(JJZ)D", sig := { parameters := [.long, .long, .boolean], returnType := some .double }, accessFlags := 10, code := some k1c1 }
def k1c2 : Code := { maxStack := 6, maxLocals := 32, code := code, exceptionTable := #[], attributes := #[] }
def k1m2 : Method := { name := "law", desc := "(JJJI)Z", sig := { parameters := [.long, .long, .long, .int], returnType := some .boolean }, accessFlags := 9, code := some k1c2 }
/-- com/example/keeplast/keeplast/DirtRatioPinLaw -/
def k1 : Class := { plain "com/example/keeplast/keeplast/DirtRatioPinLaw" (some 0) with
  accessFlags := 49
  interfaces := #[]
  cf := some (fileOf pool1 23 #[] #[{ accessFlags := 2, nameIndex := 5, descriptorIndex := 6, attributes := #[] }, { accessFlags := 10, nameIndex := 16, descriptorIndex := 26, attributes := #[] }, { accessFlags := 9, nameIndex := 46, descriptorIndex := 47, attributes := #[] }] 49 2 #[] #[])
  fields := #[]
  methods := #[k1m0, k1m1, k1m2]
  instanceTypes := #[]
  staticTypes := #[]
  resolved := Array.replicate 55 none
  statics := none }

def pool2 : Array CpInfo := pool [(1, .class_ 2), (0, u "java/lang/Math"), (1, .class_ 6), (1, u "java/lang/Object"), (0, u "<init>"), (0, u "()V"), (89, .class_ 100), (1, u "java/lang/Math$RandomNumberGeneratorHolder"), (20, u "(JJ)J"), (50, u "negativeZeroFloatBits"), (0, u "J"), (2, u "negativeZeroDoubleBits"), (21, u "max"), (2, u "min"), (43, u "$assertionsDisabled"), (0, u "Z"), (91, u "twoToTheDoubleScaleDown"), (0, u "D"), (4, u "twoToTheDoubleScaleUp"), (9, u "E"), (3, u "PI"), (2, u "TAU"), (2, u "DEGREES_TO_RADIANS"), (0, u "RADIANS_TO_DEGREES")] 94

def k2m0 : Method := { name := "<init>", desc := "()V", sig := { parameters := [], returnType := none }, accessFlags := 2, code := none }
def k2c1 : Code := { maxStack := 4, maxLocals := 4, code := jdk_29_method_66_code, exceptionTable := #[], attributes := #[] }
def k2m1 : Method := { name := "max", desc := "(JJ)J", sig := { parameters := [.long, .long], returnType := some .long }, accessFlags := 9, code := some k2c1 }
def k2c2 : Code := { maxStack := 4, maxLocals := 4, code := jdk_29_method_70_code, exceptionTable := #[], attributes := #[] }
def k2m2 : Method := { name := "min", desc := "(JJ)J", sig := { parameters := [.long, .long], returnType := some .long }, accessFlags := 9, code := some k2c2 }
/-- java/lang/Math -/
def k2 : Class := { plain "java/lang/Math" (some 0) with
  accessFlags := 49
  interfaces := #[]
  cf := some (fileOf pool2 1 #[.nestMembers #[98]] #[{ accessFlags := 2, nameIndex := 7, descriptorIndex := 8, attributes := #[] }, { accessFlags := 9, nameIndex := 198, descriptorIndex := 121, attributes := #[] }, { accessFlags := 9, nameIndex := 201, descriptorIndex := 121, attributes := #[] }] 49 4 #[] #[{ accessFlags := 25, nameIndex := 354, descriptorIndex := 339, attributes := #[] }, { accessFlags := 25, nameIndex := 358, descriptorIndex := 339, attributes := #[] }, { accessFlags := 25, nameIndex := 361, descriptorIndex := 339, attributes := #[] }, { accessFlags := 26, nameIndex := 364, descriptorIndex := 339, attributes := #[] }, { accessFlags := 26, nameIndex := 365, descriptorIndex := 339, attributes := #[] }, { accessFlags := 26, nameIndex := 172, descriptorIndex := 173, attributes := #[] }, { accessFlags := 26, nameIndex := 176, descriptorIndex := 173, attributes := #[] }, { accessFlags := 8, nameIndex := 344, descriptorIndex := 339, attributes := #[] }, { accessFlags := 8, nameIndex := 338, descriptorIndex := 339, attributes := #[] }, { accessFlags := 4120, nameIndex := 245, descriptorIndex := 246, attributes := #[] }])
  fields := #[{ name := "E", type := .double, accessFlags := 25, slot := 0, constantValue := 0 }, { name := "PI", type := .double, accessFlags := 25, slot := 1, constantValue := 0 }, { name := "TAU", type := .double, accessFlags := 25, slot := 2, constantValue := 0 }, { name := "DEGREES_TO_RADIANS", type := .double, accessFlags := 26, slot := 3, constantValue := 0 }, { name := "RADIANS_TO_DEGREES", type := .double, accessFlags := 26, slot := 4, constantValue := 0 }, { name := "negativeZeroFloatBits", type := .long, accessFlags := 26, slot := 5, constantValue := 0 }, { name := "negativeZeroDoubleBits", type := .long, accessFlags := 26, slot := 6, constantValue := 0 }, { name := "twoToTheDoubleScaleUp", type := .double, accessFlags := 8, slot := 7, constantValue := 0 }, { name := "twoToTheDoubleScaleDown", type := .double, accessFlags := 8, slot := 8, constantValue := 0 }, { name := "$assertionsDisabled", type := .boolean, accessFlags := 4120, slot := 9, constantValue := 0 }]
  methods := #[k2m0, k2m1, k2m2]
  instanceTypes := #[]
  staticTypes := #[.double, .double, .double, .double, .double, .long, .long, .double, .double, .boolean]
  resolved := Array.replicate 460 none
  statics := none }

def pool3 : Array CpInfo := pool [(1, .methodref 2 3), (0, .class_ 4), (0, .nameAndType 5 6), (0, u "java/lang/Object"), (0, u "<init>"), (0, u "()V"), (0, .class_ 8), (0, u "java/lang/Record")] 13

def k3c0 : Code := { maxStack := 1, maxLocals := 1, code := jdk_30_method_1_code, exceptionTable := #[], attributes := #[] }
def k3m0 : Method := { name := "<init>", desc := "()V", sig := { parameters := [], returnType := none }, accessFlags := 4, code := some k3c0 }
/-- java/lang/Record -/
def k3 : Class := { plain "java/lang/Record" (some 0) with
  accessFlags := 1057
  interfaces := #[]
  cf := some (fileOf pool3 7 #[] #[{ accessFlags := 4, nameIndex := 5, descriptorIndex := 6, attributes := #[] }] 1057 2 #[] #[])
  fields := #[]
  methods := #[k3m0]
  instanceTypes := #[]
  staticTypes := #[]
  resolved := Array.replicate 22 none
  statics := none }

def pool4 : Array CpInfo := pool [(1, .methodref 2 3), (0, .class_ 4), (0, .nameAndType 5 6), (0, u "java/lang/Record"), (0, u "<init>"), (0, u "()V"), (0, .fieldref 8 9), (0, .class_ 10), (0, .nameAndType 11 12), (0, u "com/example/keeplast/keeplast/Dirt"), (0, u "cleanedOffset"), (0, u "J"), (0, .fieldref 8 14), (0, .nameAndType 15 12), (0, u "dirtyBytes"), (0, .fieldref 8 17), (0, .nameAndType 18 12), (0, u "bytes"), (0, .fieldref 8 20), (0, .nameAndType 21 22), (0, u "cleanable"), (0, u "Z"), (0, .fieldref 8 24), (0, .nameAndType 25 26), (0, u "prefix"), (0, u "Lcom/example/keeplast/keeplast/Dirt$Prefix;"), (65, .class_ 94), (1, u "com/example/keeplast/keeplast/Dirt$Prefix"), (3, u "(JJJZLcom/example/keeplast/keeplast/Dirt$Prefix;)V"), (62, u "ATTEMPTS"), (0, u "I"), (5, u "ratio"), (0, u "()D")] 42

def k4c0 : Code := { maxStack := 3, maxLocals := 9, code := prog_2_method_1_code, exceptionTable := #[], attributes := #[] }
def k4m0 : Method := { name := "<init>", desc := "(JJJZLcom/example/keeplast/keeplast/Dirt$Prefix;)V", sig := { parameters := [.long, .long, .long, .boolean, (.object "com/example/keeplast/keeplast/Dirt$Prefix")], returnType := none }, accessFlags := 0, code := some k4c0 }
def k4c1 : Code := { maxStack := 4, maxLocals := 1, code := prog_2_method_2_code, exceptionTable := #[], attributes := #[] }
def k4m1 : Method := { name := "ratio", desc := "()D", sig := { parameters := [], returnType := some .double }, accessFlags := 0, code := some k4c1 }
/-- com/example/keeplast/keeplast/Dirt -/
def k4 : Class := { plain "com/example/keeplast/keeplast/Dirt" (some 3) with
  accessFlags := 48
  interfaces := #[]
  cf := some (fileOf pool4 8 #[.nestMembers #[92]] #[{ accessFlags := 0, nameIndex := 5, descriptorIndex := 98, attributes := #[] }, { accessFlags := 0, nameIndex := 168, descriptorIndex := 169, attributes := #[] }] 48 2 #[] #[{ accessFlags := 18, nameIndex := 11, descriptorIndex := 12, attributes := #[] }, { accessFlags := 18, nameIndex := 15, descriptorIndex := 12, attributes := #[] }, { accessFlags := 18, nameIndex := 18, descriptorIndex := 12, attributes := #[] }, { accessFlags := 18, nameIndex := 21, descriptorIndex := 22, attributes := #[] }, { accessFlags := 18, nameIndex := 25, descriptorIndex := 26, attributes := #[] }, { accessFlags := 26, nameIndex := 161, descriptorIndex := 162, attributes := #[] }])
  fields := #[{ name := "cleanedOffset", type := .long, accessFlags := 18, slot := 0, constantValue := 0 }, { name := "dirtyBytes", type := .long, accessFlags := 18, slot := 1, constantValue := 0 }, { name := "bytes", type := .long, accessFlags := 18, slot := 2, constantValue := 0 }, { name := "cleanable", type := .boolean, accessFlags := 18, slot := 3, constantValue := 0 }, { name := "prefix", type := (.object "com/example/keeplast/keeplast/Dirt$Prefix"), accessFlags := 18, slot := 4, constantValue := 0 }, { name := "ATTEMPTS", type := .int, accessFlags := 26, slot := 0, constantValue := 0 }]
  methods := #[k4m0, k4m1]
  instanceTypes := #[.long, .long, .long, .boolean, (.object "com/example/keeplast/keeplast/Dirt$Prefix")]
  staticTypes := #[.int]
  resolved := Array.replicate 212 none
  statics := none }

def pool5 : Array CpInfo := pool [(1, u "java/lang/Cloneable"), (0, .class_ 1), (0, u "java/lang/Object"), (0, .class_ 3)] 3

/-- java/lang/Cloneable -/
def k5 : Class := { plain "java/lang/Cloneable" (some 0) with
  accessFlags := 1537
  interfaces := #[]
  cf := some (fileOf pool5 2 #[] #[] 1537 4 #[] #[])
  fields := #[]
  methods := #[]
  instanceTypes := #[]
  staticTypes := #[]
  resolved := Array.replicate 8 none
  statics := none }

def pool6 : Array CpInfo := pool [(1, u "java/io/Serializable"), (0, .class_ 1), (0, u "java/lang/Object"), (0, .class_ 3)] 3

/-- java/io/Serializable -/
def k6 : Class := { plain "java/io/Serializable" (some 0) with
  accessFlags := 1537
  interfaces := #[]
  cf := some (fileOf pool6 2 #[] #[] 1537 4 #[] #[])
  fields := #[]
  methods := #[]
  instanceTypes := #[]
  staticTypes := #[]
  resolved := Array.replicate 8 none
  statics := none }

/-- the primitive byte -/
def k7 : Class := { plain "byte" none with kind := .primitive 'B', accessFlags := 0x411 }
/-- [B -/
def k8 : Class := { plain "[B" (some 0) with kind := .array 7 .byte, interfaces := #[5, 6], accessFlags := 1041 }

/-- the primitive int -/
def k9 : Class := { plain "int" none with kind := .primitive 'I', accessFlags := 0x411 }
/-- [I -/
def k10 : Class := { plain "[I" (some 0) with kind := .array 9 .int, interfaces := #[5, 6], accessFlags := 1041 }

def heap : Heap := #[]
def classes : Array Class := #[k0, k1, k2, k3, k4, k5, k6, k7, k8, k9, k10]
def interned : List (Array UInt16 × Addr) := []
def slotsUsed : Nat := 0
def theMethod : MethodId := ⟨1, 2⟩
def args0 : Array Value := #[.long 5, .long 9, .long 3, .int 1]
def aboutOver (below : List Frame) : State where
  vm := { classes := classes, interned := interned.toArray }
  heap := heap
  slotsUsed := slotsUsed
  threads := #[{ frames := .invoking theMethod args0 :: below }]
def below0 : List Frame := [.native { method := ⟨0, 0⟩, args := #[] }]
def about1 : State := aboutOver below0
def p0 : Program := .bare "" "" ""
def e0 : Env := launch0.env 0 0 0
theorem w_frames : about1.frames = Frame.invoking theMethod args0 :: below0 := rfl
set_option maxRecDepth 65536 in
theorem w_args : argsFit about1.vm theMethod args0 = true := by decide +kernel
set_option maxRecDepth 65536 in
theorem w_heap : heapFits about1 = true := by decide +kernel
set_option maxRecDepth 65536 in
theorem w_runnable : about1.curStatus? = some .runnable := by decide +kernel
set_option maxRecDepth 65536 in
theorem w_alone : about1.alone = true := by decide +kernel
set_option maxRecDepth 65536 in
theorem w_named : about1.methodNamed? x = some theMethod := by decide +kernel
set_option maxRecDepth 65536 in
theorem w_hears : about1.hears theMethod below0 = true := by decide +kernel
set_option maxRecDepth 65536 in
theorem w_ripe : about1.ripe theMethod args0 below0 = true := by decide +kernel
theorem w_running : about1.status = .running := rfl
set_option maxRecDepth 65536 in
theorem w_room : about1.hasRoom e0.platform room_1 = true :=
  launch0.hasRoom_least _ room_1 (by decide +kernel) (by decide +kernel) (by decide +kernel) (by decide +kernel) (by decide +kernel) (by decide +kernel)
theorem allAtoms_all (ts : List Jvm.Cond) (a : Array Jvm.Value) (st : Jvm.State) : (allAtoms ts).before a st = ts.all (fun c => c.before a st) := by
  induction ts with
  | nil => rfl
  | cons c t ih =>
    show (Jvm.Cond.and c (allAtoms t)).before a st = _
    rw [Jvm.Cond.before_and, ih, List.all_cons]
def words1 : List Jvm.Cond := Jvm.Cond.code x code maxLocals ret :: tables_1
/-- a 'code' word, met by the world's own term for the bytes: nothing is compared byte by byte -/
theorem code_word {y : MethodName} {bytes : ByteArray} {mx : Nat} {rt : Option FieldType} {a : Array Value} {s : State} {m : MethodId} {meth : Method} {c : Code} (h1 : s.methodNamed? y = some m) (h2 : s.vm.method? m = some meth) (h3 : meth.code = some c) (h4 : c.code = bytes)
    (h5 : (c.maxLocals == mx && c.exceptionTable.isEmpty && decide (c.maxStack ≤ mostOperands) && decide (meth.sig.returnType = rt) && !meth.locks && decide (parseMethodDescriptor y.desc = some meth.sig)) = true) : (Jvm.Cond.code y bytes mx rt).before a s = true := by
  simp only [Bool.and_eq_true, beq_iff_eq, Bool.not_eq_true', decide_eq_true_eq] at h5
  obtain ⟨⟨⟨⟨⟨g1, g2⟩, g3⟩, g4⟩, g5⟩, g6⟩ := h5
  simp [Cond.before, Cond.holds, Cond.value, h1, h2, h3, h4, g1, g2, g3, g4, g5, g6]
def isCode : Jvm.Cond → Bool
  | .code _ _ _ _ => true
  | _ => false
theorem all_split {L : List Jvm.Cond} {P : Jvm.Cond → Bool} (h1 : L.all (fun c => isCode c || P c) = true) (h2 : ∀ c ∈ L.filter isCode, P c = true) : L.all P = true := by
  refine List.all_eq_true.mpr fun c hc => ?_
  have h := List.all_eq_true.mp h1 c hc
  rcases Bool.eq_false_or_eq_true (isCode c) with hi | hi
  · exact h2 c (List.mem_filter.mpr ⟨hc, hi⟩)
  · simpa [hi] using h
set_option maxRecDepth 65536 in
theorem w_c0 : (Jvm.Cond.code x code maxLocals ret).before args0 about1 = true := code_word (m := ⟨1, 2⟩) (meth := k1m2) (c := k1c2) (by decide +kernel) rfl rfl rfl (by decide +kernel)
set_option maxRecDepth 65536 in
theorem w_c1 : (Jvm.Cond.code ({ cls := "java/lang/Math", name := "min", desc := "(JJ)J" } : Jvm.MethodName) jdk_29_method_70_code (4 : Nat) (Option.some Jvm.ClassFile.FieldType.long)).before args0 about1 = true := code_word (m := ⟨2, 2⟩) (meth := k2m2) (c := k2c2) (by decide +kernel) rfl rfl rfl (by decide +kernel)
set_option maxRecDepth 65536 in
theorem w_c2 : (Jvm.Cond.code ({ cls := "java/lang/Math", name := "max", desc := "(JJ)J" } : Jvm.MethodName) jdk_29_method_66_code (4 : Nat) (Option.some Jvm.ClassFile.FieldType.long)).before args0 about1 = true := code_word (m := ⟨2, 1⟩) (meth := k2m1) (c := k2c1) (by decide +kernel) rfl rfl rfl (by decide +kernel)
set_option maxRecDepth 65536 in
theorem w_c3 : (Jvm.Cond.code ({ cls := "com/example/keeplast/keeplast/DirtRatioPinLaw", name := "ratio", desc := "(JJZ)D" } : Jvm.MethodName) method_2_code (5 : Nat) (Option.some Jvm.ClassFile.FieldType.double)).before args0 about1 = true := code_word (m := ⟨1, 1⟩) (meth := k1m1) (c := k1c1) (by decide +kernel) rfl rfl rfl (by decide +kernel)
set_option maxRecDepth 65536 in
theorem w_c4 : (Jvm.Cond.code ({ cls := "com/example/keeplast/keeplast/Dirt", name := "<init>", desc := "(JJJZLcom/example/keeplast/keeplast/Dirt$Prefix;)V" } : Jvm.MethodName) prog_2_method_1_code (9 : Nat) (Option.none : Option Jvm.ClassFile.FieldType)).before args0 about1 = true := code_word (m := ⟨4, 0⟩) (meth := k4m0) (c := k4c0) (by decide +kernel) rfl rfl rfl (by decide +kernel)
set_option maxRecDepth 65536 in
theorem w_c5 : (Jvm.Cond.code ({ cls := "java/lang/Record", name := "<init>", desc := "()V" } : Jvm.MethodName) jdk_30_method_1_code (1 : Nat) (Option.none : Option Jvm.ClassFile.FieldType)).before args0 about1 = true := code_word (m := ⟨3, 0⟩) (meth := k3m0) (c := k3c0) (by decide +kernel) rfl rfl rfl (by decide +kernel)
set_option maxRecDepth 65536 in
theorem w_c6 : (Jvm.Cond.code ({ cls := "java/lang/Object", name := "<init>", desc := "()V" } : Jvm.MethodName) object_method_1_code (1 : Nat) (Option.none : Option Jvm.ClassFile.FieldType)).before args0 about1 = true := code_word (m := ⟨0, 0⟩) (meth := k0m0) (c := k0c0) (by decide +kernel) rfl rfl rfl (by decide +kernel)
set_option maxRecDepth 65536 in
theorem w_c7 : (Jvm.Cond.code ({ cls := "com/example/keeplast/keeplast/Dirt", name := "ratio", desc := "()D" } : Jvm.MethodName) prog_2_method_2_code (1 : Nat) (Option.some Jvm.ClassFile.FieldType.double)).before args0 about1 = true := code_word (m := ⟨4, 1⟩) (meth := k4m1) (c := k4c1) (by decide +kernel) rfl rfl rfl (by decide +kernel)
def codes1 : List Jvm.Cond := [Jvm.Cond.code x code maxLocals ret, Jvm.Cond.code ({ cls := "java/lang/Math", name := "min", desc := "(JJ)J" } : Jvm.MethodName) jdk_29_method_70_code (4 : Nat) (Option.some Jvm.ClassFile.FieldType.long), Jvm.Cond.code ({ cls := "java/lang/Math", name := "max", desc := "(JJ)J" } : Jvm.MethodName) jdk_29_method_66_code (4 : Nat) (Option.some Jvm.ClassFile.FieldType.long), Jvm.Cond.code ({ cls := "com/example/keeplast/keeplast/DirtRatioPinLaw", name := "ratio", desc := "(JJZ)D" } : Jvm.MethodName) method_2_code (5 : Nat) (Option.some Jvm.ClassFile.FieldType.double), Jvm.Cond.code ({ cls := "com/example/keeplast/keeplast/Dirt", name := "<init>", desc := "(JJJZLcom/example/keeplast/keeplast/Dirt$Prefix;)V" } : Jvm.MethodName) prog_2_method_1_code (9 : Nat) (Option.none : Option Jvm.ClassFile.FieldType), Jvm.Cond.code ({ cls := "java/lang/Record", name := "<init>", desc := "()V" } : Jvm.MethodName) jdk_30_method_1_code (1 : Nat) (Option.none : Option Jvm.ClassFile.FieldType), Jvm.Cond.code ({ cls := "java/lang/Object", name := "<init>", desc := "()V" } : Jvm.MethodName) object_method_1_code (1 : Nat) (Option.none : Option Jvm.ClassFile.FieldType), Jvm.Cond.code ({ cls := "com/example/keeplast/keeplast/Dirt", name := "ratio", desc := "()D" } : Jvm.MethodName) prog_2_method_2_code (1 : Nat) (Option.some Jvm.ClassFile.FieldType.double)]
set_option maxRecDepth 65536 in
theorem codes_eq : words1.filter isCode = codes1 := rfl
theorem w_codes : ∀ c ∈ words1.filter isCode, c.before args0 about1 = true := by
  rw [codes_eq]
  intro c hc
  simp only [codes1, List.mem_cons, List.not_mem_nil, or_false] at hc
  rcases hc with rfl | rfl | rfl | rfl | rfl | rfl | rfl | rfl
  · exact w_c0
  · exact w_c1
  · exact w_c2
  · exact w_c3
  · exact w_c4
  · exact w_c5
  · exact w_c6
  · exact w_c7
set_option maxRecDepth 65536 in
theorem w_t1 : (words1.take 24).all (fun c => isCode c || c.before args0 about1) = true := by decide +kernel
set_option maxRecDepth 65536 in
theorem w_t2 : (words1.drop 24).all (fun c => isCode c || c.before args0 about1) = true := by decide +kernel
theorem w_tables : (allAtoms (Jvm.Cond.code x code maxLocals ret :: tables_1)).before args0 about1 = true := by
  rw [allAtoms_all]
  show words1.all (fun c => c.before args0 about1) = true
  refine all_split ?_ w_codes
  rw [← List.take_append_drop 24 words1, List.all_append, w_t1, w_t2]
  rfl
set_option maxRecDepth 65536 in
theorem w_case : (Jvm.Cond.and given_1 narrow_1).before args0 about1 = true := by decide +kernel
theorem w_applies : (headSpec (Jvm.Cond.code x code maxLocals ret :: tables_1) room_1).applies x e0.platform about1 = true :=
  (Spec.applies_iff w_frames).mpr ⟨w_running, w_runnable, w_alone, w_named, w_hears, w_ripe, w_room, w_tables⟩
theorem atStart : AtStart classFile x code maxLocals ret World_1 tables_1 room_1 Calls_1 rest_1 Pre_1 launch0 p0 e0 about1 theMethod args0 below0 :=
  ⟨lists_1, trivial, launch0.admits_env _ _ _, launch0.least_env, fairChoices_fair.cas, fairChoices_fair.clock, w_frames, w_args, w_heap, w_applies, trivial, trivial, w_case⟩
end start1
theorem witness_1 : WitnessClaimed_1 := ⟨start1.p0, start1.e0, start1.about1, start1.theMethod, start1.args0, start1.below0, start1.atStart⟩
end Jvm.Pilot.@@N@@
