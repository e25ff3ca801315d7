import JvmDerived
import JvmDerived.Pilot.@@N@@Statement
import JvmDerived.Pilot.@@N@@Code
set_option linter.unusedVariables false
set_option linter.unusedSimpArgs false
namespace Jvm.Own
open Sem ClassFile Op Lib Jvm.Stand Jvm.Free Jvm.LawKit Jvm.RoadKit
/-! ## 1. A machine over abstract states: refs are numbers of objects -/
abbrev Ob := Sum (Nat × List Value) (FieldType × List Value)
abbrev AH := List Ob
abbrev Act := List Value → AH → Nat → Nat → Option (List Value × AH × Nat × Nat)
abbrev St := Nat × List Slot × List Value × AH × Nat × Nat
abbrev ORes := Option Value × AH
def il : Instr → Nat
  | .aload _ | .astore _ | .iload _ | .istore _ | .lload _ | .lstore _ | .bipush _ | .ldc _ | .newarray _ => 2
  | .sipush _ | .iinc _ _ | .goto _ | .if_icmp _ _ | .ifCond _ _ | .if_acmp _ _ | .ifnull _ | .ifnonnull _ | .ldc_w _ | .ldc2_w _ | .getfield _ | .putfield _ | .getstatic _ | .putstatic _ | .new _ | .anewarray _ | .checkcast _ | .instanceof _ | .invokestatic _ | .invokespecial _ | .invokevirtual _ => 3
  | .invokeinterface _ _ => 5
  | _ => 1
def dec (code : ByteArray) (pc : Nat) : Option Instr :=
  match decode code pc with
  | .ok (i, len) => if len = il i then some i else none
  | .error _ => none
theorem dec_spec {code : ByteArray} {pc : Nat} {i : Instr} (h : dec code pc = some i) : decode code pc = .ok (i, il i) := by
  unfold dec at h
  split at h
  · rename_i j len hd
    split at h
    · rename_i hl; cases h; rw [hd, hl]
    · cases h
  · cases h
def gI (L : List Slot) (k : Nat) : Option Int32 := match L[k]? with | some (.val (.int v)) => some v | _ => none
def gL (L : List Slot) (k : Nat) : Option Int64 := match L[k]? with | some (.val (.long v)) => some v | _ => none
def gA (L : List Slot) (k : Nat) : Option Value := match L[k]? with | some (.val (.ref a)) => some (.ref a) | some (.val .null) => some .null | _ => none
def st1 (L : List Slot) (k : Nat) (v : Value) : Option (List Slot) := match L[k]? with
  | some .unset => some (L.set k (.val v))
  | some (.val (.int _)) => some (L.set k (.val v))
  | some (.val (.ref _)) => some (L.set k (.val v))
  | some (.val .null) => some (L.set k (.val v))
  | _ => none
def st2 (L : List Slot) (k : Nat) (x : Int64) : Option (List Slot) := match L[k]?, L[k + 1]? with
  | some .unset, some .unset => some ((L.set k (.val (.long x))).set (k + 1) .second)
  | some (.val (.long _)), some .second => some ((L.set k (.val (.long x))).set (k + 1) .second)
  | _, _ => none
def pI : List Value → (Int32 → List Value → Option ORes) → Option ORes | .int x :: r, f => f x r | _, _ => none
def pL : List Value → (Int64 → List Value → Option ORes) → Option ORes | .long x :: r, f => f x r | _, _ => none
def pA : List Value → (Value → List Value → Option ORes) → Option ORes | .ref a :: r, f => f (.ref a) r | .null :: r, f => f .null r | _, _ => none
def pR : List Value → (Nat → List Value → Option ORes) → Option ORes | .ref a :: r, f => f a r | _, _ => none
def p1 : List Value → (Value → List Value → Option ORes) → Option ORes | .int a :: r, f => f (.int a) r | .ref a :: r, f => f (.ref a) r | .null :: r, f => f .null r | _, _ => none
def br (b : Bool) (pc : Nat) (o : Int) (f : Nat → Option ORes) : Option ORes := if 0 ≤ (pc : Int) + o then (bif b then f ((pc : Int) + o).toNat else f (pc + 3)) else none
def arr (H : AH) (k : Nat) : Option (FieldType × List Value) := match H[k]? with | some (.inr q) => some q | _ => none
def ald (ok : FieldType → Bool) (S : List Value) (H : AH) (f : Value → List Value → Option ORes) : Option ORes :=
  pI S fun j S => pR S fun a r => (arr H a).bind fun q => if ok q.1 = true ∧ ¬ j < 0 then (q.2[j.toNatClampNeg]?).bind fun v => f v r else none
def ast (ok : FieldType → Bool) (x0 : Nat) (S : List Value) (H : AH) (f : List Value → AH → Option ORes) : Option ORes :=
  pI S fun x S => pI S fun j S => pR S fun a r => (arr H a).bind fun q => if ok q.1 = true ∧ ¬ j < 0 ∧ j.toNatClampNeg < q.2.length ∧ x0 ≤ a then f r (H.set a (.inr (q.1, q.2.set j.toNatClampNeg (.int (nar q.1 x))))) else none
def astL (x0 : Nat) (S : List Value) (H : AH) (f : List Value → AH → Option ORes) : Option ORes :=
  pL S fun x S => pI S fun j S => pR S fun a r => (arr H a).bind fun q => if q.1 = .long ∧ ¬ j < 0 ∧ j.toNatClampNeg < q.2.length ∧ x0 ≤ a then f r (H.set a (.inr (q.1, q.2.set j.toNatClampNeg (.long x)))) else none
def isT (t u : FieldType) : Bool := decide (u = t)
def isBZ : FieldType → Bool | .byte => true | .boolean => true | _ => false
def rI (rt : Option FieldType) (S : List Value) (H : AH) : Option ORes := pI S fun z _ => match rt with
  | some .int => some (some (.int z), H)
  | some .boolean => some (some (.int (z &&& 1)), H)
  | some .byte => some (some (.int z.toInt8.toInt32), H)
  | some .char => some (some (.int z.toUInt32.toUInt16.toUInt32.toInt32), H)
  | some .short => some (some (.int z.toInt16.toInt32), H)
  | _ => none
def rL (rt : Option FieldType) (S : List Value) (H : AH) : Option ORes := pL S fun z _ => match rt with | some .long => some (some (.long z), H) | _ => none
def rA (rt : Option FieldType) (S : List Value) (H : AH) : Option ORes := pA S fun z _ => match rt with | some (.object _) => some (some z, H) | some (.array _) => some (some z, H) | _ => none
def rV (rt : Option FieldType) (S : List Value) (H : AH) : Option ORes := match rt, S with | none, [] => some (none, H) | _, _ => none
def look (q i : Nat) : List (Nat × Nat × Act) → Option Act
  | [] => none
  | x :: r => if x.1 = q ∧ x.2.1 = i then some x.2.2 else look q i r
def spc (E : List (Nat × Nat × Act)) (q i : Nat) (S : List Value) (H : AH) (cs ss : Nat) (f : List Value → AH → Nat → Nat → Option ORes) : Option ORes :=
  (look q i E).bind fun act => (act S H cs ss).bind fun r => f r.1 r.2.1 r.2.2.1 r.2.2.2
def atn : ArrayType → Nat | .boolean => 0 | .char => 1 | .float => 2 | .double => 3 | .byte => 4 | .short => 5 | .int => 6 | .long => 7
def aty : Nat → ArrayType | 0 => .boolean | 1 => .char | 2 => .float | 3 => .double | 4 => .byte | 5 => .short | 6 => .int | _ => .long
def insOf (q i : Nat) : Instr := match q with
  | 0 => .ldc i | 1 => .ldc_w i | 2 => .ldc2_w i | 3 => .getfield i | 4 => .putfield i | 5 => .getstatic i | 6 => .new i | 7 => .invokestatic i | 8 => .invokespecial i | 9 => .invokevirtual i
  | 10 => .checkcast i | 11 => .instanceof i | 12 => .anewarray i | 13 => .newarray (aty i) | _ => .putstatic i
def refEq : Value → Value → Bool | .ref a, .ref b => decide (a = b) | .null, .null => true | _, _ => false
def okc (x0 : Nat) : Value → Value → Bool | .ref a, .ref b => decide (a = b ∨ ((x0 ≤ a ∨ x0 ≤ b) ∧ a ≠ 8 ∧ b ≠ 8) ∨ (a < 2 ∧ b < 2)) | _, _ => true
def okR (n k : Nat) : Value → Bool | .ref j => decide (j < n ∧ j ≠ k ∧ j ≠ k + 1) | _ => true
def okS (n k : Nat) : Slot → Bool | .val v => okR n k v | _ => true
def okO (n k : Nat) : Ob → Bool | .inl q => q.2.all (okR n k) | .inr q => q.2.all (okR n k)
def litI (i : Nat) : List (Nat × Nat × Act) → Option Nat
  | [] => none
  | x :: r => if 100 ≤ x.1 ∧ x.2.1 = i then some (x.1 - 100) else litI i r
def isOpq (H : AH) (k : Nat) : Bool := match H[k]? with | some (.inl q) => decide (q = (99, [])) | _ => false
def slt (H : AH) (k : Nat) : Nat := if isOpq H k = true then k else k + 2
def fr3 (n k : Nat) (L : List Slot) (S : List Value) (H : AH) : Bool := L.all (okS n k) && S.all (okR n k) && H.all (okO n k)
def ldOk (E : List (Nat × Nat × Act)) (i : Nat) (L : List Slot) (S : List Value) (H : AH) : Bool := match litI i E with
  | none => true
  | some k => fr3 H.length (slt H k) L S H
def chk (i : Instr) (H : AH) (k : Nat) (L : List Slot) (S : List Value) : Bool := match i with
  | .ldc _ => fr3 H.length (slt H k) L S H
  | _ => fr3 H.length k L S [] && fr3 H.length (k + 2) L S []
def ctOk (E : List (Nat × Nat × Act)) (i : Nat) (L : List Slot) (S : List Value) (H : AH) : Bool := match litI i E with
  | none => true
  | some k => fr3 H.length k L S [] && fr3 H.length (k + 2) L S []
def ex (rt : Option FieldType) (E : List (Nat × Nat × Act)) (x0 : Nat) (k : St → Option ORes) (i : Instr) (pc : Nat) (L : List Slot) (S : List Value) (H : AH) (cs ss : Nat) : Option ORes := match i with
  | .iload n => (gI L n).bind fun v => k (pc + 2, L, .int v :: S, H, cs, ss)
  | .iload_n n => (gI L n.val).bind fun v => k (pc + 1, L, .int v :: S, H, cs, ss)
  | .lload n => (gL L n).bind fun v => k (pc + 2, L, .long v :: S, H, cs, ss)
  | .lload_n n => (gL L n.val).bind fun v => k (pc + 1, L, .long v :: S, H, cs, ss)
  | .aload n => (gA L n).bind fun v => k (pc + 2, L, v :: S, H, cs, ss)
  | .aload_n n => (gA L n.val).bind fun v => k (pc + 1, L, v :: S, H, cs, ss)
  | .istore n => pI S fun x r => (st1 L n (.int x)).bind fun L' => k (pc + 2, L', r, H, cs, ss)
  | .istore_n n => pI S fun x r => (st1 L n.val (.int x)).bind fun L' => k (pc + 1, L', r, H, cs, ss)
  | .lstore n => pL S fun x r => (st2 L n x).bind fun L' => k (pc + 2, L', r, H, cs, ss)
  | .lstore_n n => pL S fun x r => (st2 L n.val x).bind fun L' => k (pc + 1, L', r, H, cs, ss)
  | .astore n => pA S fun x r => (st1 L n x).bind fun L' => k (pc + 2, L', r, H, cs, ss)
  | .astore_n n => pA S fun x r => (st1 L n.val x).bind fun L' => k (pc + 1, L', r, H, cs, ss)
  | .iinc n c => (gI L n).bind fun v => (st1 L n (.int (v + Int32.ofInt c))).bind fun L' => k (pc + 3, L', S, H, cs, ss)
  | .iconst c => k (pc + 1, L, .int (Int32.ofInt c) :: S, H, cs, ss)
  | .bipush c => k (pc + 2, L, .int (Int8.ofInt c).toInt32 :: S, H, cs, ss)
  | .sipush c => k (pc + 3, L, .int (Int16.ofInt c).toInt32 :: S, H, cs, ss)
  | .lconst c => k (pc + 1, L, .long (Int64.ofNat c) :: S, H, cs, ss)
  | .aconst_null => k (pc + 1, L, .null :: S, H, cs, ss)
  | .iadd => pI S fun y S => pI S fun x r => k (pc + 1, L, .int (x + y) :: r, H, cs, ss)
  | .isub => pI S fun y S => pI S fun x r => k (pc + 1, L, .int (x - y) :: r, H, cs, ss)
  | .imul => pI S fun y S => pI S fun x r => k (pc + 1, L, .int (x * y) :: r, H, cs, ss)
  | .iand => pI S fun y S => pI S fun x r => k (pc + 1, L, .int (x &&& y) :: r, H, cs, ss)
  | .ior => pI S fun y S => pI S fun x r => k (pc + 1, L, .int (x ||| y) :: r, H, cs, ss)
  | .ixor => pI S fun y S => pI S fun x r => k (pc + 1, L, .int (x ^^^ y) :: r, H, cs, ss)
  | .ishl => pI S fun y S => pI S fun x r => k (pc + 1, L, .int (x <<< (y &&& 31)) :: r, H, cs, ss)
  | .ishr => pI S fun y S => pI S fun x r => k (pc + 1, L, .int (x >>> (y &&& 31)) :: r, H, cs, ss)
  | .iushr => pI S fun y S => pI S fun x r => k (pc + 1, L, .int ((x.toUInt32 >>> (y &&& 31).toUInt32).toInt32) :: r, H, cs, ss)
  | .idiv => pI S fun y S => pI S fun x r => if y = 0 then none else k (pc + 1, L, .int (x / y) :: r, H, cs, ss)
  | .irem => pI S fun y S => pI S fun x r => if y = 0 then none else k (pc + 1, L, .int (x % y) :: r, H, cs, ss)
  | .ineg => pI S fun x r => k (pc + 1, L, .int (-x) :: r, H, cs, ss)
  | .i2b => pI S fun x r => k (pc + 1, L, .int x.toInt8.toInt32 :: r, H, cs, ss)
  | .i2c => pI S fun x r => k (pc + 1, L, .int x.toUInt32.toUInt16.toUInt32.toInt32 :: r, H, cs, ss)
  | .i2s => pI S fun x r => k (pc + 1, L, .int x.toInt16.toInt32 :: r, H, cs, ss)
  | .i2l => pI S fun x r => k (pc + 1, L, .long x.toInt64 :: r, H, cs, ss)
  | .l2i => pL S fun x r => k (pc + 1, L, .int x.toInt32 :: r, H, cs, ss)
  | .lneg => pL S fun x r => k (pc + 1, L, .long (-x) :: r, H, cs, ss)
  | .ladd => pL S fun y S => pL S fun x r => k (pc + 1, L, .long (x + y) :: r, H, cs, ss)
  | .lsub => pL S fun y S => pL S fun x r => k (pc + 1, L, .long (x - y) :: r, H, cs, ss)
  | .lmul => pL S fun y S => pL S fun x r => k (pc + 1, L, .long (x * y) :: r, H, cs, ss)
  | .land => pL S fun y S => pL S fun x r => k (pc + 1, L, .long (x &&& y) :: r, H, cs, ss)
  | .lor => pL S fun y S => pL S fun x r => k (pc + 1, L, .long (x ||| y) :: r, H, cs, ss)
  | .lxor => pL S fun y S => pL S fun x r => k (pc + 1, L, .long (x ^^^ y) :: r, H, cs, ss)
  | .lshl => pI S fun y S => pL S fun x r => k (pc + 1, L, .long (x <<< (y &&& 0x3f).toInt64) :: r, H, cs, ss)
  | .lshr => pI S fun y S => pL S fun x r => k (pc + 1, L, .long (x >>> (y &&& 0x3f).toInt64) :: r, H, cs, ss)
  | .lushr => pI S fun y S => pL S fun x r => k (pc + 1, L, .long ((x.toUInt64 >>> (y &&& 0x3f).toInt64.toUInt64).toInt64) :: r, H, cs, ss)
  | .ldiv => pL S fun y S => pL S fun x r => if y = 0 then none else k (pc + 1, L, .long (x / y) :: r, H, cs, ss)
  | .lrem => pL S fun y S => pL S fun x r => if y = 0 then none else k (pc + 1, L, .long (x % y) :: r, H, cs, ss)
  | .lcmp => pL S fun y S => pL S fun x r => k (pc + 1, L, .int (lcmpW x y) :: r, H, cs, ss)
  | .dup => p1 S fun v r => k (pc + 1, L, v :: v :: r, H, cs, ss)
  | .pop => p1 S fun _ r => k (pc + 1, L, r, H, cs, ss)
  | .dup_x1 => p1 S fun x S => p1 S fun y r => k (pc + 1, L, x :: y :: x :: r, H, cs, ss)
  | .dup2 => p1 S fun x S => p1 S fun y r => k (pc + 1, L, x :: y :: x :: y :: r, H, cs, ss)
  | .goto o => if 0 ≤ (pc : Int) + o then k (((pc : Int) + o).toNat, L, S, H, cs, ss) else none
  | .ifCond cd o => pI S fun x r => br (ifCond.holds cd x) pc o fun q => k (q, L, r, H, cs, ss)
  | .if_icmp cd o => pI S fun y S => pI S fun x r => br (if_icmp.holds cd x y) pc o fun q => k (q, L, r, H, cs, ss)
  | .ifnull o => pA S fun v r => br (refEq v .null) pc o fun q => k (q, L, r, H, cs, ss)
  | .ifnonnull o => pA S fun v r => br (!refEq v .null) pc o fun q => k (q, L, r, H, cs, ss)
  | .if_acmp cd o => pA S fun y S => pA S fun x r => if okc x0 x y = true then br (acV cd (refEq x y)) pc o fun q => k (q, L, r, H, cs, ss) else none
  | .arraylength => pR S fun a r => (arr H a).bind fun q => k (pc + 1, L, .int q.2.length.toInt32 :: r, H, cs, ss)
  | .iaload => ald (isT .int) S H fun v r => k (pc + 1, L, v :: r, H, cs, ss)
  | .baload => ald isBZ S H fun v r => k (pc + 1, L, v :: r, H, cs, ss)
  | .caload => ald (isT .char) S H fun v r => k (pc + 1, L, v :: r, H, cs, ss)
  | .laload => ald (isT .long) S H fun v r => k (pc + 1, L, v :: r, H, cs, ss)
  | .aaload => ald FieldType.isReference S H fun v r => k (pc + 1, L, v :: r, H, cs, ss)
  | .iastore => ast (isT .int) x0 S H fun r H' => k (pc + 1, L, r, H', cs, ss)
  | .bastore => ast (isT .byte) x0 S H fun r H' => k (pc + 1, L, r, H', cs, ss)
  | .castore => ast (isT .char) x0 S H fun r H' => k (pc + 1, L, r, H', cs, ss)
  | .lastore => astL x0 S H fun r H' => k (pc + 1, L, r, H', cs, ss)
  | .ldc i => if ldOk E i L S H = true then spc E 0 i S H cs ss fun S' H' cs' ss' => k (pc + 2, L, S', H', cs', ss') else none
  | .ldc_w i => spc E 1 i S H cs ss fun S' H' cs' ss' => k (pc + 3, L, S', H', cs', ss')
  | .ldc2_w i => spc E 2 i S H cs ss fun S' H' cs' ss' => k (pc + 3, L, S', H', cs', ss')
  | .getfield i => spc E 3 i S H cs ss fun S' H' cs' ss' => k (pc + 3, L, S', H', cs', ss')
  | .putfield i => spc E 4 i S H cs ss fun S' H' cs' ss' => k (pc + 3, L, S', H', cs', ss')
  | .getstatic i => spc E 5 i S H cs ss fun S' H' cs' ss' => k (pc + 3, L, S', H', cs', ss')
  | .new i => spc E 6 i S H cs ss fun S' H' cs' ss' => k (pc + 3, L, S', H', cs', ss')
  | .invokestatic i => spc E 7 i S H cs ss fun S' H' cs' ss' => k (pc + 3, L, S', H', cs', ss')
  | .invokespecial i => if ctOk E i L S H = true then spc E 8 i S H cs ss fun S' H' cs' ss' => k (pc + 3, L, S', H', cs', ss') else none
  | .invokevirtual i => spc E 9 i S H cs ss fun S' H' cs' ss' => k (pc + 3, L, S', H', cs', ss')
  | .checkcast i => spc E 10 i S H cs ss fun S' H' cs' ss' => k (pc + 3, L, S', H', cs', ss')
  | .instanceof i => spc E 11 i S H cs ss fun S' H' cs' ss' => k (pc + 3, L, S', H', cs', ss')
  | .anewarray i => spc E 12 i S H cs ss fun S' H' cs' ss' => k (pc + 3, L, S', H', cs', ss')
  | .newarray t => spc E 13 (atn t) S H cs ss fun S' H' cs' ss' => k (pc + 2, L, S', H', cs', ss')
  | .ireturn => rI rt S H
  | .lreturn => rL rt S H
  | .areturn => rA rt S H
  | .return_ => rV rt S H
  | _ => none
def orun (code : ByteArray) (rt : Option FieldType) (E : List (Nat × Nat × Act)) (x0 : Nat) : Nat → St → Option ORes
  | 0, _ => none
  | n + 1, s => (dec code s.1).bind fun i => ex rt E x0 (orun code rt E x0 n) i s.1 s.2.1 s.2.2.1 s.2.2.2.1 s.2.2.2.2.1 s.2.2.2.2.2
theorem orun_succ {code : ByteArray} {rt : Option FieldType} {E : List (Nat × Nat × Act)} {x0 n pc : Nat} {L : List Slot} {S : List Value} {H : AH} {cs ss : Nat} :
    orun code rt E x0 (n + 1) (pc, L, S, H, cs, ss) = (dec code pc).bind fun i => ex rt E x0 (orun code rt E x0 n) i pc L S H cs ss := rfl
/-! ## 2. What an abstract state stands for -/
def cv (σ : Nat → Nat) : Value → Value | .ref k => .ref (σ k) | v => v
def csl (σ : Nat → Nat) : Slot → Slot | .val v => .val (cv σ v) | x => x
def cL (σ : Nat → Nat) (L : List Slot) : Array Slot := (L.map (csl σ)).toArray
abbrev CD := String × List (String × String × String)
def RepO (Z : State) (σ : Nat → Nat) (K : List CD) (h : Heap) (a : Addr) : Ob → Prop
  | .inl (c, vs) => ∃ C fs, K[c]? = some (C, fs) ∧ Exa Z h a C ∧ ∀ (j : Nat) (v : Value), vs[j]? = some v → ∃ O n d, fs[j]? = some (O, n, d) ∧ Fld Z h a O n d (cv σ v)
  | .inr (ty, vs) => ∃ cell : Cell, Arr Z h a cell ty ∧ cell.slots = (vs.map (cv σ)).toArray ∧ vs.length < 2 ^ 31 ∧ (∀ v ∈ vs, fits ty v = true) ∧ (ty ≠ .byte → (Z.heap.size ≤ a ∨ ty.isReference = true) → Exa Z h a ("[" ++ ty.toString))
def opq : Ob := .inl (99, [])
def Rep (Z : State) (σ : Nat → Nat) (x0 n0 n1 : Nat) (P : Addr → Prop) (h0 : Heap) (K : List CD) (h : Heap) (H : AH) : Prop :=
  (∀ k, H.length ≤ k → σ k + H.length = h.size + k) ∧ x0 ≤ H.length ∧ Old Z n0 h ∧ (∀ (k : Nat) (o : Ob), H[k]? = some o → o = opq ∨ k ≠ 8 ∧ RepO Z σ K h (σ k) o) ∧ (K[99]? = none ∧ 8 < x0) ∧ (∀ (y : Addr) (cell : Cell), P y → h0[y]? = some cell → h[y]? = some cell) ∧ (∀ k, k < H.length → k ≠ 8 → σ k < h.size) ∧ h0.size ≤ h.size ∧ n1 ≤ H.length
def Sg (σ : Nat → Nat) (x0 n0 : Nat) (P : Addr → Prop) (h0 : Heap) : Prop := (∀ k, x0 ≤ k → n0 ≤ σ k ∧ ¬ P (σ k)) ∧ (∀ i j, x0 ≤ i → j ≠ 8 → σ i = σ j → i = j) ∧ ∀ i j, i < 2 → j < 2 → σ i = σ j → i = j
theorem Sg.new {σ : Nat → Nat} {x0 n0 k : Nat} {P : Addr → Prop} {h0 : Heap} (h : Sg σ x0 n0 P h0) (q : x0 ≤ k) : n0 ≤ σ k := (h.1 k q).1
theorem Sg.ne {σ : Nat → Nat} {x0 n0 i j : Nat} {P : Addr → Prop} {h0 : Heap} (h : Sg σ x0 n0 P h0) (q : x0 ≤ i) (h8 : j ≠ 8) (e : j ≠ i) : σ j ≠ σ i := fun u => e (h.2.1 i j q h8 u.symm).symm
theorem Rep.arrO {Z : State} {σ : Nat → Nat} {x0 n0 n1 : Nat} {P : Addr → Prop} {h0 : Heap} {K : List CD} {h : Heap} {H : AH} {k : Nat} {q : FieldType × List Value} (R : Rep Z σ x0 n0 n1 P h0 K h H) (e : H[k]? = some (.inr q)) : RepO Z σ K h (σ k) (.inr q) := ((R.2.2.2.1 k _ e).resolve_left (fun u => by cases u)).2
theorem Rep.objO {Z : State} {σ : Nat → Nat} {x0 n0 n1 : Nat} {P : Addr → Prop} {h0 : Heap} {K : List CD} {h : Heap} {H : AH} {k c : Nat} {vs : List Value} {d : CD} (R : Rep Z σ x0 n0 n1 P h0 K h H) (e : H[k]? = some (.inl (c, vs))) (hc : K[c]? = some d) : RepO Z σ K h (σ k) (.inl (c, vs)) := ((R.2.2.2.1 k _ e).resolve_left (fun u => by
  have q : c = 99 := congrArg (fun o : Ob => match o with | .inl q => q.1 | .inr _ => c) u
  rw [q, R.2.2.2.2.1.1] at hc; cases hc)).2
def KOk (Z : State) (a0 : Array Value) (K : List CD) : Prop := ∀ (c : Nat) (C : String) (fs : List (String × String × String)), K[c]? = some (C, fs) →
  (c < 2 → ∃ kk, (Jvm.Cond.instantiable C kk).before a0 Z = true) ∧ (∀ (i : Nat) (f : String × String × String), fs[i]? = some f → Laid Z a0 C f.1 f.2.1 f.2.2 ∧ ∃ ty, parseFieldDescriptor f.2.2 = some ty) ∧
  ∀ (i j : Nat) (f g : String × String × String), fs[i]? = some f → fs[j]? = some g → f.2.1 = g.2.1 → i = j
section Reps
variable {Z : State} {σ : Nat → Nat} {x0 n0 n1 : Nat} {P : Addr → Prop} {h0 : Heap} {K : List CD} {h h' : Heap} {H : AH} {a0 : Array Value}
theorem RepO.ext {a : Addr} {o : Ob} (E : Ext h h') (R : RepO Z σ K h a o) : RepO Z σ K h' a o := by
  rcases o with ⟨c, vs⟩ | ⟨ty, vs⟩
  · obtain ⟨C, fs, h1, h2, h3⟩ := R
    exact ⟨C, fs, h1, h2.ext E, fun j v q => by obtain ⟨O, n, d, q1, q2⟩ := h3 j v q; exact ⟨O, n, d, q1, q2.ext E⟩⟩
  · obtain ⟨cell, h1, h2, h3, h4, h5⟩ := R
    exact ⟨cell, h1.ext E, h2, h3, h4, fun u q => (h5 u q).ext E⟩
theorem RepO.other {a b : Addr} {o : Ob} {sl : Nat} {v : Value} (W : Wr h h' a sl v) (R : RepO Z σ K h b o) (ne : b ≠ a) : RepO Z σ K h' b o := by
  rcases o with ⟨c, vs⟩ | ⟨ty, vs⟩
  · obtain ⟨C, fs, h1, h2, h3⟩ := R
    exact ⟨C, fs, h1, h2.wr W, fun j v q => by obtain ⟨O, n, d, q1, q2⟩ := h3 j v q; exact ⟨O, n, d, q1, q2.other W (Or.inl ne)⟩⟩
  · obtain ⟨cell, h1, h2, h3, h4, h5⟩ := R
    exact ⟨cell, h1.other W ne, h2, h3, h4, fun u q => (h5 u q).wr W⟩
theorem Rep.push (R : Rep Z σ x0 n0 n1 P h0 K h H) (E : Ext h h') (hs : h'.size = h.size + 1) {o : Ob} (ho : RepO Z σ K h' (σ H.length) o) : Rep Z σ x0 n0 n1 P h0 K h' (H ++ [o]) := by
  obtain ⟨r1, r2, r3, r4, r5, r6, r7, r8, r9⟩ := R
  refine ⟨fun k hk => ?_, by simp; omega, r3.ext E, fun k o' q => ?_, r5, fun y c p q => E.2 _ _ (r6 y c p q), fun k hk k8 => ?_, by omega, by simp; omega⟩
  rotate_left 2
  · simp only [List.length_append, List.length_cons, List.length_nil] at hk
    have q1 := r1 H.length (Nat.le_refl _)
    rcases Nat.lt_or_ge k H.length with q | q
    · have := r7 k q k8; omega
    · obtain rfl : k = H.length := by omega
      omega
  · simp only [List.length_append, List.length_cons, List.length_nil] at hk ⊢
    have := r1 k (by omega)
    omega
  rcases Nat.lt_trichotomy k H.length with a | a | a
  · rw [List.getElem?_append_left a] at q; exact (r4 k o' q).imp id fun u => ⟨u.1, u.2.ext E⟩
  · subst a; simp at q; subst q; exact Or.inr ⟨by have := r5.2; omega, ho⟩
  · rw [List.getElem?_append_right (Nat.le_of_lt a), List.getElem?_eq_none (by simp; omega)] at q; cases q
theorem Rep.addr (S : Sg σ x0 n0 P h0) (R : Rep Z σ x0 n0 n1 P h0 K h H) : σ H.length = h.size := by have := R.1 H.length (Nat.le_refl _); omega
theorem Rep.write (S : Sg σ x0 n0 P h0) (R : Rep Z σ x0 n0 n1 P h0 K h H) {k sl : Nat} {v : Value} {o : Ob} (hk : x0 ≤ k) (W : Wr h h' (σ k) sl v) (ho : RepO Z σ K h' (σ k) o) : Rep Z σ x0 n0 n1 P h0 K h' (H.set k o) := by
  obtain ⟨r1, r2, r3, r4, r5, r6, r7, r8, r9⟩ := R
  refine ⟨fun j hj => by rw [W.size]; simpa using r1 j (by simpa using hj), by simpa using r2, r3.wr W (S.new hk), fun j o' q => ?_, r5, fun y c p q => ?_, fun j hj j8 => by rw [W.size]; exact r7 j (by simpa using hj) j8, by rw [W.size]; exact r8, by simpa using r9⟩
  · by_cases e : k = j
    · subst e
      by_cases hl : k < H.length
      · rw [List.getElem?_set_self hl] at q; cases q; exact Or.inr ⟨by have := r5.2; omega, ho⟩
      · rw [List.getElem?_eq_none (by simp; omega)] at q; cases q
    · rw [List.getElem?_set_ne e] at q
      exact (r4 j o' q).imp id fun w8 => ⟨w8.1, w8.2.other W (S.ne hk w8.1 fun u => e u.symm)⟩
  · have ne : y ≠ σ k := fun u => (S.1 k hk).2 (u ▸ p)
    obtain ⟨c0, w1, w2, w3, rfl⟩ := W
    rw [Array.getElem?_setIfInBounds_ne (fun u => ne u.symm)]
    exact r6 y c p q
theorem cv_fits (ty : FieldType) (v : Value) : fits ty (cv σ v) = fits ty v := by cases v <;> first | rfl | (cases ty <;> rfl)
theorem RepO.fld (KO : KOk Z a0 K) {a : Addr} {c j : Nat} {vs : List Value} {v : Value} {C O n d : String} {fs : List (String × String × String)} (hC : K[c]? = some (C, fs)) (hj : fs[j]? = some (O, n, d)) (R : RepO Z σ K h a (.inl (c, vs))) (W : Wr h h' a (Jvm.RoadKit.slotOf Z O n d) (cv σ v)) : RepO Z σ K h' a (.inl (c, vs.set j v)) := by
  obtain ⟨C', fs', h1, h2, h3⟩ := R
  cases hC.symm.trans h1
  obtain ⟨-, k2, k3⟩ := KO c C fs hC
  refine ⟨C, fs, hC, h2.wr W, fun i w q => ?_⟩
  by_cases e : j = i
  · subst e
    by_cases hl : j < vs.length
    · rw [List.getElem?_set_self hl] at q; cases q
      obtain ⟨O', n', d', q1, q2⟩ := h3 j _ (List.getElem?_eq_getElem hl)
      cases hj.symm.trans q1
      exact ⟨O, n, d, hj, q2.same W⟩
    · rw [List.getElem?_eq_none (by simp; omega)] at q; cases q
  · rw [List.getElem?_set_ne e] at q
    obtain ⟨O', n', d', q1, q2⟩ := h3 i w q
    obtain ⟨l1, t1, p1⟩ := k2 j _ hj
    obtain ⟨l2, t2, p2⟩ := k2 i _ q1
    exact ⟨O', n', d', q1, q2.other W (Or.inr (slot_ne l2 l1 (fun u => e (k3 j i _ _ hj q1 u.symm)) p2 p1))⟩
theorem RepO.arr {a : Addr} {i : Nat} {ty : FieldType} {vs : List Value} {v : Value} (R : RepO Z σ K h a (.inr (ty, vs))) (hf : fits ty v = true) (W : Wr h h' a i (cv σ v)) : RepO Z σ K h' a (.inr (ty, vs.set i v)) := by
  obtain ⟨cell, h1, h2, h3, h4, h5⟩ := R
  refine ⟨_, h1.same W, ?_, by simpa using h3, fun w hw => ?_, fun u q => (h5 u q).wr W⟩
  · simp [Cell.setSlot, h2]
  · rcases List.mem_or_eq_of_mem_set hw with q | rfl
    · exact h4 w q
    · exact hf
theorem arr_some {H : AH} {k : Nat} {q : FieldType × List Value} (e : arr H k = some q) : H[k]? = some (.inr q) := by
  unfold arr at e; split at e
  · rename_i q' hq; cases e; exact hq
  · cases e
end Reps
/-! ## 3. One step of the machine is a orun of the JVM -/
section Sound
def Good (p : Program) (l : Launch) (e : Env) (R : Room) (s : State) (m : MethodId) (args : Array Value) (below : List Frame) (meth : Method) (c : Code) (Z : State) (σ : Nat → Nat) (x0 n0 n1 : Nat) (P : Addr → Prop) (h0 : Heap) (K : List CD) (i : Instr) (act : Act) : Prop :=
  ∀ (T : State) (locs : List Loc) (cs ss pc : Nat) (L : List Slot) (S : List Value) (H : AH) (S' : List Value) (H' : AH) (cs' ss' : Nat), Stand p l e R s m args below meth c T locs cs ss → decode c.code pc = .ok (i, il i) → L.length = c.maxLocals → Rep Z σ x0 n0 n1 P h0 K T.heap H → Fr n0 locs → cs ≤ R.cells ∧ ss ≤ R.slots → act S H cs ss = some (S', H', cs', ss') →
    ∃ T' locs', Stand p l e R s m args below meth c T' locs' cs' ss' ∧ Rep Z σ x0 n0 n1 P h0 K T'.heap H' ∧ Fr n0 locs' ∧ (cs' ≤ R.cells ∧ ss' ≤ R.slots) ∧ ∀ target, Steps p.tables e below (T'.setTop (mkF m (pc + il i) (cL σ L) (S'.map (cv σ)))) target → Steps p.tables e below (T.setTop (mkF m pc (cL σ L) (S.map (cv σ)))) target
def AllGood (p : Program) (l : Launch) (e : Env) (R : Room) (s : State) (m : MethodId) (args : Array Value) (below : List Frame) (meth : Method) (c : Code) (Z : State) (σ : Nat → Nat) (x0 n0 n1 : Nat) (P : Addr → Prop) (h0 : Heap) (K : List CD) : List (Nat × Nat × Act) → Prop
  | [] => True
  | x :: r => Good p l e R s m args below meth c Z σ x0 n0 n1 P h0 K (insOf x.1 x.2.1) x.2.2 ∧ AllGood p l e R s m args below meth c Z σ x0 n0 n1 P h0 K r
/-- an act that may change the base and σ, said by what goes on behind it -/
def GoodD (p : Program) (l : Launch) (e : Env) (R : Room) (m : MethodId) (args : Array Value) (below : List Frame) (meth : Method) (c : Code) (Z : State) (x0 n0 n1 : Nat) (K : List CD) (Bs : State → (Nat → Nat) → (Addr → Prop) → Heap → Prop) (D : State → JFrame → Prop) (q : Option Nat) (i : Instr) (act : Act) : Prop :=
  ∀ (s : State) (σ : Nat → Nat) (P : Addr → Prop) (h0 : Heap) (T : State) (locs : List Loc) (cs ss pc : Nat) (L : List Slot) (S : List Value) (H : AH) (S' : List Value) (H' : AH) (cs' ss' : Nat), Bs s σ P h0 → Stand p l e R s m args below meth c T locs cs ss → decode c.code pc = .ok (i, il i) → L.length = c.maxLocals → Rep Z σ x0 n0 n1 P h0 K T.heap H → Fr n0 locs → cs ≤ R.cells ∧ ss ≤ R.slots → act S H cs ss = some (S', H', cs', ss') →
    (∀ k, q = some k → chk i H k L S = true) →
    (∀ (s' : State) (σ' : Nat → Nat) (P' : Addr → Prop) (h0' : Heap) (T' : State) (locs' : List Loc), Bs s' σ' P' h0' → Stand p l e R s' m args below meth c T' locs' cs' ss' → Rep Z σ' x0 n0 n1 P' h0' K T'.heap H' → Fr n0 locs' → (cs' ≤ R.cells ∧ ss' ≤ R.slots) → D T' (mkF m (pc + il i) (cL σ' L) (S'.map (cv σ')))) →
    D T (mkF m pc (cL σ L) (S.map (cv σ)))
def AllGoodD (p : Program) (l : Launch) (e : Env) (R : Room) (m : MethodId) (args : Array Value) (below : List Frame) (meth : Method) (c : Code) (Z : State) (x0 n0 n1 : Nat) (K : List CD) (Bs : State → (Nat → Nat) → (Addr → Prop) → Heap → Prop) (D : State → JFrame → Prop) (E0 : List (Nat × Nat × Act)) : List (Nat × Nat × Act) → Prop
  | [] => True
  | x :: r => GoodD p l e R m args below meth c Z x0 n0 n1 K Bs D (if x.1 = 0 ∨ x.1 = 8 then litI x.2.1 E0 else none) (insOf x.1 x.2.1) x.2.2 ∧ AllGoodD p l e R m args below meth c Z x0 n0 n1 K Bs D E0 r
/-- the end: it has returned v, over the heap H' -/
def Done (p : Program) (e : Env) (R : Room) (s : State) (below : List Frame) (Z : State) (σ : Nat → Nat) (x0 n0 n1 : Nat) (P : Addr → Prop) (h0 : Heap) (K : List CD) (r : ORes) (T : State) (g : JFrame) : Prop :=
  ∃ t, Steps p.tables e below (T.setTop g) t ∧ t.status = .running ∧ Ended t below (.returned (r.1.map (cv σ))) ∧ Rep Z σ x0 n0 n1 P h0 K t.heap r.2 ∧ ∃ L, Fr n0 L ∧ s.WarmedH t.vm ∧ s.sameButNew ({ t with vm := s.vm } : State) L R.cells R.slots
variable {p : Program} {l : Launch} {e : Env} {R : Room} {s : State} {m : MethodId} {args : Array Value} {below : List Frame} {meth : Method} {c : Code} {Z : State} {σ : Nat → Nat} {x0 n0 n1 : Nat} {P : Addr → Prop} {h0 : Heap} {K : List CD}
theorem look_goodD {Bs : State → (Nat → Nat) → (Addr → Prop) → Heap → Prop} {D : State → JFrame → Prop} {E E0 : List (Nat × Nat × Act)} {q i : Nat} {act : Act} (h : AllGoodD p l e R m args below meth c Z x0 n0 n1 K Bs D E0 E) (hl : look q i E = some act) : GoodD p l e R m args below meth c Z x0 n0 n1 K Bs D (if q = 0 ∨ q = 8 then litI i E0 else none) (insOf q i) act := by
  induction E with
  | nil => cases hl
  | cons x r ih =>
    unfold look at hl
    split at hl
    · rename_i hq; cases hl; obtain ⟨rfl, rfl⟩ := hq; exact h.1
    · exact ih h.2 hl
theorem Done.step {r : ORes} {T T' : State} {g g' : JFrame} (D : Done p e R s below Z σ x0 n0 n1 P h0 K r T' g') (st : ∀ target, Steps p.tables e below (T'.setTop g') target → Steps p.tables e below (T.setTop g) target) : Done p e R s below Z σ x0 n0 n1 P h0 K r T g := by
  obtain ⟨t, h1, h2⟩ := D; exact ⟨t, st _ h1, h2⟩
theorem gI_ok {L : List Slot} {k : Nat} {v : Int32} (h : gI L k = some v) : (cL σ L)[k]? = some (.val (.int v)) := by
  unfold gI at h; split at h
  · rename_i w hw; cases h; simp [cL, hw, csl, cv]
  · cases h
theorem gL_ok {L : List Slot} {k : Nat} {v : Int64} (h : gL L k = some v) : (cL σ L)[k]? = some (.val (.long v)) := by
  unfold gL at h; split at h
  · rename_i w hw; cases h; simp [cL, hw, csl, cv]
  · cases h
theorem gA_ok {L : List Slot} {k : Nat} {v : Value} (h : gA L k = some v) : (cL σ L)[k]? = some (.val (cv σ v)) ∧ (cv σ v).isRef = true := by
  unfold gA at h; split at h
  · rename_i w hw; cases h; simp [cL, hw, csl, cv, Value.isRef]
  · rename_i hw; cases h; simp [cL, hw, csl, cv, Value.isRef]
  · cases h
theorem st1_ok {L L' : List Slot} {k : Nat} {v : Value} (h : st1 L k v = some L') (hv : v.category = 1) : storeLocals (cL σ L) k (cv σ v) = some (cL σ L') ∧ L'.length = L.length := by
  have hv' : (cv σ v).category = 1 := by cases v <;> first | rfl | exact hv
  have key : ∀ o : Slot, L[k]? = some o → One (csl σ o) → L' = L.set k (.val v) → storeLocals (cL σ L) k (cv σ v) = some (cL σ L') ∧ L'.length = L.length := by
    intro o ho h1 e
    subst e
    refine ⟨?_, by simp⟩
    rw [XS.store1 (o := csl σ o) (by simp [cL, ho]) h1 hv']
    simp [cL, csl, List.map_set]
  unfold st1 at h; split at h <;> first | cases h | skip
  all_goals (rename_i ho; exact key _ ho (by first | exact One.u | exact One.val rfl) rfl)
theorem st2_ok {L L' : List Slot} {k : Nat} {x : Int64} (h : st2 L k x = some L') : storeLocals (cL σ L) k (.long x) = some (cL σ L') ∧ L'.length = L.length := by
  unfold st2 at h; split at h
  · rename_i h1 h2
    cases h
    refine ⟨?_, by simp⟩
    obtain ⟨b1, g1⟩ := List.getElem?_eq_some_iff.mp h1
    obtain ⟨b2, g2⟩ := List.getElem?_eq_some_iff.mp h2
    simp [storeLocals, storeSelf, setAt, cL, csl, cv, h1, h2, b1, b2, g1, g2, Value.category, List.map_set, List.getElem?_set]
  · rename_i y h1 h2
    cases h
    refine ⟨?_, by simp⟩
    obtain ⟨b1, g1⟩ := List.getElem?_eq_some_iff.mp h1
    obtain ⟨b2, g2⟩ := List.getElem?_eq_some_iff.mp h2
    simp [storeLocals, storeSelf, setAt, cL, csl, cv, h1, h2, b1, b2, g1, g2, Value.category, List.map_set, List.getElem?_set]
    rw [List.set_comm _ _ (show k + 1 ≠ k by omega), List.set_set]
  · cases h
theorem pI_ok {S : List Value} {f : Int32 → List Value → Option ORes} {r : ORes} (h : pI S f = some r) : ∃ x S', S = .int x :: S' ∧ f x S' = some r := by
  unfold pI at h; split at h
  · exact ⟨_, _, rfl, h⟩
  · cases h
theorem pL_ok {S : List Value} {f : Int64 → List Value → Option ORes} {r : ORes} (h : pL S f = some r) : ∃ x S', S = .long x :: S' ∧ f x S' = some r := by
  unfold pL at h; split at h
  · exact ⟨_, _, rfl, h⟩
  · cases h
theorem pR_ok {S : List Value} {f : Nat → List Value → Option ORes} {r : ORes} (h : pR S f = some r) : ∃ x S', S = .ref x :: S' ∧ f x S' = some r := by
  unfold pR at h; split at h
  · exact ⟨_, _, rfl, h⟩
  · cases h
theorem pA_ok {S : List Value} {f : Value → List Value → Option ORes} {r : ORes} (h : pA S f = some r) : ∃ x S', S = x :: S' ∧ f x S' = some r ∧ (x = .null ∨ ∃ a, x = .ref a) := by
  unfold pA at h; split at h
  · exact ⟨_, _, rfl, h, Or.inr ⟨_, rfl⟩⟩
  · exact ⟨_, _, rfl, h, Or.inl rfl⟩
  · cases h
theorem p1_ok {S : List Value} {f : Value → List Value → Option ORes} {r : ORes} (h : p1 S f = some r) : ∃ x S', S = x :: S' ∧ f x S' = some r ∧ (cv σ x).category = 1 := by
  unfold p1 at h; split at h
  · exact ⟨_, _, rfl, h, rfl⟩
  · exact ⟨_, _, rfl, h, rfl⟩
  · exact ⟨_, _, rfl, h, rfl⟩
  · cases h
theorem bind_ok {α : Type} {o : Option α} {f : α → Option ORes} {r : ORes} (h : o.bind f = some r) : ∃ x, o = some x ∧ f x = some r := Option.bind_eq_some_iff.mp h
theorem br_ok {b : Bool} {pc : Nat} {o : Int} {f : Nat → Option ORes} {r : ORes} (h : br b pc o f = some r) : 0 ≤ (pc : Int) + o ∧ ((b = true ∧ f ((pc : Int) + o).toNat = some r) ∨ (b = false ∧ f (pc + 3) = some r)) := by
  unfold br at h; split at h
  · rename_i q; cases b
    · exact ⟨q, Or.inr ⟨rfl, h⟩⟩
    · exact ⟨q, Or.inl ⟨rfl, h⟩⟩
  · cases h
theorem ref_of {x : Value} (h : x = .null ∨ ∃ a, x = .ref a) : (cv σ x).isRef = true ∧ x.category = 1 := by rcases h with rfl | ⟨a, rfl⟩ <;> exact ⟨rfl, rfl⟩
theorem refEq_ok (hsg : Sg σ x0 n0 P h0) {x y : Value} (hc : okc x0 x y = true) (hx : x = .null ∨ ∃ a, x = .ref a) (hy : y = .null ∨ ∃ a, y = .ref a) : decide (cv σ x = cv σ y) = refEq x y := by
  rcases hx with rfl | ⟨a, rfl⟩ <;> rcases hy with rfl | ⟨b, rfl⟩ <;> simp [cv, refEq]
  simp only [okc, decide_eq_true_eq] at hc
  refine ⟨fun h => ?_, fun h => by rw [h]⟩
  rcases hc with q | q | q
  · exact q
  · rcases q.1 with z | z
    · exact hsg.2.1 a b z q.2.2 h
    · exact (hsg.2.1 b a z q.2.1 h.symm).symm
  · exact hsg.2.2 a b q.1 q.2 h
theorem size_cL {L : List Slot} : (cL σ L).size = L.length := by simp [cL]
theorem inB {cell : Cell} {j : Int32} {v : Value} (h : ¬ j < 0) (hv : cell.slots[j.toNatClampNeg]? = some v) : ¬ (j < 0 ∨ cell.slots.size ≤ j.toNatClampNeg) := fun q => q.elim h fun q => by rw [Array.getElem?_eq_none q] at hv; cases hv
set_option maxHeartbeats 4000000 in
theorem ex_soundD {rt : Option FieldType} {E : List (Nat × Nat × Act)} {k : St → Option ORes} {res : ORes} {Bs : State → (Nat → Nat) → (Addr → Prop) → Heap → Prop} {D : State → JFrame → Prop} (hx : p.tables.exec = Jvm.exec) (hbs : ∀ s σ P h0, Bs s σ P h0 → Z.Warmed39 s.vm ∧ Sg σ x0 n0 P h0) (hrt : meth.sig.returnType = rt) (hlk : meth.locks = false) (hE : AllGoodD p l e R m args below meth c Z x0 n0 n1 K Bs D E E)
    (hstep : ∀ (T T' : State) (g g' : JFrame), D T' g' → (∀ target, Steps p.tables e below (T'.setTop g') target → Steps p.tables e below (T.setTop g) target) → D T g)
    (hdone : ∀ (s : State) (σ : Nat → Nat) (P : Addr → Prop) (h0 : Heap) (T : State) (g : JFrame), Bs s σ P h0 → Done p e R s below Z σ x0 n0 n1 P h0 K res T g → D T g)
    (hk : ∀ (s : State) (σ : Nat → Nat) (P : Addr → Prop) (h0 : Heap) (T : State) (locs : List Loc) (cs ss pc : Nat) (L : List Slot) (S : List Value) (H : AH), Bs s σ P h0 → Stand p l e R s m args below meth c T locs cs ss → L.length = c.maxLocals → Rep Z σ x0 n0 n1 P h0 K T.heap H → Fr n0 locs → cs ≤ R.cells ∧ ss ≤ R.slots → k (pc, L, S, H, cs, ss) = some res → D T (mkF m pc (cL σ L) (S.map (cv σ))))
    {T : State} {locs : List Loc} {cs ss pc : Nat} {i : Instr} {L : List Slot} {S : List Value} {H : AH} (hb : Bs s σ P h0) (X : Stand p l e R s m args below meth c T locs cs ss) (hd : decode c.code pc = .ok (i, il i)) (hL : L.length = c.maxLocals) (hR : Rep Z σ x0 n0 n1 P h0 K T.heap H) (hF : Fr n0 locs) (hB : cs ≤ R.cells ∧ ss ≤ R.slots)
    (h : ex rt E x0 k i pc L S H cs ss = some res) : D T (mkF m pc (cL σ L) (S.map (cv σ))) := by
  obtain ⟨hZ, hsg⟩ := hbs s σ P h0 hb
  cases i with
  | iload n =>
    dsimp only [ex] at h
    replace h := bind_ok h
    obtain ⟨v, h1, h⟩ := h
    exact hstep _ _ _ _ (hk s σ P h0 _ _ _ _ _ _ _ _ hb X hL hR hF hB h) (fun t q => XS.iload X.here hx rfl hd (gI_ok h1) q)
  | iload_n n =>
    dsimp only [ex] at h
    replace h := bind_ok h
    obtain ⟨v, h1, h⟩ := h
    exact hstep _ _ _ _ (hk s σ P h0 _ _ _ _ _ _ _ _ hb X hL hR hF hB h) (fun t q => XS.iloadN X.here hx rfl hd (gI_ok h1) q)
  | lload n =>
    dsimp only [ex] at h
    replace h := bind_ok h
    obtain ⟨v, h1, h⟩ := h
    exact hstep _ _ _ _ (hk s σ P h0 _ _ _ _ _ _ _ _ hb X hL hR hF hB h) (fun t q => XS.lload X.here hx rfl hd (gL_ok h1) q)
  | lload_n n =>
    dsimp only [ex] at h
    replace h := bind_ok h
    obtain ⟨v, h1, h⟩ := h
    exact hstep _ _ _ _ (hk s σ P h0 _ _ _ _ _ _ _ _ hb X hL hR hF hB h) (fun t q => XS.lloadN X.here hx rfl hd (gL_ok h1) q)
  | aload n =>
    dsimp only [ex] at h
    replace h := bind_ok h
    obtain ⟨v, h1, h⟩ := h
    exact hstep _ _ _ _ (hk s σ P h0 _ _ _ _ _ _ _ _ hb X hL hR hF hB h) (fun t q => XS.aload X.here hx rfl hd (gA_ok h1).1 (gA_ok (σ := σ) h1).2 q)
  | aload_n n =>
    dsimp only [ex] at h
    replace h := bind_ok h
    obtain ⟨v, h1, h⟩ := h
    exact hstep _ _ _ _ (hk s σ P h0 _ _ _ _ _ _ _ _ hb X hL hR hF hB h) (fun t q => XS.aloadN X.here hx rfl hd (gA_ok h1).1 (gA_ok (σ := σ) h1).2 q)
  | istore n =>
    dsimp only [ex] at h
    replace h := pI_ok h
    obtain ⟨x, S1, rfl, h⟩ := h
    replace h := bind_ok h
    obtain ⟨L1, h1, h⟩ := h
    have h2 := st1_ok (σ := σ) h1 rfl
    exact hstep _ _ _ _ (hk s σ P h0 _ _ _ _ _ _ _ _ hb X (h2.2.trans hL) hR hF hB h) (fun t q => XS.istore X.here hx rfl hd rfl h2.1 q)
  | istore_n n =>
    dsimp only [ex] at h
    replace h := pI_ok h
    obtain ⟨x, S1, rfl, h⟩ := h
    replace h := bind_ok h
    obtain ⟨L1, h1, h⟩ := h
    have h2 := st1_ok (σ := σ) h1 rfl
    exact hstep _ _ _ _ (hk s σ P h0 _ _ _ _ _ _ _ _ hb X (h2.2.trans hL) hR hF hB h) (fun t q => XS.istoreN X.here hx rfl hd rfl h2.1 q)
  | lstore n =>
    dsimp only [ex] at h
    replace h := pL_ok h
    obtain ⟨x, S1, rfl, h⟩ := h
    replace h := bind_ok h
    obtain ⟨L1, h1, h⟩ := h
    have h2 := st2_ok (σ := σ) h1
    exact hstep _ _ _ _ (hk s σ P h0 _ _ _ _ _ _ _ _ hb X (h2.2.trans hL) hR hF hB h) (fun t q => XS.lstore X.here hx rfl hd rfl h2.1 q)
  | lstore_n n =>
    dsimp only [ex] at h
    replace h := pL_ok h
    obtain ⟨x, S1, rfl, h⟩ := h
    replace h := bind_ok h
    obtain ⟨L1, h1, h⟩ := h
    have h2 := st2_ok (σ := σ) h1
    exact hstep _ _ _ _ (hk s σ P h0 _ _ _ _ _ _ _ _ hb X (h2.2.trans hL) hR hF hB h) (fun t q => XS.lstoreN X.here hx rfl hd rfl h2.1 q)
  | astore n =>
    dsimp only [ex] at h
    replace h := pA_ok h
    obtain ⟨x, S1, rfl, h, hr⟩ := h
    replace h := bind_ok h
    obtain ⟨L1, h1, h⟩ := h
    have h2 := st1_ok (σ := σ) h1 (ref_of (σ := σ) hr).2
    exact hstep _ _ _ _ (hk s σ P h0 _ _ _ _ _ _ _ _ hb X (h2.2.trans hL) hR hF hB h) (fun t q => XS.astore X.here hx rfl hd rfl (ref_of hr).1 h2.1 q)
  | astore_n n =>
    dsimp only [ex] at h
    replace h := pA_ok h
    obtain ⟨x, S1, rfl, h, hr⟩ := h
    replace h := bind_ok h
    obtain ⟨L1, h1, h⟩ := h
    have h2 := st1_ok (σ := σ) h1 (ref_of (σ := σ) hr).2
    exact hstep _ _ _ _ (hk s σ P h0 _ _ _ _ _ _ _ _ hb X (h2.2.trans hL) hR hF hB h) (fun t q => XS.astoreN X.here hx rfl hd rfl (ref_of hr).1 h2.1 q)
  | iinc n cst =>
    dsimp only [ex] at h
    replace h := bind_ok h
    obtain ⟨v, h1, h⟩ := h
    replace h := bind_ok h
    obtain ⟨L1, h2, h⟩ := h
    have h2 := st1_ok (σ := σ) h2 rfl
    exact hstep _ _ _ _ (hk s σ P h0 _ _ _ _ _ _ _ _ hb X (h2.2.trans hL) hR hF hB h) (fun t q => XS.iinc X.here hx rfl hd (gI_ok h1) h2.1 q)
  | iconst cst =>
    dsimp only [ex] at h
    exact hstep _ _ _ _ (hk s σ P h0 _ _ _ _ _ _ _ _ hb X hL hR hF hB h) (fun t q => XS.iconst X.here hx rfl hd q)
  | bipush cst =>
    dsimp only [ex] at h
    exact hstep _ _ _ _ (hk s σ P h0 _ _ _ _ _ _ _ _ hb X hL hR hF hB h) (fun t q => XS.bipush X.here hx rfl hd q)
  | sipush cst =>
    dsimp only [ex] at h
    exact hstep _ _ _ _ (hk s σ P h0 _ _ _ _ _ _ _ _ hb X hL hR hF hB h) (fun t q => XS.sipush X.here hx rfl hd q)
  | lconst cst =>
    dsimp only [ex] at h
    exact hstep _ _ _ _ (hk s σ P h0 _ _ _ _ _ _ _ _ hb X hL hR hF hB h) (fun t q => XS.lconst X.here hx rfl hd q)
  | aconst_null =>
    dsimp only [ex] at h
    exact hstep _ _ _ _ (hk s σ P h0 _ _ _ _ _ _ _ _ hb X hL hR hF hB h) (fun t q => XS.aconstNull X.here hx rfl hd q)
  | iadd =>
    dsimp only [ex] at h
    replace h := pI_ok h
    obtain ⟨y, S1, rfl, h⟩ := h
    replace h := pI_ok h
    obtain ⟨x, S2, rfl, h⟩ := h
    exact hstep _ _ _ _ (hk s σ P h0 _ _ _ _ _ _ _ _ hb X hL hR hF hB h) (fun t q => XS.iadd X.here hx rfl hd rfl q)
  | isub =>
    dsimp only [ex] at h
    replace h := pI_ok h
    obtain ⟨y, S1, rfl, h⟩ := h
    replace h := pI_ok h
    obtain ⟨x, S2, rfl, h⟩ := h
    exact hstep _ _ _ _ (hk s σ P h0 _ _ _ _ _ _ _ _ hb X hL hR hF hB h) (fun t q => XS.isub X.here hx rfl hd rfl q)
  | imul =>
    dsimp only [ex] at h
    replace h := pI_ok h
    obtain ⟨y, S1, rfl, h⟩ := h
    replace h := pI_ok h
    obtain ⟨x, S2, rfl, h⟩ := h
    exact hstep _ _ _ _ (hk s σ P h0 _ _ _ _ _ _ _ _ hb X hL hR hF hB h) (fun t q => XS.imul X.here hx rfl hd rfl q)
  | iand =>
    dsimp only [ex] at h
    replace h := pI_ok h
    obtain ⟨y, S1, rfl, h⟩ := h
    replace h := pI_ok h
    obtain ⟨x, S2, rfl, h⟩ := h
    exact hstep _ _ _ _ (hk s σ P h0 _ _ _ _ _ _ _ _ hb X hL hR hF hB h) (fun t q => XS.iand X.here hx rfl hd rfl q)
  | ior =>
    dsimp only [ex] at h
    replace h := pI_ok h
    obtain ⟨y, S1, rfl, h⟩ := h
    replace h := pI_ok h
    obtain ⟨x, S2, rfl, h⟩ := h
    exact hstep _ _ _ _ (hk s σ P h0 _ _ _ _ _ _ _ _ hb X hL hR hF hB h) (fun t q => XS.ior X.here hx rfl hd rfl q)
  | ixor =>
    dsimp only [ex] at h
    replace h := pI_ok h
    obtain ⟨y, S1, rfl, h⟩ := h
    replace h := pI_ok h
    obtain ⟨x, S2, rfl, h⟩ := h
    exact hstep _ _ _ _ (hk s σ P h0 _ _ _ _ _ _ _ _ hb X hL hR hF hB h) (fun t q => XS.ixor X.here hx rfl hd rfl q)
  | ishl =>
    dsimp only [ex] at h
    replace h := pI_ok h
    obtain ⟨y, S1, rfl, h⟩ := h
    replace h := pI_ok h
    obtain ⟨x, S2, rfl, h⟩ := h
    exact hstep _ _ _ _ (hk s σ P h0 _ _ _ _ _ _ _ _ hb X hL hR hF hB h) (fun t q => XS.ishl X.here hx rfl hd rfl q)
  | ishr =>
    dsimp only [ex] at h
    replace h := pI_ok h
    obtain ⟨y, S1, rfl, h⟩ := h
    replace h := pI_ok h
    obtain ⟨x, S2, rfl, h⟩ := h
    exact hstep _ _ _ _ (hk s σ P h0 _ _ _ _ _ _ _ _ hb X hL hR hF hB h) (fun t q => XS.ishr X.here hx rfl hd rfl q)
  | iushr =>
    dsimp only [ex] at h
    replace h := pI_ok h
    obtain ⟨y, S1, rfl, h⟩ := h
    replace h := pI_ok h
    obtain ⟨x, S2, rfl, h⟩ := h
    exact hstep _ _ _ _ (hk s σ P h0 _ _ _ _ _ _ _ _ hb X hL hR hF hB h) (fun t q => XS.iushr X.here hx rfl hd rfl q)
  | ladd =>
    dsimp only [ex] at h
    replace h := pL_ok h
    obtain ⟨y, S1, rfl, h⟩ := h
    replace h := pL_ok h
    obtain ⟨x, S2, rfl, h⟩ := h
    exact hstep _ _ _ _ (hk s σ P h0 _ _ _ _ _ _ _ _ hb X hL hR hF hB h) (fun t q => XS.ladd X.here hx rfl hd rfl q)
  | lsub =>
    dsimp only [ex] at h
    replace h := pL_ok h
    obtain ⟨y, S1, rfl, h⟩ := h
    replace h := pL_ok h
    obtain ⟨x, S2, rfl, h⟩ := h
    exact hstep _ _ _ _ (hk s σ P h0 _ _ _ _ _ _ _ _ hb X hL hR hF hB h) (fun t q => XS.lsub X.here hx rfl hd rfl q)
  | lmul =>
    dsimp only [ex] at h
    replace h := pL_ok h
    obtain ⟨y, S1, rfl, h⟩ := h
    replace h := pL_ok h
    obtain ⟨x, S2, rfl, h⟩ := h
    exact hstep _ _ _ _ (hk s σ P h0 _ _ _ _ _ _ _ _ hb X hL hR hF hB h) (fun t q => XS.lmul X.here hx rfl hd rfl q)
  | land =>
    dsimp only [ex] at h
    replace h := pL_ok h
    obtain ⟨y, S1, rfl, h⟩ := h
    replace h := pL_ok h
    obtain ⟨x, S2, rfl, h⟩ := h
    exact hstep _ _ _ _ (hk s σ P h0 _ _ _ _ _ _ _ _ hb X hL hR hF hB h) (fun t q => XS.land X.here hx rfl hd rfl q)
  | lor =>
    dsimp only [ex] at h
    replace h := pL_ok h
    obtain ⟨y, S1, rfl, h⟩ := h
    replace h := pL_ok h
    obtain ⟨x, S2, rfl, h⟩ := h
    exact hstep _ _ _ _ (hk s σ P h0 _ _ _ _ _ _ _ _ hb X hL hR hF hB h) (fun t q => XS.lor X.here hx rfl hd rfl q)
  | lxor =>
    dsimp only [ex] at h
    replace h := pL_ok h
    obtain ⟨y, S1, rfl, h⟩ := h
    replace h := pL_ok h
    obtain ⟨x, S2, rfl, h⟩ := h
    exact hstep _ _ _ _ (hk s σ P h0 _ _ _ _ _ _ _ _ hb X hL hR hF hB h) (fun t q => XS.lxor X.here hx rfl hd rfl q)
  | lcmp =>
    dsimp only [ex] at h
    replace h := pL_ok h
    obtain ⟨y, S1, rfl, h⟩ := h
    replace h := pL_ok h
    obtain ⟨x, S2, rfl, h⟩ := h
    exact hstep _ _ _ _ (hk s σ P h0 _ _ _ _ _ _ _ _ hb X hL hR hF hB h) (fun t q => XS.lcmp X.here hx rfl hd rfl q)
  | lshl =>
    dsimp only [ex] at h
    replace h := pI_ok h
    obtain ⟨y, S1, rfl, h⟩ := h
    replace h := pL_ok h
    obtain ⟨x, S2, rfl, h⟩ := h
    exact hstep _ _ _ _ (hk s σ P h0 _ _ _ _ _ _ _ _ hb X hL hR hF hB h) (fun t q => XS.lshl X.here hx rfl hd rfl q)
  | lshr =>
    dsimp only [ex] at h
    replace h := pI_ok h
    obtain ⟨y, S1, rfl, h⟩ := h
    replace h := pL_ok h
    obtain ⟨x, S2, rfl, h⟩ := h
    exact hstep _ _ _ _ (hk s σ P h0 _ _ _ _ _ _ _ _ hb X hL hR hF hB h) (fun t q => XS.lshr X.here hx rfl hd rfl q)
  | lushr =>
    dsimp only [ex] at h
    replace h := pI_ok h
    obtain ⟨y, S1, rfl, h⟩ := h
    replace h := pL_ok h
    obtain ⟨x, S2, rfl, h⟩ := h
    exact hstep _ _ _ _ (hk s σ P h0 _ _ _ _ _ _ _ _ hb X hL hR hF hB h) (fun t q => XS.lushr X.here hx rfl hd rfl q)
  | idiv =>
    dsimp only [ex] at h
    replace h := pI_ok h
    obtain ⟨y, S1, rfl, h⟩ := h
    replace h := pI_ok h
    obtain ⟨x, S2, rfl, h⟩ := h
    split at h
    · cases h
    · rename_i hy
      exact hstep _ _ _ _ (hk s σ P h0 _ _ _ _ _ _ _ _ hb X hL hR hF hB h) (fun t q => XS.idiv X.here hx rfl hd rfl hy q)
  | irem =>
    dsimp only [ex] at h
    replace h := pI_ok h
    obtain ⟨y, S1, rfl, h⟩ := h
    replace h := pI_ok h
    obtain ⟨x, S2, rfl, h⟩ := h
    split at h
    · cases h
    · rename_i hy
      exact hstep _ _ _ _ (hk s σ P h0 _ _ _ _ _ _ _ _ hb X hL hR hF hB h) (fun t q => iremM X hx rfl hd rfl hy q)
  | ldiv =>
    dsimp only [ex] at h
    replace h := pL_ok h
    obtain ⟨y, S1, rfl, h⟩ := h
    replace h := pL_ok h
    obtain ⟨x, S2, rfl, h⟩ := h
    split at h
    · cases h
    · rename_i hy
      exact hstep _ _ _ _ (hk s σ P h0 _ _ _ _ _ _ _ _ hb X hL hR hF hB h) (fun t q => XS.ldiv X.here hx rfl hd rfl hy q)
  | lrem =>
    dsimp only [ex] at h
    replace h := pL_ok h
    obtain ⟨y, S1, rfl, h⟩ := h
    replace h := pL_ok h
    obtain ⟨x, S2, rfl, h⟩ := h
    split at h
    · cases h
    · rename_i hy
      exact hstep _ _ _ _ (hk s σ P h0 _ _ _ _ _ _ _ _ hb X hL hR hF hB h) (fun t q => XS.lrem X.here hx rfl hd rfl hy (by rw [lrem_mod]; exact q))
  | ineg =>
    dsimp only [ex] at h
    replace h := pI_ok h
    obtain ⟨x, S1, rfl, h⟩ := h
    exact hstep _ _ _ _ (hk s σ P h0 _ _ _ _ _ _ _ _ hb X hL hR hF hB h) (fun t q => XS.ineg X.here hx rfl hd rfl q)
  | i2b =>
    dsimp only [ex] at h
    replace h := pI_ok h
    obtain ⟨x, S1, rfl, h⟩ := h
    exact hstep _ _ _ _ (hk s σ P h0 _ _ _ _ _ _ _ _ hb X hL hR hF hB h) (fun t q => XS.i2b X.here hx rfl hd rfl q)
  | i2c =>
    dsimp only [ex] at h
    replace h := pI_ok h
    obtain ⟨x, S1, rfl, h⟩ := h
    exact hstep _ _ _ _ (hk s σ P h0 _ _ _ _ _ _ _ _ hb X hL hR hF hB h) (fun t q => XS.i2c X.here hx rfl hd rfl q)
  | i2s =>
    dsimp only [ex] at h
    replace h := pI_ok h
    obtain ⟨x, S1, rfl, h⟩ := h
    exact hstep _ _ _ _ (hk s σ P h0 _ _ _ _ _ _ _ _ hb X hL hR hF hB h) (fun t q => XS.i2s X.here hx rfl hd rfl q)
  | i2l =>
    dsimp only [ex] at h
    replace h := pI_ok h
    obtain ⟨x, S1, rfl, h⟩ := h
    exact hstep _ _ _ _ (hk s σ P h0 _ _ _ _ _ _ _ _ hb X hL hR hF hB h) (fun t q => XS.i2l X.here hx rfl hd rfl q)
  | l2i =>
    dsimp only [ex] at h
    replace h := pL_ok h
    obtain ⟨x, S1, rfl, h⟩ := h
    exact hstep _ _ _ _ (hk s σ P h0 _ _ _ _ _ _ _ _ hb X hL hR hF hB h) (fun t q => XS.l2i X.here hx rfl hd rfl q)
  | lneg =>
    dsimp only [ex] at h
    replace h := pL_ok h
    obtain ⟨x, S1, rfl, h⟩ := h
    exact hstep _ _ _ _ (hk s σ P h0 _ _ _ _ _ _ _ _ hb X hL hR hF hB h) (fun t q => XS.lneg X.here hx rfl hd rfl q)
  | dup =>
    dsimp only [ex] at h
    replace h := p1_ok (σ := σ) h
    obtain ⟨x, S1, rfl, h, h1⟩ := h
    exact hstep _ _ _ _ (hk s σ P h0 _ _ _ _ _ _ _ _ hb X hL hR hF hB h) (fun t q => XS.dup X.here hx rfl hd rfl h1 q)
  | pop =>
    dsimp only [ex] at h
    replace h := p1_ok (σ := σ) h
    obtain ⟨x, S1, rfl, h, h1⟩ := h
    exact hstep _ _ _ _ (hk s σ P h0 _ _ _ _ _ _ _ _ hb X hL hR hF hB h) (fun t q => XS.pop X.here hx rfl hd rfl h1 q)
  | dup_x1 =>
    dsimp only [ex] at h
    replace h := p1_ok (σ := σ) h
    obtain ⟨x, S1, rfl, h, h1⟩ := h
    replace h := p1_ok (σ := σ) h
    obtain ⟨y, S2, rfl, h, h2⟩ := h
    exact hstep _ _ _ _ (hk s σ P h0 _ _ _ _ _ _ _ _ hb X hL hR hF hB h) (fun t q => XS.dupX1 X.here hx rfl hd rfl h1 h2 q)
  | dup2 =>
    dsimp only [ex] at h
    replace h := p1_ok (σ := σ) h
    obtain ⟨x, S1, rfl, h, h1⟩ := h
    replace h := p1_ok (σ := σ) h
    obtain ⟨y, S2, rfl, h, h2⟩ := h
    exact hstep _ _ _ _ (hk s σ P h0 _ _ _ _ _ _ _ _ hb X hL hR hF hB h) (fun t q => XT.dup2 X.here hx rfl hd rfl h1 h2 q)
  | goto o =>
    dsimp only [ex] at h
    split at h
    · rename_i ho
      exact hstep _ _ _ _ (hk s σ P h0 _ _ _ _ _ _ _ _ hb X hL hR hF hB h) (fun t q => XS.goto X.here hx rfl rfl hd ho rfl q)
    · cases h
  | ifCond cd o =>
    dsimp only [ex] at h
    replace h := pI_ok h
    obtain ⟨x, S1, rfl, h⟩ := h
    replace h := br_ok h
    obtain ⟨ho, ⟨hc, h⟩ | ⟨hc, h⟩⟩ := h
    · exact hstep _ _ _ _ (hk s σ P h0 _ _ _ _ _ _ _ _ hb X hL hR hF hB h) (fun t q => XS.ifYes X.here hx rfl rfl hd rfl hc ho rfl q)
    · exact hstep _ _ _ _ (hk s σ P h0 _ _ _ _ _ _ _ _ hb X hL hR hF hB h) (fun t q => XS.ifNo X.here hx rfl hd rfl hc q)
  | if_icmp cd o =>
    dsimp only [ex] at h
    replace h := pI_ok h
    obtain ⟨y, S1, rfl, h⟩ := h
    replace h := pI_ok h
    obtain ⟨x, S2, rfl, h⟩ := h
    replace h := br_ok h
    obtain ⟨ho, ⟨hc, h⟩ | ⟨hc, h⟩⟩ := h
    · exact hstep _ _ _ _ (hk s σ P h0 _ _ _ _ _ _ _ _ hb X hL hR hF hB h) (fun t q => XS.icmpYes X.here hx rfl rfl hd rfl hc ho rfl q)
    · exact hstep _ _ _ _ (hk s σ P h0 _ _ _ _ _ _ _ _ hb X hL hR hF hB h) (fun t q => XS.icmpNo X.here hx rfl hd rfl hc q)
  | ifnull o =>
    dsimp only [ex] at h
    replace h := pA_ok h
    obtain ⟨x, S1, rfl, h, hr⟩ := h
    replace h := br_ok h
    obtain ⟨ho, ⟨hc, h⟩ | ⟨hc, h⟩⟩ := h
    · rcases hr with rfl | ⟨a, rfl⟩
      · exact hstep _ _ _ _ (hk s σ P h0 _ _ _ _ _ _ _ _ hb X hL hR hF hB h) (fun t q => XS.ifnullYes X.here hx rfl rfl hd rfl ho rfl q)
      · cases hc
    · rcases hr with rfl | ⟨a, rfl⟩
      · cases hc
      · exact hstep _ _ _ _ (hk s σ P h0 _ _ _ _ _ _ _ _ hb X hL hR hF hB h) (fun t q => XS.ifnullNo X.here hx rfl hd rfl q)
  | ifnonnull o =>
    dsimp only [ex] at h
    replace h := pA_ok h
    obtain ⟨x, S1, rfl, h, hr⟩ := h
    replace h := br_ok h
    obtain ⟨ho, ⟨hc, h⟩ | ⟨hc, h⟩⟩ := h
    · rcases hr with rfl | ⟨a, rfl⟩
      · cases hc
      · exact hstep _ _ _ _ (hk s σ P h0 _ _ _ _ _ _ _ _ hb X hL hR hF hB h) (fun t q => XS.ifnonnullYes X.here hx rfl rfl hd rfl ho rfl q)
    · rcases hr with rfl | ⟨a, rfl⟩
      · exact hstep _ _ _ _ (hk s σ P h0 _ _ _ _ _ _ _ _ hb X hL hR hF hB h) (fun t q => XS.ifnonnullNo X.here hx rfl hd rfl q)
      · cases hc
  | if_acmp cd o =>
    dsimp only [ex] at h
    replace h := pA_ok h
    obtain ⟨y, S1, rfl, h, hr⟩ := h
    replace h := pA_ok h
    obtain ⟨x, S2, rfl, h, hr'⟩ := h
    split at h
    · rename_i hcc
      replace h := br_ok h
      obtain ⟨ho, ⟨hc, h⟩ | ⟨hc, h⟩⟩ := h
      · exact hstep _ _ _ _ (hk s σ P h0 _ _ _ _ _ _ _ _ hb X hL hR hF hB h) (fun t q => acmp X hx rfl (ref_of hr').1 (ref_of hr).1 (same := refEq x y) rfl hd rfl (refEq_ok hsg hcc hr' hr) ho (by rw [if_pos hc]) q)
      · exact hstep _ _ _ _ (hk s σ P h0 _ _ _ _ _ _ _ _ hb X hL hR hF hB h) (fun t q => acmp X hx rfl (ref_of hr').1 (ref_of hr).1 (same := refEq x y) rfl hd rfl (refEq_ok hsg hcc hr' hr) ho (by rw [if_neg (by simp [hc])]) q)
    · cases h
  | arraylength =>
    dsimp only [ex] at h
    replace h := pR_ok h
    obtain ⟨a, S1, rfl, h⟩ := h
    replace h := bind_ok h
    obtain ⟨⟨ty, vs⟩, h1, h⟩ := h
    obtain ⟨cell, A, hs, hl, hfi, -⟩ := hR.arrO (arr_some h1)
    have hz : cell.slots.size.toInt32 = vs.length.toInt32 := by rw [hs]; simp
    have DD := hk s σ P h0 _ _ _ _ _ _ _ _ hb X hL hR hF hB h
    refine hstep _ _ _ _ DD fun t q => ?_
    refine X.arraylength hx (cell := cell) A.1 (State.isArrayOf_alike hZ.alike A.2.1) (g := mkF m pc (cL σ L) (.ref (σ a) :: S1.map (cv σ))) rfl rfl hd t ?_
    rw [hz]
    exact q
  | iaload =>
    dsimp only [ex, ald] at h
    replace h := pI_ok h
    obtain ⟨j, S1, rfl, h⟩ := h
    replace h := pR_ok h
    obtain ⟨a, S2, rfl, h⟩ := h
    replace h := bind_ok h
    obtain ⟨⟨ty, vs⟩, h1, h⟩ := h
    split at h
    · rename_i hq
      replace h := bind_ok h
      obtain ⟨v, h2, h⟩ := h
      obtain ⟨cell, A, hs, hl, hfi, -⟩ := hR.arrO (arr_some h1)
      obtain rfl : ty = .int := of_decide_eq_true hq.1
      have hv : cell.slots[j.toNatClampNeg]? = some (cv σ v) := by rw [hs, List.getElem?_toArray, List.getElem?_map, h2]; rfl
      exact hstep _ _ _ _ (hk s σ P h0 _ _ _ _ _ _ _ _ hb X hL hR hF hB h) (fun t q => X.iaload hx (cell := cell) (j := j) (v := cv σ v) A.1 (State.isArrayOf_alike hZ.alike A.2.1) A.2.2 (inB hq.2 hv) hv (g := mkF m pc (cL σ L) (.int j :: .ref (σ a) :: S2.map (cv σ))) rfl rfl hd t q)
    · cases h
  | baload =>
    dsimp only [ex, ald] at h
    replace h := pI_ok h
    obtain ⟨j, S1, rfl, h⟩ := h
    replace h := pR_ok h
    obtain ⟨a, S2, rfl, h⟩ := h
    replace h := bind_ok h
    obtain ⟨⟨ty, vs⟩, h1, h⟩ := h
    split at h
    · rename_i hq
      replace h := bind_ok h
      obtain ⟨v, h2, h⟩ := h
      obtain ⟨cell, A, hs, hl, hfi, -⟩ := hR.arrO (arr_some h1)
      have hv : cell.slots[j.toNatClampNeg]? = some (cv σ v) := by rw [hs, List.getElem?_toArray, List.getElem?_map, h2]; rfl
      cases ty with
      | byte => exact hstep _ _ _ _ (hk s σ P h0 _ _ _ _ _ _ _ _ hb X hL hR hF hB h) (fun t q => X.baloadBytes hx (cell := cell) (j := j) (v := cv σ v) A.1 (State.isArrayOf_alike hZ.alike A.2.1) A.2.2 (inB hq.2 hv) hv (g := mkF m pc (cL σ L) (.int j :: .ref (σ a) :: S2.map (cv σ))) rfl rfl hd t q)
      | boolean => exact hstep _ _ _ _ (hk s σ P h0 _ _ _ _ _ _ _ _ hb X hL hR hF hB h) (fun t q => X.baloadBooleans hx (cell := cell) (j := j) (v := cv σ v) A.1 (State.isArrayOf_alike hZ.alike A.2.1) A.2.2 (inB hq.2 hv) hv (g := mkF m pc (cL σ L) (.int j :: .ref (σ a) :: S2.map (cv σ))) rfl rfl hd t q)
      | _ => exact nomatch (show false = true from hq.1)
    · cases h
  | caload =>
    dsimp only [ex, ald] at h
    replace h := pI_ok h
    obtain ⟨j, S1, rfl, h⟩ := h
    replace h := pR_ok h
    obtain ⟨a, S2, rfl, h⟩ := h
    replace h := bind_ok h
    obtain ⟨⟨ty, vs⟩, h1, h⟩ := h
    split at h
    · rename_i hq
      replace h := bind_ok h
      obtain ⟨v, h2, h⟩ := h
      obtain ⟨cell, A, hs, hl, hfi, -⟩ := hR.arrO (arr_some h1)
      obtain rfl : ty = .char := of_decide_eq_true hq.1
      have hv : cell.slots[j.toNatClampNeg]? = some (cv σ v) := by rw [hs, List.getElem?_toArray, List.getElem?_map, h2]; rfl
      exact hstep _ _ _ _ (hk s σ P h0 _ _ _ _ _ _ _ _ hb X hL hR hF hB h) (fun t q => X.caload hx (cell := cell) (j := j) (v := cv σ v) A.1 (State.isArrayOf_alike hZ.alike A.2.1) A.2.2 (inB hq.2 hv) hv (g := mkF m pc (cL σ L) (.int j :: .ref (σ a) :: S2.map (cv σ))) rfl rfl hd t q)
    · cases h
  | laload =>
    dsimp only [ex, ald] at h
    replace h := pI_ok h
    obtain ⟨j, S1, rfl, h⟩ := h
    replace h := pR_ok h
    obtain ⟨a, S2, rfl, h⟩ := h
    replace h := bind_ok h
    obtain ⟨⟨ty, vs⟩, h1, h⟩ := h
    split at h
    · rename_i hq
      replace h := bind_ok h
      obtain ⟨v, h2, h⟩ := h
      obtain ⟨cell, A, hs, hl, hfi, -⟩ := hR.arrO (arr_some h1)
      obtain rfl : ty = .long := of_decide_eq_true hq.1
      have hv : cell.slots[j.toNatClampNeg]? = some (cv σ v) := by rw [hs, List.getElem?_toArray, List.getElem?_map, h2]; rfl
      exact hstep _ _ _ _ (hk s σ P h0 _ _ _ _ _ _ _ _ hb X hL hR hF hB h) (fun t q => X.laload hx (cell := cell) (j := j) (v := cv σ v) A.1 (State.isArrayOf_alike hZ.alike A.2.1) A.2.2 (inB hq.2 hv) hv (g := mkF m pc (cL σ L) (.int j :: .ref (σ a) :: S2.map (cv σ))) rfl rfl hd t q)
    · cases h
  | aaload =>
    dsimp only [ex, ald] at h
    replace h := pI_ok h
    obtain ⟨j, S1, rfl, h⟩ := h
    replace h := pR_ok h
    obtain ⟨a, S2, rfl, h⟩ := h
    replace h := bind_ok h
    obtain ⟨⟨ty, vs⟩, h1, h⟩ := h
    split at h
    · rename_i hq
      replace h := bind_ok h
      obtain ⟨v, h2, h⟩ := h
      obtain ⟨cell, A, hs, hl, hfi, -⟩ := hR.arrO (arr_some h1)
      have hv : cell.slots[j.toNatClampNeg]? = some (cv σ v) := by rw [hs, List.getElem?_toArray, List.getElem?_map, h2]; rfl
      exact hstep _ _ _ _ (hk s σ P h0 _ _ _ _ _ _ _ _ hb X hL hR hF hB h) (fun t q => X.aaload hx (cell := cell) (j := j) (v := cv σ v) A.1 (State.isArrayOf_alike hZ.alike A.2.1) hq.1 A.2.2 (inB hq.2 hv) hv (g := mkF m pc (cL σ L) (.int j :: .ref (σ a) :: S2.map (cv σ))) rfl rfl hd t q)
    · cases h
  | iastore =>
    dsimp only [ex, ast] at h
    replace h := pI_ok h
    obtain ⟨x, S0, rfl, h⟩ := h
    replace h := pI_ok h
    obtain ⟨j, S1, rfl, h⟩ := h
    replace h := pR_ok h
    obtain ⟨a, S2, rfl, h⟩ := h
    replace h := bind_ok h
    obtain ⟨⟨ty, vs⟩, h1, h⟩ := h
    split at h
    · rename_i hq
      obtain rfl : ty = .int := of_decide_eq_true hq.1
      obtain ⟨cell, A, hs, hl, hfi, -⟩ := hR.arrO (arr_some h1)
      obtain ⟨T', h', X', e', W, st⟩ := stI X hx hZ rfl A (j := j) (x := x) (by rw [hs]; simpa using And.intro hq.2.1 hq.2.2.1) (g := mkF m pc (cL σ L) _) rfl rfl hd
      refine hstep _ _ _ _ (hk s σ P h0 _ _ _ _ _ _ _ _ hb X' hL (e' ▸ hR.write hsg hq.2.2.2 W (RepO.arr (hR.arrO (arr_some h1)) (v := .int _) (rfl) W)) (Fr.snoc X' hF (hsg.new hq.2.2.2)) hB h) (st)
    · cases h
  | bastore =>
    dsimp only [ex, ast] at h
    replace h := pI_ok h
    obtain ⟨x, S0, rfl, h⟩ := h
    replace h := pI_ok h
    obtain ⟨j, S1, rfl, h⟩ := h
    replace h := pR_ok h
    obtain ⟨a, S2, rfl, h⟩ := h
    replace h := bind_ok h
    obtain ⟨⟨ty, vs⟩, h1, h⟩ := h
    split at h
    · rename_i hq
      obtain rfl : ty = .byte := of_decide_eq_true hq.1
      obtain ⟨cell, A, hs, hl, hfi, -⟩ := hR.arrO (arr_some h1)
      obtain ⟨T', h', X', e', W, st⟩ := stB X hx hZ rfl A (j := j) (x := x) (by rw [hs]; simpa using And.intro hq.2.1 hq.2.2.1) (g := mkF m pc (cL σ L) _) rfl rfl hd
      refine hstep _ _ _ _ (hk s σ P h0 _ _ _ _ _ _ _ _ hb X' hL (e' ▸ hR.write hsg hq.2.2.2 W (RepO.arr (hR.arrO (arr_some h1)) (v := .int _) (fits_nar_byte _) W)) (Fr.snoc X' hF (hsg.new hq.2.2.2)) hB h) (st)
    · cases h
  | castore =>
    dsimp only [ex, ast] at h
    replace h := pI_ok h
    obtain ⟨x, S0, rfl, h⟩ := h
    replace h := pI_ok h
    obtain ⟨j, S1, rfl, h⟩ := h
    replace h := pR_ok h
    obtain ⟨a, S2, rfl, h⟩ := h
    replace h := bind_ok h
    obtain ⟨⟨ty, vs⟩, h1, h⟩ := h
    split at h
    · rename_i hq
      obtain rfl : ty = .char := of_decide_eq_true hq.1
      obtain ⟨cell, A, hs, hl, hfi, -⟩ := hR.arrO (arr_some h1)
      obtain ⟨T', h', X', e', W, st⟩ := stC X hx hZ rfl A (j := j) (x := x) (by rw [hs]; simpa using And.intro hq.2.1 hq.2.2.1) (g := mkF m pc (cL σ L) _) rfl rfl hd
      refine hstep _ _ _ _ (hk s σ P h0 _ _ _ _ _ _ _ _ hb X' hL (e' ▸ hR.write hsg hq.2.2.2 W (RepO.arr (hR.arrO (arr_some h1)) (v := .int _) (fits_nar_char _) W)) (Fr.snoc X' hF (hsg.new hq.2.2.2)) hB h) (st)
    · cases h
  | lastore =>
    dsimp only [ex, astL] at h
    replace h := pL_ok h
    obtain ⟨x, S0, rfl, h⟩ := h
    replace h := pI_ok h
    obtain ⟨j, S1, rfl, h⟩ := h
    replace h := pR_ok h
    obtain ⟨a, S2, rfl, h⟩ := h
    replace h := bind_ok h
    obtain ⟨⟨ty, vs⟩, h1, h⟩ := h
    split at h
    · rename_i hq
      obtain rfl : ty = .long := hq.1
      obtain ⟨cell, A, hs, hl, hfi, -⟩ := hR.arrO (arr_some h1)
      obtain ⟨T', h', X', e', W, st⟩ := stJ X hx hZ rfl A (j := j) (x := x) (by rw [hs]; simpa using And.intro hq.2.1 hq.2.2.1) (g := mkF m pc (cL σ L) _) rfl rfl hd
      refine hstep _ _ _ _ (hk s σ P h0 _ _ _ _ _ _ _ _ hb X' hL (e' ▸ hR.write hsg hq.2.2.2 W (RepO.arr (hR.arrO (arr_some h1)) (v := .long _) rfl W)) (Fr.snoc X' hF (hsg.new hq.2.2.2)) hB h) (st)
    · cases h
  | ldc i =>
    dsimp only [ex] at h
    split at h
    · rename_i hq
      dsimp only [spc] at h
      replace h := bind_ok h
      obtain ⟨act, h1, h⟩ := h
      replace h := bind_ok h
      obtain ⟨⟨S', H', cs', ss'⟩, h2, h⟩ := h
      refine look_goodD (q := 0) hE h1 s σ P h0 T locs cs ss pc L S H S' H' cs' ss' hb X hd hL hR hF hB h2 ?_ (fun s' σ' P' h0' T' locs' hb' X' hR' hF' hB' => hk s' σ' P' h0' _ _ _ _ _ _ _ _ hb' X' hL hR' hF' hB' h)
      intro k q
      rw [if_pos (Or.inl rfl)] at q
      unfold ldOk at hq
      rw [q] at hq
      exact hq
    · cases h
  | ldc_w i =>
    dsimp only [ex, spc] at h
    replace h := bind_ok h
    obtain ⟨act, h1, h⟩ := h
    replace h := bind_ok h
    obtain ⟨⟨S', H', cs', ss'⟩, h2, h⟩ := h
    exact look_goodD (q := 1) hE h1 s σ P h0 T locs cs ss pc L S H S' H' cs' ss' hb X hd hL hR hF hB h2 (fun k q => by cases q) (fun s' σ' P' h0' T' locs' hb' X' hR' hF' hB' => hk s' σ' P' h0' _ _ _ _ _ _ _ _ hb' X' hL hR' hF' hB' h)
  | ldc2_w i =>
    dsimp only [ex, spc] at h
    replace h := bind_ok h
    obtain ⟨act, h1, h⟩ := h
    replace h := bind_ok h
    obtain ⟨⟨S', H', cs', ss'⟩, h2, h⟩ := h
    exact look_goodD (q := 2) hE h1 s σ P h0 T locs cs ss pc L S H S' H' cs' ss' hb X hd hL hR hF hB h2 (fun k q => by cases q) (fun s' σ' P' h0' T' locs' hb' X' hR' hF' hB' => hk s' σ' P' h0' _ _ _ _ _ _ _ _ hb' X' hL hR' hF' hB' h)
  | getfield i =>
    dsimp only [ex, spc] at h
    replace h := bind_ok h
    obtain ⟨act, h1, h⟩ := h
    replace h := bind_ok h
    obtain ⟨⟨S', H', cs', ss'⟩, h2, h⟩ := h
    exact look_goodD (q := 3) hE h1 s σ P h0 T locs cs ss pc L S H S' H' cs' ss' hb X hd hL hR hF hB h2 (fun k q => by cases q) (fun s' σ' P' h0' T' locs' hb' X' hR' hF' hB' => hk s' σ' P' h0' _ _ _ _ _ _ _ _ hb' X' hL hR' hF' hB' h)
  | putfield i =>
    dsimp only [ex, spc] at h
    replace h := bind_ok h
    obtain ⟨act, h1, h⟩ := h
    replace h := bind_ok h
    obtain ⟨⟨S', H', cs', ss'⟩, h2, h⟩ := h
    exact look_goodD (q := 4) hE h1 s σ P h0 T locs cs ss pc L S H S' H' cs' ss' hb X hd hL hR hF hB h2 (fun k q => by cases q) (fun s' σ' P' h0' T' locs' hb' X' hR' hF' hB' => hk s' σ' P' h0' _ _ _ _ _ _ _ _ hb' X' hL hR' hF' hB' h)
  | getstatic i =>
    dsimp only [ex, spc] at h
    replace h := bind_ok h
    obtain ⟨act, h1, h⟩ := h
    replace h := bind_ok h
    obtain ⟨⟨S', H', cs', ss'⟩, h2, h⟩ := h
    exact look_goodD (q := 5) hE h1 s σ P h0 T locs cs ss pc L S H S' H' cs' ss' hb X hd hL hR hF hB h2 (fun k q => by cases q) (fun s' σ' P' h0' T' locs' hb' X' hR' hF' hB' => hk s' σ' P' h0' _ _ _ _ _ _ _ _ hb' X' hL hR' hF' hB' h)
  | new i =>
    dsimp only [ex, spc] at h
    replace h := bind_ok h
    obtain ⟨act, h1, h⟩ := h
    replace h := bind_ok h
    obtain ⟨⟨S', H', cs', ss'⟩, h2, h⟩ := h
    exact look_goodD (q := 6) hE h1 s σ P h0 T locs cs ss pc L S H S' H' cs' ss' hb X hd hL hR hF hB h2 (fun k q => by cases q) (fun s' σ' P' h0' T' locs' hb' X' hR' hF' hB' => hk s' σ' P' h0' _ _ _ _ _ _ _ _ hb' X' hL hR' hF' hB' h)
  | invokestatic i =>
    dsimp only [ex, spc] at h
    replace h := bind_ok h
    obtain ⟨act, h1, h⟩ := h
    replace h := bind_ok h
    obtain ⟨⟨S', H', cs', ss'⟩, h2, h⟩ := h
    exact look_goodD (q := 7) hE h1 s σ P h0 T locs cs ss pc L S H S' H' cs' ss' hb X hd hL hR hF hB h2 (fun k q => by cases q) (fun s' σ' P' h0' T' locs' hb' X' hR' hF' hB' => hk s' σ' P' h0' _ _ _ _ _ _ _ _ hb' X' hL hR' hF' hB' h)
  | invokespecial i =>
    dsimp only [ex] at h
    split at h
    · rename_i hq
      dsimp only [spc] at h
      replace h := bind_ok h
      obtain ⟨act, h1, h⟩ := h
      replace h := bind_ok h
      obtain ⟨⟨S', H', cs', ss'⟩, h2, h⟩ := h
      refine look_goodD (q := 8) hE h1 s σ P h0 T locs cs ss pc L S H S' H' cs' ss' hb X hd hL hR hF hB h2 ?_ (fun s' σ' P' h0' T' locs' hb' X' hR' hF' hB' => hk s' σ' P' h0' _ _ _ _ _ _ _ _ hb' X' hL hR' hF' hB' h)
      intro k q
      rw [if_pos (Or.inr rfl)] at q
      unfold ctOk at hq
      rw [q] at hq
      exact hq
    · cases h
  | invokevirtual i =>
    dsimp only [ex, spc] at h
    replace h := bind_ok h
    obtain ⟨act, h1, h⟩ := h
    replace h := bind_ok h
    obtain ⟨⟨S', H', cs', ss'⟩, h2, h⟩ := h
    exact look_goodD (q := 9) hE h1 s σ P h0 T locs cs ss pc L S H S' H' cs' ss' hb X hd hL hR hF hB h2 (fun k q => by cases q) (fun s' σ' P' h0' T' locs' hb' X' hR' hF' hB' => hk s' σ' P' h0' _ _ _ _ _ _ _ _ hb' X' hL hR' hF' hB' h)
  | checkcast i =>
    dsimp only [ex, spc] at h
    replace h := bind_ok h
    obtain ⟨act, h1, h⟩ := h
    replace h := bind_ok h
    obtain ⟨⟨S', H', cs', ss'⟩, h2, h⟩ := h
    exact look_goodD (q := 10) hE h1 s σ P h0 T locs cs ss pc L S H S' H' cs' ss' hb X hd hL hR hF hB h2 (fun k q => by cases q) (fun s' σ' P' h0' T' locs' hb' X' hR' hF' hB' => hk s' σ' P' h0' _ _ _ _ _ _ _ _ hb' X' hL hR' hF' hB' h)
  | instanceof i =>
    dsimp only [ex, spc] at h
    replace h := bind_ok h
    obtain ⟨act, h1, h⟩ := h
    replace h := bind_ok h
    obtain ⟨⟨S', H', cs', ss'⟩, h2, h⟩ := h
    exact look_goodD (q := 11) hE h1 s σ P h0 T locs cs ss pc L S H S' H' cs' ss' hb X hd hL hR hF hB h2 (fun k q => by cases q) (fun s' σ' P' h0' T' locs' hb' X' hR' hF' hB' => hk s' σ' P' h0' _ _ _ _ _ _ _ _ hb' X' hL hR' hF' hB' h)
  | anewarray i =>
    dsimp only [ex, spc] at h
    replace h := bind_ok h
    obtain ⟨act, h1, h⟩ := h
    replace h := bind_ok h
    obtain ⟨⟨S', H', cs', ss'⟩, h2, h⟩ := h
    exact look_goodD (q := 12) hE h1 s σ P h0 T locs cs ss pc L S H S' H' cs' ss' hb X hd hL hR hF hB h2 (fun k q => by cases q) (fun s' σ' P' h0' T' locs' hb' X' hR' hF' hB' => hk s' σ' P' h0' _ _ _ _ _ _ _ _ hb' X' hL hR' hF' hB' h)
  | newarray ty =>
    dsimp only [ex, spc] at h
    replace h := bind_ok h
    obtain ⟨act, h1, h⟩ := h
    replace h := bind_ok h
    obtain ⟨⟨S', H', cs', ss'⟩, h2, h⟩ := h
    have g1 := look_goodD (q := 13) hE h1
    rw [show insOf 13 (atn ty) = .newarray ty from by cases ty <;> rfl] at g1
    exact g1 s σ P h0 T locs cs ss pc L S H S' H' cs' ss' hb X hd hL hR hF hB h2 (fun k q => by cases q) (fun s' σ' P' h0' T' locs' hb' X' hR' hF' hB' => hk s' σ' P' h0' _ _ _ _ _ _ _ _ hb' X' hL hR' hF' hB' h)
  | ireturn =>
    dsimp only [ex, rI] at h
    replace h := pI_ok h
    obtain ⟨z, S1, rfl, h⟩ := h
    split at h
    · cases h
      obtain ⟨fs, hr, hrun, hended, hW, hsame⟩ := X.leave (v := some (.int z)) (fun q => by rw [hrt] at q; cases q) hlk
      exact hdone s σ P h0 T _ hb ⟨_, retOut X hx hrt rfl (Or.inl ⟨rfl, Or.inl rfl, z, rfl⟩) hd hr, hrun, hended, hR, locs, hF, hW, hsame.mono hB.1 hB.2⟩
    · cases h
      obtain ⟨fs, hr, hrun, hended, hW, hsame⟩ := X.leave (v := some (.int (z &&& 1))) (fun q => by rw [hrt] at q; cases q) hlk
      exact hdone s σ P h0 T _ hb ⟨_, retN X hx (t := .boolean) (z := z) hrt (by simp) hd hr, hrun, hended, hR, locs, hF, hW, hsame.mono hB.1 hB.2⟩
    · cases h
      obtain ⟨fs, hr, hrun, hended, hW, hsame⟩ := X.leave (v := some (.int z.toInt8.toInt32)) (fun q => by rw [hrt] at q; cases q) hlk
      exact hdone s σ P h0 T _ hb ⟨_, retN X hx (t := .byte) (z := z) hrt (by simp) hd hr, hrun, hended, hR, locs, hF, hW, hsame.mono hB.1 hB.2⟩
    · cases h
      obtain ⟨fs, hr, hrun, hended, hW, hsame⟩ := X.leave (v := some (.int z.toUInt32.toUInt16.toUInt32.toInt32)) (fun q => by rw [hrt] at q; cases q) hlk
      exact hdone s σ P h0 T _ hb ⟨_, retN X hx (t := .char) (z := z) hrt (by simp) hd hr, hrun, hended, hR, locs, hF, hW, hsame.mono hB.1 hB.2⟩
    · cases h
      obtain ⟨fs, hr, hrun, hended, hW, hsame⟩ := X.leave (v := some (.int z.toInt16.toInt32)) (fun q => by rw [hrt] at q; cases q) hlk
      exact hdone s σ P h0 T _ hb ⟨_, retN X hx (t := .short) (z := z) hrt (by simp) hd hr, hrun, hended, hR, locs, hF, hW, hsame.mono hB.1 hB.2⟩
    · cases h
  | lreturn =>
    dsimp only [ex, rL] at h
    replace h := pL_ok h
    obtain ⟨z, S1, rfl, h⟩ := h
    split at h
    · cases h
      obtain ⟨fs, hr, hrun, hended, hW, hsame⟩ := X.leave (v := some (.long z)) (fun q => by rw [hrt] at q; cases q) hlk
      exact hdone s σ P h0 T _ hb ⟨_, retOut X hx hrt rfl (Or.inr (Or.inl ⟨rfl, rfl, z, rfl⟩)) hd hr, hrun, hended, hR, locs, hF, hW, hsame.mono hB.1 hB.2⟩
    · cases h
  | areturn =>
    dsimp only [ex, rA] at h
    replace h := pA_ok h
    obtain ⟨z, S1, rfl, h, hq⟩ := h
    split at h
    · cases h
      obtain ⟨fs, hr, hrun, hended, hW, hsame⟩ := X.leave (v := some (cv σ z)) (fun q => by rw [hrt] at q; cases q) hlk
      exact hdone s σ P h0 T _ hb ⟨_, retOut X hx hrt (by cases z <;> rfl) (Or.inr (Or.inr (Or.inr (Or.inr ⟨rfl, rfl, (ref_of hq).1⟩)))) hd hr, hrun, hended, hR, locs, hF, hW, hsame.mono hB.1 hB.2⟩
    · cases h
      obtain ⟨fs, hr, hrun, hended, hW, hsame⟩ := X.leave (v := some (cv σ z)) (fun q => by rw [hrt] at q; cases q) hlk
      exact hdone s σ P h0 T _ hb ⟨_, retOut X hx hrt (by cases z <;> rfl) (Or.inr (Or.inr (Or.inr (Or.inr ⟨rfl, rfl, (ref_of hq).1⟩)))) hd hr, hrun, hended, hR, locs, hF, hW, hsame.mono hB.1 hB.2⟩
    · cases h
  | return_ =>
    dsimp only [ex, rV] at h
    split at h
    · cases h
      obtain ⟨fs, hr, hrun, hended, hW, hsame⟩ := X.leave (v := none) (fun _ => rfl) hlk
      exact hdone s σ P h0 T _ hb ⟨_, X.returnOut hx hrt hd hr, hrun, hended, hR, locs, hF, hW, hsame.mono hB.1 hB.2⟩
    · cases h
  | _ => exact nomatch (show (none : Option ORes) = some res from h)
theorem run_soundD {rt : Option FieldType} {E : List (Nat × Nat × Act)} {res : ORes} {Bs : State → (Nat → Nat) → (Addr → Prop) → Heap → Prop} {D : State → JFrame → Prop} (hx : p.tables.exec = Jvm.exec) (hbs : ∀ s σ P h0, Bs s σ P h0 → Z.Warmed39 s.vm ∧ Sg σ x0 n0 P h0) (hrt : meth.sig.returnType = rt) (hlk : meth.locks = false) (hE : AllGoodD p l e R m args below meth c Z x0 n0 n1 K Bs D E E)
    (hstep : ∀ (T T' : State) (g g' : JFrame), D T' g' → (∀ target, Steps p.tables e below (T'.setTop g') target → Steps p.tables e below (T.setTop g) target) → D T g)
    (hdone : ∀ (s : State) (σ : Nat → Nat) (P : Addr → Prop) (h0 : Heap) (T : State) (g : JFrame), Bs s σ P h0 → Done p e R s below Z σ x0 n0 n1 P h0 K res T g → D T g) :
    ∀ (n : Nat) (s : State) (σ : Nat → Nat) (P : Addr → Prop) (h0 : Heap) (T : State) (locs : List Loc) (cs ss pc : Nat) (L : List Slot) (S : List Value) (H : AH), Bs s σ P h0 → Stand p l e R s m args below meth c T locs cs ss → L.length = c.maxLocals → Rep Z σ x0 n0 n1 P h0 K T.heap H → Fr n0 locs → cs ≤ R.cells ∧ ss ≤ R.slots → orun c.code rt E x0 n (pc, L, S, H, cs, ss) = some res → D T (mkF m pc (cL σ L) (S.map (cv σ)))
  | 0, _, _, _, _, _, _, _, _, _, _, _, _, _, _, _, _, _, _, h => nomatch (show (none : Option ORes) = some res from h)
  | n + 1, s, σ, P, h0, T, locs, cs, ss, pc, L, S, H, hb, X, hL, hR, hF, hB, h => by
    rw [orun_succ] at h
    replace h := bind_ok h
    obtain ⟨i, hi, h⟩ := h
    exact ex_soundD hx hbs hrt hlk hE hstep hdone (run_soundD hx hbs hrt hlk hE hstep hdone n) hb X (dec_spec hi) hL hR hF hB h
/-! ## 4. A method's contract off its orun -/
def oflat : List Value → List Slot
  | [] => []
  | v :: r => if v.category = 2 then .val v :: .second :: oflat r else .val v :: oflat r
def ent (as : List Value) (n : Nat) : List Slot := oflat as ++ List.replicate (n - (oflat as).length) .unset
theorem cat_cv (v : Value) : (cv σ v).category = v.category := by cases v <;> rfl
theorem oflat_ok (as : List Value) : ∀ acc : Array Slot, (as.map (cv σ)).foldl (fun acc v => if v.category = 2 then (acc.push (.val v)).push .second else acc.push (.val v)) acc = acc ++ ((oflat as).map (csl σ)).toArray := by
  induction as with
  | nil => intro acc; simp [oflat]
  | cons v r ih =>
    intro acc
    simp only [List.map_cons, List.foldl_cons, cat_cv, oflat]
    rw [ih]
    split <;> simp [csl]
theorem ent_ok (as : List Value) (n : Nat) : argsToLocals (as.map (cv σ)).toArray n = cL σ (ent as n) := by
  have h := oflat_ok (σ := σ) as #[]
  simp only [argsToLocals, List.foldl_toArray]
  rw [h]
  simp [cL, ent, csl]
/-- what a callee's function says of it -/
def Says (l : Launch) (Z : State) (σ : Nat → Nat) (x0 n0 n1 : Nat) (P : Addr → Prop) (h0 : Heap) (K : List CD) (y : MethodName) (bytes : ByteArray) (maxL : Nat) (ret : Option FieldType) (ws : List Jvm.Cond) (rm : Room) (F : List Value → AH → Option ORes) : Prop :=
  ∀ (as : List Value) (H : AH) (r : ORes) (h : Heap), F as H = some r → Rep Z σ x0 n0 n1 P h0 K h H →
    MetFree l y (head1 (Jvm.Cond.code y bytes maxL ret :: ws) rm) (fun a U => a = (as.map (cv σ)).toArray ∧ Z.Warmed39 U.vm ∧ U.heap = h) (fun _ _ _ _ _ => True) (fun _ U o U' => ∃ v L, o = .returned v ∧ (v = r.1.map (cv σ) ∧ Rep Z σ x0 n0 n1 P h0 K U'.heap r.2 ∧ Fr n0 L) ∧ FrameEnd U o U' L rm.cells rm.slots)
def fn (bytes : ByteArray) (maxL : Nat) (ret : Option FieldType) (E : List (Nat × Nat × Act)) (x0 fuel : Nat) (as : List Value) (H : AH) : Option ORes :=
  if (ent as maxL).length = maxL then orun bytes ret E x0 fuel (0, ent as maxL, [], H, 0, 0) else none
end Sound
end Jvm.Own
namespace Jvm.Own
open Sem ClassFile Op Lib Jvm.Stand Jvm.Free Jvm.LawKit Jvm.RoadKit
section SoundF
variable {p : Program} {l : Launch} {e : Env} {R : Room} {s : State} {m : MethodId} {args : Array Value} {below : List Frame} {meth : Method} {c : Code} {Z : State} {σ : Nat → Nat} {x0 n0 n1 : Nat} {P : Addr → Prop} {h0 : Heap} {K : List CD}
theorem goodD_of {Bs : State → (Nat → Nat) → (Addr → Prop) → Heap → Prop} {D : State → JFrame → Prop} {q : Option Nat} {i : Instr} {act : Act} (hstep : ∀ (T T' : State) (g g' : JFrame), D T' g' → (∀ target, Steps p.tables e below (T'.setTop g') target → Steps p.tables e below (T.setTop g) target) → D T g) (h : ∀ s σ P h0, Bs s σ P h0 → Good p l e R s m args below meth c Z σ x0 n0 n1 P h0 K i act) : GoodD p l e R m args below meth c Z x0 n0 n1 K Bs D q i act := by
  intro s σ P h0 T locs cs ss pc L S H S' H' cs' ss' hb X hd hL hR hF hB ha _ hk
  obtain ⟨T', locs', X', hR', hF', hB', st⟩ := h s σ P h0 hb T locs cs ss pc L S H S' H' cs' ss' X hd hL hR hF hB ha
  exact hstep _ _ _ _ (hk s σ P h0 T' locs' hb X' hR' hF' hB') st
theorem allD_of {Bs : State → (Nat → Nat) → (Addr → Prop) → Heap → Prop} {D : State → JFrame → Prop} (hstep : ∀ (T T' : State) (g g' : JFrame), D T' g' → (∀ target, Steps p.tables e below (T'.setTop g') target → Steps p.tables e below (T.setTop g) target) → D T g) {E0 : List (Nat × Nat × Act)} : ∀ {E : List (Nat × Nat × Act)}, (∀ s σ P h0, Bs s σ P h0 → AllGood p l e R s m args below meth c Z σ x0 n0 n1 P h0 K E) → AllGoodD p l e R m args below meth c Z x0 n0 n1 K Bs D E0 E
  | [], _ => trivial
  | x :: r, h => ⟨goodD_of hstep fun s σ P h0 hb => (h s σ P h0 hb).1, allD_of hstep fun s σ P h0 hb => (h s σ P h0 hb).2⟩
theorem run_soundF {rt : Option FieldType} {E : List (Nat × Nat × Act)} {res : ORes} (hx : p.tables.exec = Jvm.exec) (hZ : Z.Warmed39 s.vm) (hsg : Sg σ x0 n0 P h0) (hrt : meth.sig.returnType = rt) (hlk : meth.locks = false) (hE : AllGood p l e R s m args below meth c Z σ x0 n0 n1 P h0 K E)
    (n : Nat) (T : State) (locs : List Loc) (cs ss pc : Nat) (L : List Slot) (S : List Value) (H : AH) (X : Stand p l e R s m args below meth c T locs cs ss) (hL : L.length = c.maxLocals) (hR : Rep Z σ x0 n0 n1 P h0 K T.heap H) (hF : Fr n0 locs) (hB : cs ≤ R.cells ∧ ss ≤ R.slots) (h : orun c.code rt E x0 n (pc, L, S, H, cs, ss) = some res) : Done p e R s below Z σ x0 n0 n1 P h0 K res T (mkF m pc (cL σ L) (S.map (cv σ))) := by
  have hst : ∀ (T T' : State) (g g' : JFrame), Done p e R s below Z σ x0 n0 n1 P h0 K res T' g' → (∀ target, Steps p.tables e below (T'.setTop g') target → Steps p.tables e below (T.setTop g) target) → Done p e R s below Z σ x0 n0 n1 P h0 K res T g := fun T T' g g' d st => d.step st
  exact run_soundD (Bs := fun s' σ' P' h0' => s' = s ∧ σ' = σ ∧ P' = P ∧ h0' = h0) (D := Done p e R s below Z σ x0 n0 n1 P h0 K res) hx (fun s' σ' P' h0' hb => by obtain ⟨rfl, rfl, rfl, rfl⟩ := hb; exact ⟨hZ, hsg⟩) hrt hlk (allD_of hst fun s' σ' P' h0' hb => by obtain ⟨rfl, rfl, rfl, rfl⟩ := hb; exact hE) hst (fun s' σ' P' h0' T g hb d => by obtain ⟨rfl, rfl, rfl, rfl⟩ := hb; exact d) n s σ P h0 T locs cs ss pc L S H ⟨rfl, rfl, rfl, rfl⟩ X hL hR hF hB h
theorem says_fn {l : Launch} {Z : State} {σ : Nat → Nat} {x0 n0 n1 : Nat} {P : Addr → Prop} {h0 : Heap} {K : List CD} {y : MethodName} {bytes : ByteArray} {maxL : Nat} {ret : Option FieldType} {ws : List Jvm.Cond} {rm : Room} {E : List (Nat × Nat × Act)} {fuel : Nat} (hsg : Sg σ x0 n0 P h0) (hpl : plainFor y = true)
    (hE : ∀ (p : Program) (e : Env) (s : State) (m : MethodId) (args : Array Value) (below : List Frame) (meth : Method) (c : Code), p.tables.exec = Jvm.exec → c.code = bytes → c.maxLocals = maxL → Z.Warmed39 s.vm → s.vm.findClass y.cls = some m.cls → meth.name = y.name → AllGood p l e rm s m args below meth c Z σ x0 n0 n1 P h0 K E) :
    Says l Z σ x0 n0 n1 P h0 K y bytes maxL ret ws rm (fn bytes maxL ret E x0 fuel) := by
  intro as H r h hf hR
  unfold fn at hf
  split at hf
  · rename_i hlen
    refine MetFree.of_bodySF hpl hisR ?_
    intro p e s m args below meth c s₁ Bd hml0 hP hK
    obtain ⟨rfl, hZ, hh⟩ := hP
    have hx := Bd.exec
    have hby := Bd.bytes
    have hown : s.vm.findClass y.cls = some m.cls := findClass_of_methodNamed Bd.named
    have hnm := (name_of_methodNamed Bd.named Bd.method).1
    have X0 : Stand p l e rm s m (as.map (cv σ)).toArray below meth c s₁ [] 0 0 := Stand.of_body Bd
    have e0 : s₁.heap = h := by rw [← hh, Bd.state]; rfl
    have D := run_soundF hx hZ hsg Bd.returns (BodyLoose.notSynchronized Bd) (hE p e s m _ below meth c hx hby hml0 hZ hown hnm) fuel s₁ [] 0 0 0 (ent as maxL) [] H X0 (hlen.trans hml0.symm) (e0 ▸ hR) (Fr.nil n0) ⟨Nat.zero_le _, Nat.zero_le _⟩ (by rw [hby]; exact hf)
    obtain ⟨t, h1, h2, h3, h4, L, h5, h6, h7⟩ := D
    refine ⟨t, _, castTop (g' := mkF m 0 (cL σ (ent as maxL)) []) ?_ h1, h2, h3, _, L, rfl, ⟨rfl, h4, h5⟩, ⟨_, rfl⟩, h6, h7⟩
    simp only [entryFrame, ent_ok]
  · cases hf
end SoundF
end Jvm.Own
namespace Jvm.Own
open Sem ClassFile Op Lib Jvm.Stand Jvm.Free Jvm.LawKit Jvm.RoadKit
/-! ## 5. The steps that ask the sheet's words -/
def obj (H : AH) (k : Nat) : Option (Nat × List Value) := match H[k]? with | some (.inl q) => some q | _ => none
theorem obj_some {H : AH} {k : Nat} {q : Nat × List Value} (e : obj H k = some q) : H[k]? = some (.inl q) := by
  unfold obj at e; split at e
  · rename_i q' hq; cases e; exact hq
  · cases e
def aI (v : Int32) : Act := fun S H cs ss => some (.int v :: S, H, cs, ss)
def aJ (v : Int64) : Act := fun S H cs ss => some (.long v :: S, H, cs, ss)
def aGet (c j : Nat) : Act := fun S H cs ss => match S with
  | .ref a :: r => (obj H a).bind fun q => if q.1 = c then (q.2[j]?).bind fun v => some (v :: r, H, cs, ss) else none
  | _ => none
def aPut (x0 c j : Nat) (ty : FieldType) : Act := fun S H cs ss => match S with
  | v :: .ref a :: r => (obj H a).bind fun q => if q.1 = c ∧ narrow ty v = v ∧ fits ty v = true ∧ x0 ≤ a ∧ j < q.2.length then some (r, H.set a (.inl (c, q.2.set j v)), cs, ss) else none
  | _ => none
def aNew (c n Rc Rs : Nat) (ds : List Value) : Act := fun S H cs ss => if cs + 1 ≤ Rc ∧ ss + n ≤ Rs then some (.ref H.length :: S, H ++ [.inl (c, ds)], cs + 1, ss + n) else none
def aArr (ty : FieldType) (Rc Rs : Nat) : Act := fun S H cs ss => match S with
  | .int n :: r => if ¬ n < 0 ∧ cs + 1 ≤ Rc ∧ ss + n.toNatClampNeg ≤ Rs ∧ n.toNatClampNeg ≤ 67108864 then some (.ref H.length :: r, H ++ [.inr (ty, List.replicate n.toNatClampNeg (defaultValue ty))], cs + 1, ss + n.toNatClampNeg) else none
  | _ => none
def aObj (W : Nat) : Act := fun S H cs ss => match S with
  | .ref _ :: r => if (r.map Value.category).sum ≤ W then some (r, H, cs, ss) else none
  | _ => none
def aCall (na W Rc Rs mc ms : Nat) (F : List Value → AH → Option ORes) : Act := fun S H cs ss =>
  if na ≤ S.length ∧ ((S.drop na).map Value.category).sum ≤ W ∧ cs + mc ≤ Rc ∧ ss + ms ≤ Rs then (F (S.take na).reverse H).bind fun r => some (r.1.toList ++ S.drop na, r.2, cs + mc, ss + ms) else none
def aRecv (na cl W Rc Rs mc ms : Nat) (F : List Value → AH → Option ORes) : Act := fun S H cs ss => match S.drop na with
  | .ref a :: r => (obj H a).bind fun q => if q.1 = cl ∧ na ≤ S.length ∧ (r.map Value.category).sum ≤ W ∧ cs + mc ≤ Rc ∧ ss + ms ≤ Rs then (F (.ref a :: (S.take na).reverse) H).bind fun v => some (v.1.toList ++ r, v.2, cs + mc, ss + ms) else none
  | _ => none
section Acts
variable {p : Program} {l : Launch} {e : Env} {R : Room} {s : State} {m : MethodId} {args : Array Value} {below : List Frame} {meth : Method} {c : Code} {Z : State} {σ : Nat → Nat} {x0 n0 n1 : Nat} {P : Addr → Prop} {h0 : Heap} {K : List CD} {a0 : Array Value}
theorem okI (hx : p.tables.exec = Jvm.exec) (hZ : Z.Warmed39 s.vm) {own : String} {idx : Nat} {v : Int32} (hown : s.vm.findClass own = some m.cls) (w : (Jvm.Cond.constant own idx v).before a0 Z = true) : Good p l e R s m args below meth c Z σ x0 n0 n1 P h0 K (.ldc idx) (aI v) := by
  intro T locs cs ss pc L S H S' H' cs' ss' X hd hL hR hF hB h
  cases h
  exact ⟨T, locs, X, hR, hF, hB, fun t q => X.ldcInt hx hown (mvT hZ w) (g := mkF m pc (cL σ L) _) rfl hd t q⟩
theorem okIW (hx : p.tables.exec = Jvm.exec) (hZ : Z.Warmed39 s.vm) {own : String} {idx : Nat} {v : Int32} (hown : s.vm.findClass own = some m.cls) (w : (Jvm.Cond.constant own idx v).before a0 Z = true) : Good p l e R s m args below meth c Z σ x0 n0 n1 P h0 K (.ldc_w idx) (aI v) := by
  intro T locs cs ss pc L S H S' H' cs' ss' X hd hL hR hF hB h
  cases h
  exact ⟨T, locs, X, hR, hF, hB, fun t q => X.ldcwInt hx hown (mvT hZ w) (g := mkF m pc (cL σ L) _) rfl hd t q⟩
theorem okJ (hx : p.tables.exec = Jvm.exec) (hZ : Z.Warmed39 s.vm) {own : String} {idx : Nat} {v : Int64} (hown : s.vm.findClass own = some m.cls) (w : (Jvm.Cond.constantLong own idx v).before a0 Z = true) : Good p l e R s m args below meth c Z σ x0 n0 n1 P h0 K (.ldc2_w idx) (aJ v) := by
  intro T locs cs ss pc L S H S' H' cs' ss' X hd hL hR hF hB h
  cases h
  exact ⟨T, locs, X, hR, hF, hB, fun t q => X.ldc2Long hx hown (mvT hZ w) (g := mkF m pc (cL σ L) _) rfl hd t q⟩
theorem okGet (hx : p.tables.exec = Jvm.exec) (hZ : Z.Warmed39 s.vm) {own R0 O n d host C : String} {idx cn j : Nat} {fs : List (String × String × String)} (hown : s.vm.findClass own = some m.cls) (w : (Jvm.Cond.fieldLink own idx R0 n d).before a0 Z = true ∨ (Jvm.Cond.fieldLinkNest own idx R0 n d host).before a0 Z = true) (via : Via Z R0 O n d)
    (hC : K[cn]? = some (C, fs)) (hj : fs[j]? = some (O, n, d)) : Good p l e R s m args below meth c Z σ x0 n0 n1 P h0 K (.getfield idx) (aGet cn j) := by
  intro T locs cs ss pc L S H S' H' cs' ss' X hd hL hR hF hB h
  unfold aGet at h
  split at h
  · rename_i a r
    replace h := Option.bind_eq_some_iff.mp h
    obtain ⟨⟨cn', vs⟩, h1, h⟩ := h
    dsimp only at h
    split at h
    · rename_i hcn; subst hcn
      replace h := Option.bind_eq_some_iff.mp h
      obtain ⟨v, h2, h⟩ := h
      cases h
      obtain ⟨C', fs', q1, q2, q3⟩ := hR.objO (obj_some h1) hC
      cases hC.symm.trans q1
      obtain ⟨O', n', d', q4, q5⟩ := q3 j v h2
      cases hj.symm.trans q4
      obtain ⟨T', X', e', st⟩ := getF X hx hZ hown w via rfl q5 (g := mkF m pc (cL σ L) (List.map (cv σ) (.ref a :: r))) rfl rfl hd
      exact ⟨T', locs, X', e' ▸ hR, hF, hB, st⟩
    · cases h
  · cases h
theorem cv_narrow {ty : FieldType} {v : Value} (h : narrow ty v = v) : narrow ty (cv σ v) = cv σ v := by cases v <;> first | exact h | (cases ty <;> rfl)
theorem okPut (hx : p.tables.exec = Jvm.exec) (hZ : Z.Warmed39 s.vm) (hsg : Sg σ x0 n0 P h0) (KO : KOk Z a0 K) {own R0 O n d host C : String} {idx cn j : Nat} (hc2 : cn < 2) {ty : FieldType} {fs : List (String × String × String)} (hown : s.vm.findClass own = some m.cls) (w : (Jvm.Cond.fieldLink own idx R0 n d).before a0 Z = true ∨ (Jvm.Cond.fieldLinkNest own idx R0 n d host).before a0 Z = true) (via : Via Z R0 O n d)
    (hC : K[cn]? = some (C, fs)) (hj : fs[j]? = some (O, n, d)) (hty : parseFieldDescriptor d = some ty) (hLay : (Jvm.Cond.lays C O n d).before a0 Z = true ∨ ((Jvm.Cond.laysFinal C O n d).before a0 Z = true ∧ own = O ∧ meth.name = "<init>")) : Good p l e R s m args below meth c Z σ x0 n0 n1 P h0 K (.putfield idx) (aPut x0 cn j ty) := by
  intro T locs cs ss pc L S H S' H' cs' ss' X hd hL hR hF hB h
  unfold aPut at h
  split at h
  · rename_i v a r
    replace h := Option.bind_eq_some_iff.mp h
    obtain ⟨⟨cn', vs⟩, h1, h⟩ := h
    dsimp only at h
    split at h
    · rename_i hq
      obtain ⟨rfl, hn, hf, hx0, hjl⟩ := hq
      cases h
      have hRO := hR.objO (obj_some h1) hC
      obtain ⟨C', fs', q1, q2, q3⟩ := hRO
      cases hC.symm.trans q1
      obtain ⟨O', n', d', q4, q5⟩ := q3 j _ (List.getElem?_eq_getElem hjl)
      cases hj.symm.trans q4
      obtain ⟨wi0, -⟩ := KO cn' C fs hC
      obtain ⟨kk, wi⟩ := wi0 hc2
      obtain ⟨T', h', X', e', W, st⟩ := putF X hx hZ hown w via rfl q5 q2 hLay wi hty (cv_narrow hn) ((cv_fits ty v).trans hf) (g := mkF m pc (cL σ L) (List.map (cv σ) (v :: .ref a :: S'))) rfl rfl hd
      exact ⟨T', _, X', e' ▸ hR.write hsg hx0 W (RepO.fld KO hC hj (hR.objO (obj_some h1) hC) W), Fr.snoc X' hF (hsg.new hx0), hB, st⟩
    · cases h
  · cases h
theorem ext_push (h : Heap) (c : Cell) : Ext h (h.push c) := ext_of fun a q => (Array.getElem?_push_lt q).trans (Array.getElem?_eq_getElem q).symm
theorem okNew (hx : p.tables.exec = Jvm.exec) (hZ : Z.Warmed39 s.vm) (hsg : Sg σ x0 n0 P h0) (KO : KOk Z a0 K) {own C : String} {idx n cn Rc Rs : Nat} {ds : List Value} {fs : List (String × String × String)} (hown : s.vm.findClass own = some m.cls) (w : (Jvm.Cond.classLink own idx C).before a0 Z = true) (wi : (Jvm.Cond.instantiable C n).before a0 Z = true) (wz : (Jvm.Cond.initialized C).before a0 Z = true)
    (hC : K[cn]? = some (C, fs)) (hds : ds = fs.map fun f => ((parseFieldDescriptor f.2.2).map defaultValue).getD .null) (hRc : Rc ≤ R.cells) (hRs : Rs ≤ R.slots) : Good p l e R s m args below meth c Z σ x0 n0 n1 P h0 K (.new idx) (aNew cn n Rc Rs ds) := by
  intro T locs cs ss pc L S H S' H' cs' ss' X hd hL hR hF hB h
  unfold aNew at h
  split at h
  · rename_i hq
    cases h
    obtain ⟨vm', cC, kC, h1, h2, h3, h4, X', st⟩ := X.newCold hx hown (mv hZ w) (mv hZ wi) (mv hZ wz) (g := mkF m pc (cL σ L) (S.map (cv σ))) rfl hd (Nat.le_trans hq.1 hRc) (Nat.le_trans hq.2 hRs)
    have ea : σ H.length = T.heap.size := hR.addr hsg
    have h1' : Z.vm.findClass C = some cC := by rw [← hZ.alike.findClass]; exact h1
    obtain ⟨kZ, z1, -⟩ := Vm.findClass_spec h1'
    obtain ⟨k', z2, z3⟩ := hZ.alike.2.2 _ _ z1
    cases h2.symm.trans z2
    have ei : kC.instanceTypes = kZ.instanceTypes := by rw [z3]
    have hN : (T.heap.push { cls := cC, slots := kC.instanceTypes.map defaultValue, vm := .none })[T.heap.size]? = some { cls := cC, slots := kC.instanceTypes.map defaultValue, vm := .none } := by simp
    refine ⟨_, locs, X', hR.push (ext_push _ _) (by show (T.heap.push _).size = _; simp) ?_, hF, ⟨Nat.le_trans hq.1 hRc, Nat.le_trans hq.2 hRs⟩, ?_⟩
    · rw [ea]
      refine ⟨C, fs, hC, ⟨_, kZ, hN, h1', z1, rfl, fun _ => by simp [ei]⟩, fun j v hj => ?_⟩
      subst hds
      rw [List.getElem?_map, Option.map_eq_some_iff] at hj
      obtain ⟨⟨O, nm, d⟩, q1, q2⟩ := hj
      obtain ⟨-, k2, -⟩ := KO cn C fs hC
      obtain ⟨Ld, ty, ht⟩ := k2 j _ q1
      obtain ⟨c1, k1, cf, kf, i, f, a1, a2, a3, a4, a5, a6, -⟩ := Ld.spec
      cases h1'.symm.trans a1
      cases z1.symm.trans a2
      refine ⟨O, nm, d, q1, _, cf, kf, i, f, hN, a3, a4, by simp, rfl, a5, ?_⟩
      have ht' : parseFieldDescriptor d = some ty := ht
      simp only [ht', Option.map_some, Option.getD_some] at q2
      subst q2
      have hcv : cv σ (defaultValue ty) = defaultValue ty := by cases ty <;> rfl
      simp [ei, a6, (State.fieldFound?_type a3 ht).2, hcv]
    · intro t q
      refine st t ?_
      have q' := q
      simp only [List.map_cons, cv, ea] at q'
      exact q'
  · cases h
theorem okArr (hx : p.tables.exec = Jvm.exec) (hZ : Z.Warmed39 s.vm) (hsg : Sg σ x0 n0 P h0) {t : ArrayType} {Rc Rs : Nat} (w : (Jvm.Cond.arrayClass (newarray.typeOf t)).before a0 Z = true) (hRc : Rc ≤ R.cells) (hRs : Rs ≤ R.slots) : Good p l e R s m args below meth c Z σ x0 n0 n1 P h0 K (.newarray t) (aArr (newarray.typeOf t) Rc Rs) := by
  intro T locs cs ss pc L S H S' H' cs' ss' X hd hL hR hF hB h
  unfold aArr at h
  split at h
  · rename_i n r
    split at h
    · rename_i hq
      cases h
      have hcb : componentBytes (newarray.typeOf t) ≤ 8 := by cases t <;> decide
      obtain ⟨cA, kA, comp, h1, h2, h3, X', st⟩ := X.newarrayPrim hx (mvA hZ w) (g := mkF m pc (cL σ L) (List.map (cv σ) (.int n :: r))) rfl hd rfl hq.1 (Nat.le_trans (Nat.mul_le_mul hq.2.2.2 hcb) (by decide)) (Nat.le_trans hq.2.1 hRc) (Nat.le_trans hq.2.2.1 hRs)
      have ea : σ H.length = T.heap.size := hR.addr hsg
      have h1' : Z.vm.findClass ("[" ++ (newarray.typeOf t).toString) = some cA := by rw [← hZ.alike.findClass]; exact h1
      obtain ⟨kZ, z1, -⟩ := Vm.findClass_spec h1'
      obtain ⟨k', z2, z3⟩ := hZ.alike.2.2 _ _ z1
      cases h2.symm.trans z2
      have kk : kZ.kind = .array comp (newarray.typeOf t) := by rw [← h3, z3]
      have hcv : cv σ (defaultValue (newarray.typeOf t)) = defaultValue (newarray.typeOf t) := by cases t <;> rfl
      refine ⟨_, locs, X', hR.push (ext_push _ _) (by show (T.heap.push _).size = _; simp) ?_, hF, ⟨Nat.le_trans hq.2.1 hRc, Nat.le_trans hq.2.2.1 hRs⟩, ?_⟩
      · rw [ea]
        refine ⟨newA cA (newarray.typeOf t) n, ⟨by show (T.heap.push _)[T.heap.size]? = _; simp [newA], ⟨by simp [newA], kZ, z1, comp, kk⟩, by simp [newA]⟩, by simp [newA, hcv], ?_, fun v hv => ?_, fun _ _ => ⟨newA cA (newarray.typeOf t) n, kZ, by show (T.heap.push _)[T.heap.size]? = _; simp [newA], h1', z1, rfl, fun q => by rw [kk] at q; cases q⟩⟩
        · rw [List.length_replicate]; have := hq.2.2.2; omega
        · rw [(List.mem_replicate.mp hv).2]; cases t <;> rfl
      · intro t q
        refine st t ?_
        have q' := q
        simp only [List.map_cons, cv, ea] at q'
        exact q'
    · cases h
  · cases h
theorem cat_sum (r : List Value) : ((r.map (cv σ)).map fun v => v.category).sum = (r.map Value.category).sum := by
  rw [List.map_map]; congr 1; exact List.map_congr_left fun v _ => cat_cv v
theorem okObj (hx : p.tables.exec = Jvm.exec) (hZ : Z.Warmed39 s.vm) {own : String} {idx W : Nat} (hown : s.vm.findClass own = some m.cls) (w1 : (Jvm.Cond.methodLink own idx Lib.objectInit).before a0 Z = true) (w2 : (Jvm.Cond.instanceMethod Lib.objectInit).before a0 Z = true)
    (w3 : (Jvm.Cond.code Lib.objectInit ⟨#[0xb1]⟩ 1 none).before a0 Z = true) (hf : 1 ≤ R.frames) (hl : W + 12 ≤ R.locals) : Good p l e R s m args below meth c Z σ x0 n0 n1 P h0 K (.invokespecial idx) (aObj W) := by
  intro T locs cs ss pc L S H S' H' cs' ss' X hd hL hR hF hB h
  unfold aObj at h
  split at h
  · rename_i a r
    split at h
    · rename_i hq
      cases h
      obtain ⟨T', X', e', st⟩ := initO X hx hZ hown w1 w2 w3 rfl (g := mkF m pc (cL σ L) (List.map (cv σ) (.ref a :: S'))) rfl (size_cL.trans hL) rfl hd hf (W := W) (by show 2 * 0 + _ ≤ _; rw [cat_sum]; omega) hl
      exact ⟨T', locs, X', e' ▸ hR, hF, hB, st⟩
    · cases h
  · cases h
theorem args_rev (S : List Value) (na : Nat) : S.map (cv σ) = (((S.take na).reverse).map (cv σ)).reverse ++ (S.drop na).map (cv σ) := by
  rw [List.map_reverse, List.reverse_reverse, ← List.map_append, List.take_append_drop]
theorem toList_map (v : Option Value) (r : List Value) : (v.map (cv σ)).toList ++ r.map (cv σ) = (v.toList ++ r).map (cv σ) := by cases v <;> simp
theorem okStat (hx : p.tables.exec = Jvm.exec) (hZ : Z.Warmed39 s.vm) {own : String} {idx na W Rc Rs maxL : Nat} {y : MethodName} {bytes : ByteArray} {ret rr : Option FieldType} {ps : List FieldType} {rm : Room} {F : List Value → AH → Option ORes} (hF0 : Says l Z σ x0 n0 n1 P h0 K y bytes maxL ret [] rm F)
    (hown : s.vm.findClass own = some m.cls) (w1 : (Jvm.Cond.methodLink own idx y).before a0 Z = true) (w2 : (Jvm.Cond.static y).before a0 Z = true) (w3 : (Jvm.Cond.initialized y.cls).before a0 Z = true) (w4 : (Jvm.Cond.code y bytes maxL ret).before a0 Z = true)
    (hy : y.cls ≠ "java/lang/invoke/MethodHandle" ∧ y.cls ≠ "java/lang/invoke/VarHandle") (hd0 : parseMethodDescriptor y.desc = some ⟨ps, rr⟩) (hna : ps.length = na) (hRc : Rc ≤ R.cells) (hRs : Rs ≤ R.slots) (hfr : rm.frames + 1 ≤ R.frames) (hlo : W + (maxL + 11) + rm.locals ≤ R.locals) :
    Good p l e R s m args below meth c Z σ x0 n0 n1 P h0 K (.invokestatic idx) (aCall na W Rc Rs rm.cells rm.slots F) := by
  intro T locs cs ss pc L S H S' H' cs' ss' X hd hL hR hF hB h
  unfold aCall at h
  split at h
  · rename_i hq
    replace h := Option.bind_eq_some_iff.mp h
    obtain ⟨⟨v, H1⟩, h1, h⟩ := h
    cases h
    obtain ⟨v', vm1, ⟨T', L', k', n'⟩, -, X', ⟨Lc, ⟨hv, hR', hN⟩, l1, y1, z1⟩, st⟩ := Jvm.LawKit.callS X hx (y := y) hown (mvT hZ w1) (mvT hZ w2) (mvT hZ w3) (mvT hZ w4) hy (backOf (h := T.heap) (W := W) (Q := fun w h' L => w = v.map (cv σ) ∧ Rep Z σ x0 n0 n1 P h0 K h' H1 ∧ Fr n0 L) (hF0 _ H _ T.heap h1 hR) hZ w4 w3 hfr hlo) (g := mkF m pc (cL σ L) (S.map (cv σ))) rfl (size_cL.trans hL) (argsL := ((S.take na).reverse).map (cv σ)) (rest := (S.drop na).map (cv σ)) (lenOf hd0 (by rw [hna]; simp; omega)) (args_rev S na) (by show 2 * 0 + _ ≤ _; rw [cat_sum]; omega) hd (fun _ _ => ⟨rfl, rfl, Nat.le_trans hq.2.2.1 hRc, Nat.le_trans hq.2.2.2 hRs⟩)
    dsimp only [Pt.U, Pt.locs, Pt.cells, Pt.slots] at X' l1 y1 z1 st hR'
    subst l1 y1 z1 hv
    refine ⟨T', _, X', hR', hF.app hN, ⟨Nat.le_trans hq.2.2.1 hRc, Nat.le_trans hq.2.2.2 hRs⟩, fun t q => st t ?_⟩
    show Steps p.tables e below (T'.setTop (mkF m (pc + 3) (cL σ L) ((v.map (cv σ)).toList ++ (S.drop na).map (cv σ)))) t
    rw [toList_map]; exact q
  · cases h
theorem okCtor (hx : p.tables.exec = Jvm.exec) (hZ : Z.Warmed39 s.vm) {own : String} {idx na cl W Rc Rs maxL : Nat} {y : MethodName} {bytes : ByteArray} {rr : Option FieldType} {ps : List FieldType} {rm : Room} {F : List Value → AH → Option ORes} (hF0 : Says l Z σ x0 n0 n1 P h0 K y bytes maxL none [] rm F) (hy1 : y.name = "<init>")
    (hown : s.vm.findClass own = some m.cls) (w1 : (Jvm.Cond.methodLink own idx y).before a0 Z = true) (w2 : (Jvm.Cond.instanceMethod y).before a0 Z = true) (w3 : (Jvm.Cond.initialized y.cls).before a0 Z = true) (w4 : (Jvm.Cond.code y bytes maxL none).before a0 Z = true)
    (hy : y.cls ≠ "java/lang/invoke/MethodHandle" ∧ y.cls ≠ "java/lang/invoke/VarHandle") (hd0 : parseMethodDescriptor y.desc = some ⟨ps, rr⟩) (hna : ps.length = na) (hRc : Rc ≤ R.cells) (hRs : Rs ≤ R.slots) (hfr : rm.frames + 1 ≤ R.frames) (hlo : W + (maxL + 11) + rm.locals ≤ R.locals) :
    Good p l e R s m args below meth c Z σ x0 n0 n1 P h0 K (.invokespecial idx) (aRecv na cl W Rc Rs rm.cells rm.slots F) := by
  intro T locs cs ss pc L S H S' H' cs' ss' X hd hL hR hF hB h
  unfold aRecv at h
  split at h
  · rename_i a r hdr
    replace h := Option.bind_eq_some_iff.mp h
    obtain ⟨q0, hob, h⟩ := h
    split at h
    · rename_i hq
      replace h := Option.bind_eq_some_iff.mp h
      obtain ⟨⟨v, H1⟩, h1, h⟩ := h
      cases h
      have hst : S.map (cv σ) = (((S.take na).reverse).map (cv σ)).reverse ++ .ref (σ a) :: r.map (cv σ) := by rw [args_rev S na, hdr]; rfl
      obtain ⟨v', vm1, ⟨T', L', k', n'⟩, -, X', ⟨Lc, ⟨hv, hR', hN⟩, l1, y1, z1⟩, st⟩ := X.specialBack hx (y := y) hy1 hown (mvT hZ w1) (mvT hZ w2) (mvT hZ w4) hy (backOf (h := T.heap) (W := W) (Q := fun w h' L => w = v.map (cv σ) ∧ Rep Z σ x0 n0 n1 P h0 K h' H1 ∧ Fr n0 L) (hF0 _ H _ T.heap h1 hR) hZ w4 w3 hfr hlo) (g := mkF m pc (cL σ L) (S.map (cv σ))) rfl (size_cL.trans hL) (Steps.refl _) (a := σ a) (argsL := ((S.take na).reverse).map (cv σ)) (rest := r.map (cv σ)) (lenOf hd0 (by rw [hna]; simp; omega)) hst (by show 2 * 0 + _ ≤ _; rw [cat_sum]; omega) hd (fun _ _ => ⟨rfl, rfl, Nat.le_trans hq.2.2.2.1 hRc, Nat.le_trans hq.2.2.2.2 hRs⟩)
      dsimp only [Pt.U, Pt.locs, Pt.cells, Pt.slots] at X' l1 y1 z1 st hR'
      subst l1 y1 z1 hv
      refine ⟨T', _, X', hR', hF.app hN, ⟨Nat.le_trans hq.2.2.2.1 hRc, Nat.le_trans hq.2.2.2.2 hRs⟩, fun t q => st.trans ?_⟩
      show Steps p.tables e below (T'.setTop (mkF m (pc + 3) (cL σ L) ((v.map (cv σ)).toList ++ r.map (cv σ)))) t
      rw [toList_map]; exact q
    · cases h
  · cases h
theorem okVirt (hx : p.tables.exec = Jvm.exec) (hZ : Z.Warmed39 s.vm) {own C : String} {idx na cl W Rc Rs maxL : Nat} {y z : MethodName} {bytes : ByteArray} {ret rr : Option FieldType} {ps : List FieldType} {rm : Room} {fs : List (String × String × String)} {F : List Value → AH → Option ORes} (hF0 : Says l Z σ x0 n0 n1 P h0 K z bytes maxL ret [] rm F) (hC : K[cl]? = some (C, fs))
    (hown : s.vm.findClass own = some m.cls) (w1 : (Jvm.Cond.methodLink own idx y).before a0 Z = true) (w2 : (Jvm.Cond.declares y).before a0 Z = true) (w5 : (Jvm.Cond.selects C y z).before a0 Z = true) (w6 : (Jvm.Cond.instanceMethod z).before a0 Z = true) (w3 : (Jvm.Cond.initialized z.cls).before a0 Z = true) (w4 : (Jvm.Cond.code z bytes maxL ret).before a0 Z = true)
    (nf : ∀ (s' : State) (ar : Array Value), (Jvm.Cond.selects C y z).before ar s' = true → NotFace s' y) (hy : y.cls ≠ "java/lang/invoke/MethodHandle" ∧ y.cls ≠ "java/lang/invoke/VarHandle") (hd0 : parseMethodDescriptor y.desc = some ⟨ps, rr⟩) (hna : ps.length = na) (hRc : Rc ≤ R.cells) (hRs : Rs ≤ R.slots) (hfr : rm.frames + 1 ≤ R.frames) (hlo : W + (maxL + 11) + rm.locals ≤ R.locals) :
    Good p l e R s m args below meth c Z σ x0 n0 n1 P h0 K (.invokevirtual idx) (aRecv na cl W Rc Rs rm.cells rm.slots F) := by
  intro T locs cs ss pc L S H S' H' cs' ss' X hd hL hR hF hB h
  unfold aRecv at h
  split at h
  · rename_i a r hdr
    replace h := Option.bind_eq_some_iff.mp h
    obtain ⟨⟨cn, vs⟩, hob, h⟩ := h
    dsimp only at h
    split at h
    · rename_i hq
      replace h := Option.bind_eq_some_iff.mp h
      obtain ⟨⟨v, H1⟩, h1, h⟩ := h
      cases h
      obtain ⟨rfl, hq⟩ := hq
      obtain ⟨C', fs', q1, q2, -⟩ := hR.objO (obj_some hob) hC
      cases hC.symm.trans q1
      obtain ⟨cB, kB, i1, i2, i3⟩ := isOf (T := T) hZ rfl q2
      have hst : S.map (cv σ) = (((S.take na).reverse).map (cv σ)).reverse ++ .ref (σ a) :: r.map (cv σ) := by rw [args_rev S na, hdr]; rfl
      obtain ⟨v', vm1, ⟨T', L', k', n'⟩, -, X', ⟨Lc, ⟨hv, hR', hN⟩, l1, y1, z1⟩, st⟩ := X.virtualBack hx (y := y) (z := z) hown (mvT hZ w1) (mvT hZ w2) (nf s #[] (mvT hZ w5)) (mvT hZ w5) (mvT hZ w6) hy (backOf (h := T.heap) (W := W) (Q := fun w h' L => w = v.map (cv σ) ∧ Rep Z σ x0 n0 n1 P h0 K h' H1 ∧ Fr n0 L) (hF0 _ H _ T.heap h1 hR) hZ w4 w3 hfr hlo) i1 i3 (g := mkF m pc (cL σ L) (S.map (cv σ))) rfl (size_cL.trans hL) (Steps.refl _) (argsL := ((S.take na).reverse).map (cv σ)) (rest := r.map (cv σ)) (lenOf hd0 (by rw [hna]; simp; omega)) hst (by show 2 * 0 + _ ≤ _; rw [cat_sum]; omega) hd (fun _ _ => ⟨rfl, rfl, Nat.le_trans hq.2.2.1 hRc, Nat.le_trans hq.2.2.2 hRs⟩)
      dsimp only [Pt.U, Pt.locs, Pt.cells, Pt.slots] at X' l1 y1 z1 st hR'
      subst l1 y1 z1 hv
      refine ⟨T', _, X', hR', hF.app hN, ⟨Nat.le_trans hq.2.2.1 hRc, Nat.le_trans hq.2.2.2 hRs⟩, fun t q => st.trans ?_⟩
      show Steps p.tables e below (T'.setTop (mkF m (pc + 3) (cL σ L) ((v.map (cv σ)).toList ++ r.map (cv σ)))) t
      rw [toList_map]; exact q
    · cases h
  · cases h
theorem ag_nil : AllGood p l e R s m args below meth c Z σ x0 n0 n1 P h0 K [] := trivial
theorem ag_cons {q i : Nat} {act : Act} {E : List (Nat × Nat × Act)} (h : Good p l e R s m args below meth c Z σ x0 n0 n1 P h0 K (insOf q i) act) (t : AllGood p l e R s m args below meth c Z σ x0 n0 n1 P h0 K E) : AllGood p l e R s m args below meth c Z σ x0 n0 n1 P h0 K ((q, i, act) :: E) := ⟨h, t⟩
end Acts
theorem names_inj {fs : List (String × String × String)} (h : (fs.map fun f => f.2.1).Nodup) : ∀ (i j : Nat) (f g : String × String × String), fs[i]? = some f → fs[j]? = some g → f.2.1 = g.2.1 → i = j := by
  intro i j f g hf hg e
  refine (List.getElem?_inj (l := fs.map fun f => f.2.1) (by simpa using (List.getElem?_eq_some_iff.mp hf).1) h).mp ?_
  simp [hf, hg, e]
end Jvm.Own
namespace Jvm.Own
open Sem ClassFile Op Lib Bundle Jvm.Stand Jvm.Free Jvm.LawKit Jvm.RoadKit
/-! ## S4. ldc of a String constant: its object and its bytes come to stand at a placeholder -/
def sfs : List (String × String × String) := [("java/lang/String", "value", "[B"), ("java/lang/String", "coder", "B")]
def aLit (k cS n Rc Rs : Nat) (bs : List Value) : Act := fun S H cs ss =>
  if cs + 2 ≤ Rc ∧ ss + (n + 4) ≤ Rs ∧ slt H k + 1 < H.length then
    some (.ref (slt H k) :: S, (H.set (slt H k) (.inl (cS, [.ref (slt H k + 1), .int 0]))).set (slt H k + 1) (.inr (.byte, bs)), cs + 2, ss + (n + 4)) else none
section Lits
variable {p : Program} {l : Launch} {e : Env} {R : Room} {s sB : State} {m : MethodId} {args : Array Value} {below : List Frame} {meth : Method} {c : Code} {Z : State} {σ σ' : Nat → Nat} {x0 n0 n1 : Nat} {P : Addr → Prop} {h0 h : Heap} {K : List CD} {a0 : Array Value} {EL : List (String × Nat)}
theorem RepO.sig {n j : Nat} {a : Addr} {o : Ob} (hc : okO n j o = true) (hag : ∀ v, okR n j v = true → cv σ' v = cv σ v) (R : RepO Z σ K h a o) : RepO Z σ' K h a o := by
  rcases o with ⟨c, vs⟩ | ⟨ty, vs⟩
  · obtain ⟨C, fs, q1, q2, q3⟩ := R
    refine ⟨C, fs, q1, q2, fun i v hv => ?_⟩
    obtain ⟨O, n, d, q4, q5⟩ := q3 i v hv
    have := hag v (List.all_eq_true.mp hc v (List.mem_of_getElem? hv))
    exact ⟨O, n, d, q4, by rw [this]; exact q5⟩
  · obtain ⟨cell, A, hs, r⟩ := R
    refine ⟨cell, A, ?_, r⟩
    rw [List.map_congr_left (g := cv σ) (fun v hv => hag v (List.all_eq_true.mp hc v hv))]
    exact hs
def sgl (σ : Nat → Nat) (j a b n z : Nat) (i : Nat) : Nat := if i = j then a else if i = j + 1 then b else if i < n then σ i else z + (i - n)
theorem sgl_j {j a b n z : Nat} : sgl σ j a b n z j = a := by unfold sgl; rw [if_pos rfl]
theorem sgl_j1 {j a b n z : Nat} : sgl σ j a b n z (j + 1) = b := by unfold sgl; rw [if_neg (by omega), if_pos rfl]
theorem sgl_in {j a b n z i : Nat} (h1 : i ≠ j) (h2 : i ≠ j + 1) (h3 : i < n) : sgl σ j a b n z i = σ i := by unfold sgl; rw [if_neg h1, if_neg h2, if_pos h3]
theorem sgl_out {j a b n z i : Nat} (h1 : i ≠ j) (h2 : i ≠ j + 1) (h3 : n ≤ i) : sgl σ j a b n z i = z + (i - n) := by unfold sgl; rw [if_neg h1, if_neg h2, if_neg (by omega)]
theorem sgl_cv {j a b n z : Nat} (v : Value) (h : okR n j v = true) : cv (sgl σ j a b n z) v = cv σ v := by
  cases v <;> first | rfl | skip
  simp only [okR, decide_eq_true_eq] at h
  show Value.ref _ = Value.ref _
  rw [sgl_in h.2.1 h.2.2 h.1]
/-- the bases of a walk that may load constants of EL -/
def BsL (Z sB : State) (EL : List (String × Nat)) (x0 n0 n1 : Nat) (pl : Nat → Bool) (σ0 : Nat → Nat) (s : State) (σ : Nat → Nat) (P : Addr → Prop) (h0 : Heap) : Prop :=
  ∃ (vm0 : Vm) (k0 : Nat), s = sB.setVm vm0 ∧ Z.Warmed39 vm0 ∧ sB.Since vm0 k0 ∧ k0 ≤ h0.size ∧ CHv Z EL vm0 h0 ∧ P = Bk Z EL vm0 h0 ∧ Sg σ x0 n0 P h0 ∧ ∀ i, i < n1 → pl i = false → σ i = σ0 i
theorem okLit {D : State → JFrame → Prop} (hx : p.tables.exec = Jvm.exec) (hstep : ∀ (T T' : State) (g g' : JFrame), D T' g' → (∀ target, Steps p.tables e below (T'.setTop g') target → Steps p.tables e below (T.setTop g) target) → D T g)
    {own text : String} {idx k cS n Rc Rs : Nat} {vs : List Value} {z : Int32} (hown : ∀ vm0, Z.Warmed39 vm0 → vm0.findClass own = some m.cls) (w : (Jvm.Cond.stringLink own idx text).before a0 Z = true) (wS : ∀ a ∈ Bundle.stringAtoms, a.before a0 Z = true) (hEL : EW Z a0 EL) (hmem : (own, idx) ∈ EL)
    (ht : (∀ c ∈ text.toList, c.toNat < 256) ∧ text.toList.map (fun c => Value.int (Jvm.Lit.byteI c.toNat.toUInt16)) = vs) (hz : ¬ z < 0) (hl : z.toNatClampNeg = vs.length) (hfit : ∀ v ∈ vs, fits .byte v = true ∧ ∃ y : Int32, v = .int y) (hn : 4 * text.toList.length ≤ n) (hbig : n ≤ 536870912) (hRc : Rc ≤ R.cells) (hRs : Rs ≤ R.slots) (hK : K[cS]? = some ("java/lang/String", sfs)) (hk3 : 9 ≤ k) (hkx : k + 3 < x0) {pl : Nat → Bool} {σ0 : Nat → Nat} (hpl : ∀ i, k ≤ i → i < k + 4 → pl i = true) :
    GoodD p l e R m args below meth c Z x0 n0 n1 K (BsL Z sB EL x0 n0 n1 pl σ0) D (some k) (.ldc idx) (aLit k cS n Rc Rs vs) := by
  intro s σ P h0 T locs cs ss pc L S H S' H' cs' ss' hb X hd hL hR hF hB ha hfr hk
  obtain ⟨vm0, k0, rfl, hZ, hS, hk0, hC, rfl, hsg, hag0⟩ := hb
  unfold aLit at ha
  split at ha
  · rename_i hq
    cases ha
    have hf : fr3 H.length (slt H k) L S H = true := hfr k rfl
    have hj3 : 9 ≤ slt H k := by unfold slt; split <;> omega
    have hjx : slt H k + 1 < x0 := by unfold slt; split <;> omega
    have hjp : pl (slt H k) = true ∧ pl (slt H k + 1) = true := by unfold slt; split <;> exact ⟨hpl _ (by omega) (by omega), hpl _ (by omega) (by omega)⟩
    generalize slt H k = j at *
    obtain ⟨hq1, hq2, hq3⟩ := hq
    simp only [fr3, Bool.and_eq_true] at hf
    obtain ⟨⟨fL, fS⟩, fH⟩ := hf
    obtain ⟨r1, r2, r3, r4, r5, r6, r7, r8, r9⟩ := hR
    have h8x := r5.2
    have hst := hC.step (h' := T.heap) (fun y B cell q => r6 y cell B q)
    obtain ⟨a, T', h', k1, b, kk, X', rfl, E, hS', hk1, hZ', -, xE, xC, xV, xA, la, lb, hr, -, hne, st⟩ := ldcCH X hx hZ (hown vm0 hZ) w wS rfl hS (by omega) hEL hmem hst.1 ht hz hl (g := mkF m pc (cL σ L) (S.map (cv σ))) rfl hd hn hbig (Nat.le_trans hq1 hRc) (Nat.le_trans hq2 hRs)
    have hE1 : T.heap.size ≤ T'.heap.size := E.1
    have hn0 : n0 ≤ T.heap.size := r3.1 ▸ r3.2.1
    have safe : ∀ i, x0 ≤ i → i < H.length → Safe Z EL T'.vm T'.heap (σ i) := fun i h1 h2 => hr.safe (r7 i h2 (by omega)) fun B => (hsg.1 i h1).2 (hst.2 _ B)
    have hag : ∀ v, okR H.length j v = true → cv (sgl σ j a b H.length T'.heap.size) v = cv σ v := fun v hv => sgl_cv v hv
    have eL : cL (sgl σ j a b H.length T'.heap.size) L = cL σ L := by
      unfold cL
      rw [List.map_congr_left (g := csl σ) fun x hx => ?_]
      have := List.all_eq_true.mp fL x hx
      cases x with
      | val v => exact congrArg Slot.val (hag v this)
      | _ => rfl
    have eS : S.map (cv (sgl σ j a b H.length T'.heap.size)) = S.map (cv σ) := List.map_congr_left fun v hv => hag v (List.all_eq_true.mp fS v hv)
    have hsg' : Sg (sgl σ j a b H.length T'.heap.size) x0 n0 (Bk Z EL T'.vm T'.heap) T'.heap := by
      refine ⟨fun i hi => ?_, fun i i' hi h8 he => ?_, fun i i' h1 h2 he => ?_⟩
      · rcases Nat.lt_or_ge i H.length with q | q
        · rw [sgl_in (by omega) (by omega) q]
          exact ⟨(hsg.1 i hi).1, safe i hi q⟩
        · rw [sgl_out (by omega) (by omega) q]
          exact ⟨by omega, Safe.new (by omega)⟩
      · rcases Nat.lt_or_ge i H.length with q | q
        · rw [sgl_in (by omega) (by omega) q] at he
          have hs := hne _ (safe i hi q)
          by_cases e1 : i' = j
          · subst e1; rw [sgl_j] at he; exact absurd he hs.1
          by_cases e2 : i' = j + 1
          · subst e2; rw [sgl_j1] at he; exact absurd he hs.2
          rcases Nat.lt_or_ge i' H.length with q' | q'
          · rw [sgl_in e1 e2 q'] at he; exact hsg.2.1 i i' hi h8 he
          · rw [sgl_out e1 e2 q'] at he
            have := r7 i q (by omega)
            omega
        · rw [sgl_out (by omega) (by omega) q] at he
          by_cases e1 : i' = j
          · subst e1; rw [sgl_j] at he; exact absurd (Nat.lt_of_le_of_lt (Nat.le_of_eq he) la) (Nat.not_lt.mpr (Nat.le_add_right _ _))
          by_cases e2 : i' = j + 1
          · subst e2; rw [sgl_j1] at he; exact absurd (Nat.lt_of_le_of_lt (Nat.le_of_eq he) lb) (Nat.not_lt.mpr (Nat.le_add_right _ _))
          rcases Nat.lt_or_ge i' H.length with q' | q'
          · rw [sgl_in e1 e2 q'] at he
            have := r7 i' q' h8
            omega
          · rw [sgl_out e1 e2 q'] at he; omega
      · rw [sgl_in (by omega) (by omega) (by omega), sgl_in (by omega) (by omega) (by omega)] at he
        exact hsg.2.2 i i' h1 h2 he
    have hA : RepO Z (sgl σ j a b H.length T'.heap.size) K T'.heap b (.inr (.byte, vs)) := by
      obtain ⟨cl, A, -, q2, -, q4, q5⟩ := xA
      have hmap : vs.map (cv (sgl σ j a b H.length T'.heap.size)) = vs := by
        rw [List.map_congr_left (g := id) (fun v hv => by obtain ⟨-, y, rfl⟩ := hfit v hv; rfl), List.map_id]
      have hzr := rng32 z
      refine ⟨cl, A, ?_, ?_, fun v hv => (hfit v hv).1, fun u => absurd rfl u⟩
      · rw [hmap]
        apply Array.ext_getElem?
        intro i
        rcases Nat.lt_or_ge i cl.slots.size with q | q
        · rw [q4 i q]
          have hi : i < vs.length := by omega
          simp [List.getD, hi]
        · rw [Array.getElem?_eq_none q]
          simp
          omega
      · rw [← hl]
        show z.toInt.toNat < _
        omega
    refine hstep _ _ _ _ (hk (sB.setVm T'.vm) (sgl σ j a b H.length T'.heap.size) (Bk Z EL T'.vm T'.heap) T'.heap T' locs ⟨T'.vm, k1, rfl, hZ', hS', hk1, hr.1, rfl, hsg', fun i h1 h2 => by
      have e1 : i ≠ j := fun u => by rw [u, hjp.1] at h2; cases h2
      have e2 : i ≠ j + 1 := fun u => by rw [u, hjp.2] at h2; cases h2
      rw [sgl_in e1 e2 (by omega)]; exact hag0 i h1 h2⟩ X' ⟨fun i hi => ?_, by simpa using r2, r3.ext E, fun i o q => ?_, r5, fun y cell _ q => q, fun i hi h8 => ?_, Nat.le_refl _, by simpa using r9⟩ hF ⟨Nat.le_trans hq1 hRc, Nat.le_trans hq2 hRs⟩) ?_
    · simp only [List.length_set] at hi ⊢
      rw [sgl_out (by omega) (by omega) hi]
      omega
    · by_cases e2 : i = j + 1
      · subst e2
        rw [List.getElem?_set_self (by simpa using hq3)] at q
        cases q
        rw [sgl_j1]
        exact Or.inr ⟨by omega, hA⟩
      rw [List.getElem?_set_ne (fun u => e2 u.symm)] at q
      by_cases e1 : i = j
      · subst e1
        rw [List.getElem?_set_self (by omega)] at q
        cases q
        rw [sgl_j]
        refine Or.inr ⟨by omega, _, _, hK, xE, fun f v hv => ?_⟩
        match f, hv with
        | 0, hv =>
          cases hv
          refine ⟨_, _, _, rfl, ?_⟩
          show Fld Z T'.heap a "java/lang/String" "value" "[B" (.ref (sgl σ i a b H.length T'.heap.size (i + 1)))
          rw [sgl_j1]; exact xV
        | 1, hv => cases hv; exact ⟨_, _, _, rfl, xC⟩
        | f + 2, hv => cases hv
      rw [List.getElem?_set_ne (fun u => e1 u.symm)] at q
      have hi := (List.getElem?_eq_some_iff.mp q).1
      rw [sgl_in e1 e2 hi]
      exact (r4 i o q).imp id fun RR => ⟨RR.1, (RR.2.ext E).sig (List.all_eq_true.mp fH o (List.mem_of_getElem? q)) hag⟩
    · simp only [List.length_set] at hi
      by_cases e1 : i = j
      · subst e1; rw [sgl_j]; exact la
      by_cases e2 : i = j + 1
      · subst e2; rw [sgl_j1]; exact lb
      rw [sgl_in e1 e2 hi]
      have := r7 i hi h8
      omega
    · intro target hq'
      refine st target ?_
      have e3 : mkF m (pc + il (.ldc idx)) (cL (sgl σ j a b H.length T'.heap.size) L) (List.map (cv (sgl σ j a b H.length T'.heap.size)) (.ref j :: S)) = mkF m (pc + 2) (cL σ L) (.ref a :: S.map (cv σ)) := by
        rw [eL, List.map_cons, eS]
        show mkF m (pc + 2) (cL σ L) (.ref (sgl σ j a b H.length T'.heap.size j) :: S.map (cv σ)) = _
        rw [sgl_j]
      rw [e3] at hq'
      exact hq'
  · cases ha
end Lits
end Jvm.Own
namespace Jvm.Own
open Sem ClassFile Op Lib Bundle Jvm.Stand Jvm.Free Jvm.LawKit Jvm.RoadKit
/-! ## S5. A method that may load constants: its contract off its run, and its call -/
section Cons
variable {p : Program} {l : Launch} {e : Env} {R : Room} {s sB : State} {m : MethodId} {args : Array Value} {below : List Frame} {meth : Method} {c : Code} {Z : State} {σ σ' σ0 : Nat → Nat} {x0 n0 n1 : Nat} {P : Addr → Prop} {h0 h : Heap} {K : List CD} {a0 : Array Value} {EL : List (String × Nat)} {pl : Nat → Bool} {H : AH}
/-- the tables and the reference heap brought up to date -/
theorem fresh {vm0 vm1 : Vm} (hEL : EW Z a0 EL) (hZ : Z.Warmed39 vm0) (hC : CHv Z EL vm0 h0) (hsg : Sg σ x0 n0 (Bk Z EL vm0 h0) h0) (hR : Rep Z σ x0 n0 n1 (Bk Z EL vm0 h0) h0 K h H) (hW : (sB.setVm vm0).WarmedH vm1) :
    CHv Z EL vm1 h ∧ Sg σ x0 n0 (Bk Z EL vm1 h) h ∧ Rep Z σ x0 n0 n1 (Bk Z EL vm1 h) h K h H := by
  obtain ⟨r1, r2, r3, r4, r5, r6, r7, r8, r9⟩ := hR
  have h8x := r5.2
  have hst := hC.step (h' := h) (fun y B cell q => r6 y cell B q)
  have q := CHv.later (vm := vm0) (vm1 := vm1) (h := h) (h' := h) hZ (show (Wst Z vm0 h).Warmed39 vm1 from hW.wide) hEL ⟨Nat.le_refl _, fun _ _ q => q⟩ (Or.inl hW.interned_eq) hst.1
  have hn0 : n0 ≤ h.size := r3.1 ▸ r3.2.1
  refine ⟨q.1, ⟨fun i hi => ?_, hsg.2⟩, r1, r2, r3, r4, r5, fun _ _ _ q => q, r7, Nat.le_refl _, r9⟩
  refine ⟨(hsg.1 i hi).1, fun B => ?_⟩
  rcases Nat.lt_or_ge i H.length with a | a
  · rcases q.2 _ B with b | b
    · exact (hsg.1 i hi).2 (hst.2 _ b)
    · have := r7 i a (by omega)
      omega
  · have := r1 i a
    exact Safe.new (Z := Z) (EL := EL) (vm := vm1) (h := h) (x := σ i) (by omega) B
/-- how such a method ends -/
def SEnd (Z : State) (EL : List (String × Nat)) (x0 n0 n1 : Nat) (K : List CD) (pl : Nat → Bool) (σ : Nat → Nat) (r : ORes) (rm : Room) (U : State) (o : Outcome) (U' : State) : Prop :=
  ∃ (v : Option Value) (L : List Loc) (σ' : Nat → Nat), o = .returned v ∧ v = r.1.map (cv σ') ∧ Rep Z σ' x0 n0 n1 (Bk Z EL U'.vm U'.heap) U'.heap K U'.heap r.2 ∧ Sg σ' x0 n0 (Bk Z EL U'.vm U'.heap) U'.heap ∧ (∀ i, i < n1 → pl i = false → σ' i = σ i) ∧ CHv Z EL U'.vm U'.heap ∧ Fr n0 L ∧ ReturnedEndW U o U' L rm.cells rm.slots
def SPre (Z : State) (EL : List (String × Nat)) (x0 n0 : Nat) (K : List CD) (σ : Nat → Nat) (as : List Value) (H : AH) (a : Array Value) (U : State) : Prop :=
  a = (as.map (cv σ)).toArray ∧ Z.Warmed39 U.vm ∧ CHv Z EL U.vm U.heap ∧ Sg σ x0 n0 (Bk Z EL U.vm U.heap) U.heap ∧ Rep Z σ x0 n0 H.length (Bk Z EL U.vm U.heap) U.heap K U.heap H
def SaysS (St : (Nat → Nat) → Prop) (l : Launch) (Z : State) (EL : List (String × Nat)) (x0 n0 : Nat) (K : List CD) (pl : Nat → Bool) (y : MethodName) (bytes : ByteArray) (maxL : Nat) (ret : Option FieldType) (ws : List Jvm.Cond) (rm : Room) (F : List Value → AH → Option ORes) : Prop :=
  ∀ (as : List Value) (H : AH) (r : ORes) (σ : Nat → Nat), St σ → F as H = some r →
    MetFree l y (head1 (Jvm.Cond.code y bytes maxL ret :: ws) rm) (SPre Z EL x0 n0 K σ as H) (fun _ _ _ _ _ => True) (fun _ U o U' => SEnd Z EL x0 n0 H.length K pl σ r rm U o U')
/-- what a walk of such a method comes to -/
def DS (p : Program) (e : Env) (rm : Room) (sB : State) (below : List Frame) (Z : State) (EL : List (String × Nat)) (x0 n0 n1 : Nat) (K : List CD) (pl : Nat → Bool) (σ0 : Nat → Nat) (r : ORes) (T : State) (g : JFrame) : Prop :=
  ∃ s' σ' P' h0', BsL Z sB EL x0 n0 n1 pl σ0 s' σ' P' h0' ∧ Done p e rm s' below Z σ' x0 n0 n1 P' h0' K r T g
theorem DS.step {rm : Room} {r : ORes} (T T' : State) (g g' : JFrame) (D : DS p e rm sB below Z EL x0 n0 n1 K pl σ0 r T' g') (st : ∀ target, Steps p.tables e below (T'.setTop g') target → Steps p.tables e below (T.setTop g) target) : DS p e rm sB below Z EL x0 n0 n1 K pl σ0 r T g := by
  obtain ⟨s', σ', P', h0', hb, d⟩ := D
  exact ⟨s', σ', P', h0', hb, d.step st⟩
theorem says_fnS {St : (Nat → Nat) → Prop} {y : MethodName} {bytes : ByteArray} {maxL : Nat} {ret : Option FieldType} {ws : List Jvm.Cond} {rm : Room} {E : List (Nat × Nat × Act)} {fuel : Nat} (hEL : EW Z a0 EL) (hpl : plainFor y = true)
    (hE : ∀ (p : Program) (e : Env) (sB : State) (m : MethodId) (args : Array Value) (below : List Frame) (meth : Method) (c : Code) (n1 : Nat) (σ0 : Nat → Nat) (r : ORes), St σ0 → x0 ≤ n1 → p.tables.exec = Jvm.exec → c.code = bytes → c.maxLocals = maxL → (∀ vm0, Z.Warmed39 vm0 → vm0.findClass y.cls = some m.cls) → meth.name = y.name → AllGoodD p l e rm m args below meth c Z x0 n0 n1 K (BsL Z sB EL x0 n0 n1 pl σ0) (DS p e rm sB below Z EL x0 n0 n1 K pl σ0 r) E E) :
    SaysS St l Z EL x0 n0 K pl y bytes maxL ret ws rm (fn bytes maxL ret E x0 fuel) := by
  intro as H r σ hSt hf
  unfold fn at hf
  split at hf
  · rename_i hlen
    refine MetFree.of_bodySF hpl hisR ?_
    intro p e s m args below meth c s₁ Bd hml0 hP hK
    obtain ⟨rfl, hZ, hC, hsg, hR⟩ := hP
    have hx := Bd.exec
    have hby := Bd.bytes
    have hown : s.vm.findClass y.cls = some m.cls := findClass_of_methodNamed Bd.named
    have hnm := (name_of_methodNamed Bd.named Bd.method).1
    have X0 : Stand p l e rm s m (as.map (cv σ)).toArray below meth c s₁ [] 0 0 := Stand.of_body Bd
    have e0 : s₁.heap = s.heap := by rw [Bd.state]; rfl
    have hown' : ∀ vm0, Z.Warmed39 vm0 → vm0.findClass y.cls = some m.cls := fun vm0 h => by
      rw [h.alike.findClass, ← hZ.alike.findClass]; exact hown
    have hb : BsL Z s EL x0 n0 H.length pl σ s σ (Bk Z EL s.vm s.heap) s.heap := ⟨s.vm, s.heap.size, rfl, hZ, (State.WarmedH.refl s).since _, Nat.le_refl _, hC, rfl, hsg, fun _ _ _ => rfl⟩
    have D := run_soundD (Bs := BsL Z s EL x0 n0 H.length pl σ) (D := DS p e rm s below Z EL x0 n0 H.length K pl σ r) hx (fun s' σ' P' h0' hb => by obtain ⟨vm0, k0, rfl, h1, -, -, -, -, h2, -⟩ := hb; exact ⟨h1, h2⟩) Bd.returns (BodyLoose.notSynchronized Bd) (hE p e s m _ below meth c H.length σ r hSt hR.2.1 hx hby hml0 hown' hnm) DS.step (fun s' σ' P' h0' T g hb d => ⟨s', σ', P', h0', hb, d⟩) fuel s σ _ _ s₁ [] 0 0 0 (ent as maxL) [] H hb X0 (hlen.trans hml0.symm) (e0 ▸ hR) (Fr.nil n0) ⟨Nat.zero_le _, Nat.zero_le _⟩ (by rw [hby]; exact hf)
    obtain ⟨s', σ', P', h0', hb', t, h1, h2, h3, h4, L, h5, h6, h7⟩ := D
    obtain ⟨vm0, k0, rfl, b1, b2, b3, b4, rfl, b6, b7⟩ := hb'
    obtain ⟨f1, f2, f3⟩ := fresh hEL b1 b4 b6 h4 h6
    refine ⟨t, _, castTop (g' := mkF m 0 (cL σ (ent as maxL)) []) ?_ h1, h2, h3, _, L, σ', rfl, rfl, f3, f2, b7, f1, h5, ⟨_, rfl⟩, ?_⟩
    · simp only [entryFrame, ent_ok]
    · exact b2.ended h6 (Nat.le_trans b3 h4.2.2.2.2.2.2.2.1) h7
  · cases hf
end Cons
end Jvm.Own
namespace Jvm.Own
open Sem ClassFile Op Lib Bundle Jvm.Stand Jvm.Free Jvm.LawKit Jvm.RoadKit
/-! ## S6. The call of a constructor that may load constants -/
section CtorS
variable {p : Program} {l : Launch} {e : Env} {R : Room} {s sB : State} {m : MethodId} {args : Array Value} {below : List Frame} {meth : Method} {c : Code} {Z : State} {σ σ' σ0 : Nat → Nat} {x0 n0 n1 : Nat} {P : Addr → Prop} {h0 h : Heap} {K : List CD} {a0 : Array Value} {EL : List (String × Nat)} {pl plc : Nat → Bool} {H : AH}
theorem backS {y : MethodName} {bytes : ByteArray} {maxL : Nat} {ret : Option FieldType} {rm : Room} {len W : Nat} {as : List Value} {r : ORes}
    (hM : MetFree l y (head1 [Jvm.Cond.code y bytes maxL ret] rm) (SPre Z EL x0 n0 K σ as H) (fun _ _ _ _ _ => True) (fun _ U o U' => SEnd Z EL x0 n0 H.length K plc σ r rm U o U'))
    (hZ : Z.Warmed39 s.vm) (wc : (Jvm.Cond.code y bytes maxL ret).before a0 Z = true) (wz : (Jvm.Cond.initialized y.cls).before a0 Z = true) (hf : rm.frames + 1 ≤ R.frames) (hl : W + (maxL + 11) + rm.locals ≤ R.locals) :
    BackS l R p e below s args y len W (fun A a => SPre Z EL x0 n0 K σ as H a A.U ∧ A.cells + rm.cells ≤ R.cells ∧ A.slots + rm.slots ≤ R.slots)
      (fun A _ v B => ∃ L σ', v = r.1.map (cv σ') ∧ Rep Z σ' x0 n0 H.length (Bk Z EL B.U.vm B.U.heap) B.U.heap K B.U.heap r.2 ∧ Sg σ' x0 n0 (Bk Z EL B.U.vm B.U.heap) B.U.heap ∧ (∀ i, i < H.length → plc i = false → σ' i = σ i) ∧ CHv Z EL B.U.vm B.U.heap ∧ Fr n0 L ∧ B.locs = A.locs ++ L ∧ B.cells = A.cells + rm.cells ∧ B.slots = A.slots + rm.slots) :=
  BackS.of_freeW (bytes := bytes) (maxL := maxL) (ret := ret) (E := fun _ _ o t L k n => k = rm.cells ∧ n = rm.slots ∧ ∃ v σ', o = .returned v ∧ v = r.1.map (cv σ') ∧ Rep Z σ' x0 n0 H.length (Bk Z EL t.vm t.heap) t.heap K t.heap r.2 ∧ Sg σ' x0 n0 (Bk Z EL t.vm t.heap) t.heap ∧ (∀ i, i < H.length → plc i = false → σ' i = σ i) ∧ CHv Z EL t.vm t.heap ∧ Fr n0 L) hM hf hl
    (fun m meth c A a Y hp => have hU : Z.Warmed39 A.U.vm := wtrans hZ Y.warmed
      ⟨by show (Cond.and _ .tt).before a A.U = true; rw [Cond.before_and, mv hU wc]; rfl, mv hU wc, mv hU wz, hp.2.1, hp.2.2⟩)
    (fun m meth c A a g mk Y hp => hp.1) (fun _ _ _ _ _ _ _ _ _ => trivial)
    (fun _ _ _ _ ⟨v, L, σ', h1, h2, h3, h4, h5, h6, h7, h8⟩ => ⟨L, _, _, h8, rfl, rfl, v, σ', h1, h2, h3, h4, h5, h6, h7⟩)
    (fun m meth c A a g mk v t L k n Y hp _ _ ⟨e1, e2, v', σ', e3, e4, e5, e6, e7, e8, e9⟩ => by cases e3; subst e1 e2; exact ⟨L, σ', e4, e5, e6, e7, e8, e9, rfl, rfl, rfl⟩)
theorem out4 {j k : Nat} (p1 : k ≤ j) (p2 : j < k + 4) (a1 : j ≠ k) (a2 : j ≠ k + 1) (a3 : j ≠ k + 2) (a4 : j ≠ k + 2 + 1) : False := by omega
theorem okR_ag {n k : Nat} (hplk : ∀ i, plc i = true → k ≤ i ∧ i < k + 4) (hag : ∀ i, i < n → plc i = false → σ' i = σ i) {v : Value} (h1 : okR n k v = true) (h2 : okR n (k + 2) v = true) : cv σ' v = cv σ v := by
  cases v <;> first | rfl | skip
  rename_i j
  simp only [okR, decide_eq_true_eq] at h1 h2
  show Value.ref _ = Value.ref _
  rw [hag j h1.1]
  cases q : plc j with
  | false => rfl
  | true =>
    obtain ⟨p1, p2⟩ := hplk j q
    exact (out4 p1 p2 h1.2.1 h1.2.2 h2.2.1 h2.2.2).elim
theorem okCtorS {St : (Nat → Nat) → Prop} {D : State → JFrame → Prop} (hx : p.tables.exec = Jvm.exec) (hstep : ∀ (T T' : State) (g g' : JFrame), D T' g' → (∀ target, Steps p.tables e below (T'.setTop g') target → Steps p.tables e below (T.setTop g) target) → D T g)
    {own : String} {idx na cl W Rc Rs maxL k : Nat} {y : MethodName} {bytes : ByteArray} {rr : Option FieldType} {ps : List FieldType} {rm : Room} {F : List Value → AH → Option ORes} (hF0 : SaysS St l Z EL x0 n0 K plc y bytes maxL none [] rm F) (hy1 : y.name = "<init>") (hEL : EW Z a0 EL)
    (hown : ∀ vm0, Z.Warmed39 vm0 → vm0.findClass own = some m.cls) (w1 : (Jvm.Cond.methodLink own idx y).before a0 Z = true) (w2 : (Jvm.Cond.instanceMethod y).before a0 Z = true) (w3 : (Jvm.Cond.initialized y.cls).before a0 Z = true) (w4 : (Jvm.Cond.code y bytes maxL none).before a0 Z = true)
    (hy : y.cls ≠ "java/lang/invoke/MethodHandle" ∧ y.cls ≠ "java/lang/invoke/VarHandle") (hd0 : parseMethodDescriptor y.desc = some ⟨ps, rr⟩) (hna : ps.length = na) (hRc : Rc ≤ R.cells) (hRs : Rs ≤ R.slots) (hfr : rm.frames + 1 ≤ R.frames) (hlo : W + (maxL + 11) + rm.locals ≤ R.locals)
    (hplk : ∀ i, plc i = true → k ≤ i ∧ i < k + 4) (hsub : ∀ i, plc i = true → pl i = true) (hSt : ∀ s σ P h0, BsL Z sB EL x0 n0 n1 pl σ0 s σ P h0 → St σ) :
    GoodD p l e R m args below meth c Z x0 n0 n1 K (BsL Z sB EL x0 n0 n1 pl σ0) D (some k) (.invokespecial idx) (aRecv na cl W Rc Rs rm.cells rm.slots F) := by
  intro s σ P h0 T locs cs ss pc L S H S' H' cs' ss' hb X hd hL hR hF hB h hchk hk
  have hst0 := hSt s σ P h0 hb
  obtain ⟨vm0, k0, rfl, hZ, hS, hk0, hC, rfl, hsg, hag0⟩ := hb
  have hck : (fr3 H.length k L S [] && fr3 H.length (k + 2) L S []) = true := hchk k rfl
  simp only [fr3, Bool.and_eq_true, List.all_nil, and_true] at hck
  obtain ⟨⟨cL1, cS1⟩, cL2, cS2⟩ := hck
  unfold aRecv at h
  split at h
  · rename_i a r hdr
    replace h := Option.bind_eq_some_iff.mp h
    obtain ⟨q0, hob, h⟩ := h
    split at h
    · rename_i hq
      replace h := Option.bind_eq_some_iff.mp h
      obtain ⟨⟨v, H1⟩, h1, h⟩ := h
      cases h
      have hst : S.map (cv σ) = (((S.take na).reverse).map (cv σ)).reverse ++ .ref (σ a) :: r.map (cv σ) := by rw [args_rev S na, hdr]; rfl
      obtain ⟨v', vm1, ⟨T', L', k', n'⟩, hW1, X', hSi, hgr, ⟨Lc, σ', hv, hR', hsg', hag, hC', hN, l1, y1, z1⟩, st⟩ := X.specialBackS hx (y := y) hy1 (hown vm0 hZ) (mvT (s := sB.setVm vm0) hZ w1) (mvT (s := sB.setVm vm0) hZ w2) (mvT (s := sB.setVm vm0) hZ w4) hy (backS (W := W) (hF0 _ H _ σ hst0 h1) hZ w4 w3 hfr hlo) (g := mkF m pc (cL σ L) (S.map (cv σ))) rfl (size_cL.trans hL) (Steps.refl _) (a := σ a) (argsL := ((S.take na).reverse).map (cv σ)) (rest := r.map (cv σ)) (lenOf hd0 (by rw [hna]; simp; omega)) hst (by show 2 * 0 + _ ≤ _; rw [cat_sum]; omega) hd (fun vm1 hW => by
        obtain ⟨f1, f2, f3⟩ := fresh hEL hZ hC hsg hR hW
        exact ⟨⟨rfl, wtrans (s := sB.setVm vm0) hZ hW, f1, f2, f3.1, f3.2.1, f3.2.2.1, f3.2.2.2.1, f3.2.2.2.2.1, f3.2.2.2.2.2.1, f3.2.2.2.2.2.2.1, f3.2.2.2.2.2.2.2.1, Nat.le_refl _⟩, Nat.le_trans hq.2.2.2.1 hRc, Nat.le_trans hq.2.2.2.2 hRs⟩)
      dsimp only [Pt.U, Pt.locs, Pt.cells, Pt.slots] at X' l1 y1 z1 st hR' hSi hgr hC' hsg'
      subst l1 y1 z1 hv
      obtain ⟨r1, r2, r3, r4, r5, r6, r7, r8, r9⟩ := hR
      have hn1 : n1 ≤ H.length := r9
      refine hstep _ _ _ _ (hk (sB.setVm T'.vm) σ' (Bk Z EL T'.vm T'.heap) T'.heap T' _ ⟨T'.vm, T'.heap.size, rfl, State.Warmed39.trans (t := sB.setVm vm0) hZ hSi.1, hS.trans hSi (Nat.le_trans hk0 (Nat.le_trans r8 hgr)), Nat.le_refl _, hC', rfl, hsg', fun i q1 q2 => ?_⟩ X' ?_ (hF.app hN) ⟨Nat.le_trans hq.2.2.2.1 hRc, Nat.le_trans hq.2.2.2.2 hRs⟩) ?_
      · rw [hag i (by omega)]
        · exact hag0 i q1 q2
        · cases q : plc i with
          | false => rfl
          | true => rw [hsub i q] at q2; cases q2
      · exact ⟨hR'.1, hR'.2.1, hR'.2.2.1, hR'.2.2.2.1, hR'.2.2.2.2.1, hR'.2.2.2.2.2.1, hR'.2.2.2.2.2.2.1, hR'.2.2.2.2.2.2.2.1, Nat.le_trans hn1 hR'.2.2.2.2.2.2.2.2⟩
      · intro t q
        refine st.trans ?_
        have eL : cL σ' L = cL σ L := by
          unfold cL
          rw [List.map_congr_left (g := csl σ) fun x hx => ?_]
          have q1 := List.all_eq_true.mp cL1 x hx
          have q2 := List.all_eq_true.mp cL2 x hx
          cases x with
          | val v => exact congrArg Slot.val (okR_ag hplk hag q1 q2)
          | _ => rfl
        have er : r.map (cv σ') = r.map (cv σ) := List.map_congr_left fun v hv => by
          have hm : v ∈ S := List.mem_of_mem_drop (hdr ▸ List.mem_cons_of_mem _ hv)
          exact okR_ag hplk hag (List.all_eq_true.mp cS1 v hm) (List.all_eq_true.mp cS2 v hm)
        show Steps p.tables e below (T'.setTop (mkF m (pc + 3) (cL σ L) ((v.map (cv σ')).toList ++ r.map (cv σ)))) t
        rw [← eL, ← er, toList_map]; exact q
    · cases h
  · cases h
end CtorS
end Jvm.Own
namespace Jvm.Own
open Sem ClassFile Op Lib Bundle Jvm.Stand Jvm.Free Jvm.LawKit Jvm.RoadKit
/-! ## S7. Statics, casts, the clone of a static array; lists of acts -/
def aSta (v : Value) : Act := fun S H cs ss => some (v :: S, H, cs, ss)
def aNo : Act := fun _ _ _ _ => none
def aCastO (cn : Nat) : Act := fun S H cs ss => match S with
  | .ref a :: r => (obj H a).bind fun q => if q.1 = cn then some (.ref a :: r, H, cs, ss) else none
  | _ => none
def aInst (cn : Nat) : Act := fun S H cs ss => match S with
  | .ref a :: r => (obj H a).bind fun q => if q.1 = cn then some (.int 1 :: r, H, cs, ss) else none
  | _ => none
def aCastR (ty : FieldType) : Act := fun S H cs ss => match S with
  | .ref a :: r => (arr H a).bind fun q => if q.1 = ty then some (.ref a :: r, H, cs, ss) else none
  | _ => none
def aCloneR (ty : FieldType) (W Rc Rs : Nat) : Act := fun S H cs ss => match S with
  | .ref a :: r => (arr H a).bind fun q => if q.1 = ty ∧ (r.map Value.category).sum ≤ W ∧ cs + 1 ≤ Rc ∧ ss + q.2.length ≤ Rs then some (.ref H.length :: r, H ++ [.inr q], cs + 1, ss + q.2.length) else none
  | _ => none
section Acts7
variable {p : Program} {l : Launch} {e : Env} {R : Room} {s sB : State} {m : MethodId} {args : Array Value} {below : List Frame} {meth : Method} {c : Code} {Z : State} {σ σ0 : Nat → Nat} {x0 n0 n1 : Nat} {P : Addr → Prop} {h0 : Heap} {K : List CD} {a0 : Array Value} {h h' : Heap} {EL : List (String × Nat)} {pl : Nat → Bool}
theorem okSta (hx : p.tables.exec = Jvm.exec) (hZ : Z.Warmed39 s.vm) {own R0 O n d : String} {idx : Nat} {v : Value} (hown : s.vm.findClass own = some m.cls) (w : (Jvm.Cond.fieldLink own idx R0 n d).before a0 Z = true) (via : Via Z R0 O n d) (F : Sta Z Z.heap O n d (cv σ v)) : Good p l e R s m args below meth c Z σ x0 n0 n1 P h0 K (.getstatic idx) (aSta v) := by
  intro T locs cs ss pc L S H S' H' cs' ss' X hd hL hR hF hB h
  cases h
  obtain ⟨T', X', e', st⟩ := getS (host := "") X hx hZ hown w via rfl (F.ext hR.2.2.1.2) (g := mkF m pc (cL σ L) (S.map (cv σ))) rfl hd
  exact ⟨T', locs, X', e' ▸ hR, hF, hB, st⟩
theorem okCastO (hx : p.tables.exec = Jvm.exec) (hZ : Z.Warmed39 s.vm) {own C C' : String} {idx cn : Nat} {fs : List (String × String × String)} (hown : s.vm.findClass own = some m.cls) (w : (Jvm.Cond.classLink own idx C).before a0 Z = true) (hC : K[cn]? = some (C', fs)) (wc : (Jvm.Cond.castable C' C).before a0 Z = true) : Good p l e R s m args below meth c Z σ x0 n0 n1 P h0 K (.checkcast idx) (aCastO cn) := by
  intro T locs cs ss pc L S H S' H' cs' ss' X hd hL hR hF hB h
  unfold aCastO at h
  split at h
  · rename_i a r
    replace h := Option.bind_eq_some_iff.mp h
    obtain ⟨⟨t, vs⟩, h1, h⟩ := h
    dsimp only at h
    split at h
    · rename_i hq
      subst hq
      cases h
      obtain ⟨C2, fs2, q1, q2, -⟩ := hR.objO (obj_some h1) hC
      cases hC.symm.trans q1
      obtain ⟨T', X', e', st⟩ := castY X hx hZ hown w rfl (Ins.of_exa q2 wc) (g := mkF m pc (cL σ L) (List.map (cv σ) (.ref a :: r))) rfl rfl hd
      exact ⟨T', locs, X', e' ▸ hR, hF, hB, st⟩
    · cases h
  · cases h
theorem okInst (hx : p.tables.exec = Jvm.exec) (hZ : Z.Warmed39 s.vm) {own C C' : String} {idx cn : Nat} {fs : List (String × String × String)} (hown : s.vm.findClass own = some m.cls) (w : (Jvm.Cond.classLink own idx C).before a0 Z = true) (hC : K[cn]? = some (C', fs)) (wc : (Jvm.Cond.castable C' C).before a0 Z = true) : Good p l e R s m args below meth c Z σ x0 n0 n1 P h0 K (.instanceof idx) (aInst cn) := by
  intro T locs cs ss pc L S H S' H' cs' ss' X hd hL hR hF hB h
  unfold aInst at h
  split at h
  · rename_i a r
    replace h := Option.bind_eq_some_iff.mp h
    obtain ⟨⟨t, vs⟩, h1, h⟩ := h
    dsimp only at h
    split at h
    · rename_i hq
      subst hq
      cases h
      obtain ⟨C2, fs2, q1, q2, -⟩ := hR.objO (obj_some h1) hC
      cases hC.symm.trans q1
      obtain ⟨T', X', e', st⟩ := instY X hx hZ hown w rfl (Ins.of_exa q2 wc) (g := mkF m pc (cL σ L) (List.map (cv σ) (.ref a :: r))) rfl rfl hd
      exact ⟨T', locs, X', e' ▸ hR, hF, hB, st⟩
    · cases h
  · cases h
theorem okCastR (hx : p.tables.exec = Jvm.exec) (hZ : Z.Warmed39 s.vm) {own C ad : String} {idx : Nat} {ty : FieldType} (hty : ty.isReference = true) (hown : s.vm.findClass own = some m.cls) (had : "[" ++ ty.toString = ad) (w : (Jvm.Cond.classLink own idx C).before a0 Z = true) (wc : (Jvm.Cond.castable ad C).before a0 Z = true) : Good p l e R s m args below meth c Z σ x0 n0 n1 P h0 K (.checkcast idx) (aCastR ty) := by
  intro T locs cs ss pc L S H S' H' cs' ss' X hd hL hR hF hB h
  subst had
  unfold aCastR at h
  split at h
  · rename_i a r
    replace h := Option.bind_eq_some_iff.mp h
    obtain ⟨⟨t, vs⟩, h1, h⟩ := h
    dsimp only at h
    split at h
    · rename_i hq
      subst hq
      cases h
      obtain ⟨cell, A, hs, hl, hfi, hex⟩ := hR.arrO (arr_some h1)
      obtain ⟨T', X', e', st⟩ := castY X hx hZ hown w rfl (Ins.of_exa (hex (fun u => by rw [u] at hty; cases hty) (Or.inr hty)) wc) (g := mkF m pc (cL σ L) (List.map (cv σ) (.ref a :: r))) rfl rfl hd
      exact ⟨T', locs, X', e' ▸ hR, hF, hB, st⟩
    · cases h
  · cases h
theorem okCloneR (hx : p.tables.exec = Jvm.exec) (hZ : Z.Warmed39 s.vm) (hsg : Sg σ x0 n0 P h0) {own ad : String} {idx W Rc Rs : Nat} {ty : FieldType} (hty : ty.isReference = true) (hown : s.vm.findClass own = some m.cls) (had : "[" ++ ty.toString = ad)
    (w1 : (Jvm.Cond.methodLink own idx ⟨ad, "clone", "()Ljava/lang/Object;"⟩).before a0 Z = true) (w2 : (Jvm.Cond.sameMethod ad "java/lang/Object" "clone" "()Ljava/lang/Object;").before a0 Z = true) (w3 : (Jvm.Cond.native ⟨"java/lang/Object", "clone", "()Ljava/lang/Object;"⟩).before a0 Z = true)
    (w4 : (Jvm.Cond.instanceMethod ⟨"java/lang/Object", "clone", "()Ljava/lang/Object;"⟩).before a0 Z = true) (w5 : (Jvm.Cond.selects ad ⟨ad, "clone", "()Ljava/lang/Object;"⟩ ⟨"java/lang/Object", "clone", "()Ljava/lang/Object;"⟩).before a0 Z = true) (w6 : (Jvm.Cond.castable ad "java/lang/Cloneable").before a0 Z = true)
    (hf : 1 ≤ R.frames) (hlo : W + 14 ≤ R.locals) (hRc : Rc ≤ R.cells) (hRs : Rs ≤ R.slots) : Good p l e R s m args below meth c Z σ x0 n0 n1 P h0 K (.invokevirtual idx) (aCloneR ty W Rc Rs) := by
  intro T locs cs ss pc L S H S' H' cs' ss' X hd hL hR hF hB h
  subst had
  unfold aCloneR at h
  split at h
  · rename_i a r
    replace h := Option.bind_eq_some_iff.mp h
    obtain ⟨⟨t, vs⟩, h1, h⟩ := h
    dsimp only at h
    split at h
    · rename_i hq
      obtain ⟨rfl, hW, hc1, hs1⟩ := hq
      cases h
      obtain ⟨cell, A, hs, hl, hfi, hex⟩ := hR.arrO (arr_some h1)
      obtain ⟨c2, k, e1, e2, e3, -, e5⟩ := hex (fun u => by rw [u] at hty; cases hty) (Or.inr hty)
      cases A.1.symm.trans e1
      obtain ⟨c1, cC, g1, g2, g3⟩ := Cond.castable_spec w6
      cases e2.symm.trans g1
      have hal : Z.vm.Alike T.vm := hZ.alike.trans X.warmed.alike
      have FC : FitC Z cell := fitC_of A fun i hi v hv => by
        rw [hs] at hv
        simp only [List.getElem?_toArray, List.getElem?_map, Option.map_eq_some_iff] at hv
        obtain ⟨w, hw, rfl⟩ := hv
        rw [cv_fits]; exact hfi w (List.mem_of_getElem? hw)
      have ea : σ H.length = T.heap.size := hR.addr hsg
      have hsz : cell.slots.size = vs.length := by rw [hs]; simp
      obtain ⟨vm', X', st⟩ := X.cloneArray hx hown (mv hZ w1) (mv hZ w2) (mv hZ w3) (mv hZ w4) (mv hZ w5) (a := σ a) A.1 A.2.1.1 A.2.2 (by rw [hZ.alike.findClass]; exact e2) (by rw [hZ.alike.findClass]; exact g2) (by rw [hZ.alike.assignable]; exact g3)
        (fun i v hv => by have q := FC i v hv; rw [← State.fitsSlot_setVm hal] at q; exact q) (g := mkF m pc (cL σ L) (List.map (cv σ) (.ref a :: r))) rfl (size_cL.trans hL) rfl hd hf (by show 2 * 0 + _ + _ ≤ _; rw [cat_sum]; omega) (Nat.le_trans hc1 hRc) (by rw [hsz]; exact Nat.le_trans hs1 hRs)
        (by obtain ⟨-, k2, hk2, comp, hkind⟩ := A.2.1; rw [hZ.alike.clonesLoader]; exact Vm.clonesLoader_of_array hk2 hkind)
      rw [hsz] at X'
      refine ⟨_, locs, X', hR.push (ext_push _ _) (by show (T.heap.push _).size = _; simp) ?_, hF, ⟨Nat.le_trans hc1 hRc, Nat.le_trans hs1 hRs⟩, ?_⟩
      · rw [ea]
        have hN : (T.heap.push { cls := cell.cls, slots := cell.slots })[T.heap.size]? = some { cls := cell.cls, slots := cell.slots } := by simp
        exact ⟨_, ⟨hN, ⟨fun _ z => (by cases z), A.2.1.2⟩, fun z => (by cases z)⟩, hs, hl, hfi, fun _ _ => ⟨_, k, hN, e2, e3, rfl, e5⟩⟩
      · intro t q
        refine st t ?_
        have q' := q
        simp only [List.map_cons, cv, ea] at q'
        exact q'
    · cases h
  · cases h
variable {Bs : State → (Nat → Nat) → (Addr → Prop) → Heap → Prop} {D : State → JFrame → Prop}
theorem okNo {q : Option Nat} {i : Instr} : GoodD p l e R m args below meth c Z x0 n0 n1 K Bs D q i aNo := by
  intro s σ P h0 T locs cs ss pc L S H S' H' cs' ss' hb X hd hL hR hF hB h
  cases h
theorem adc_nil {E0 : List (Nat × Nat × Act)} : AllGoodD p l e R m args below meth c Z x0 n0 n1 K Bs D E0 [] := trivial
theorem adc_cons {E0 E : List (Nat × Nat × Act)} {q i : Nat} {act : Act} (h : GoodD p l e R m args below meth c Z x0 n0 n1 K Bs D (if q = 0 ∨ q = 8 then litI i E0 else none) (insOf q i) act) (t : AllGoodD p l e R m args below meth c Z x0 n0 n1 K Bs D E0 E) : AllGoodD p l e R m args below meth c Z x0 n0 n1 K Bs D E0 ((q, i, act) :: E) := ⟨h, t⟩
theorem BsL.z (h : BsL Z sB EL x0 n0 n1 pl σ0 s σ P h0) : Z.Warmed39 s.vm := by obtain ⟨vm0, k0, rfl, h1, -⟩ := h; exact h1
theorem BsL.sg (h : BsL Z sB EL x0 n0 n1 pl σ0 s σ P h0) : Sg σ x0 n0 P h0 := by obtain ⟨vm0, k0, rfl, -, -, -, -, -, h1, -⟩ := h; exact h1
theorem BsL.ag (h : BsL Z sB EL x0 n0 n1 pl σ0 s σ P h0) (i : Nat) (hi : i < n1) (hp : pl i = false) : σ i = σ0 i := by obtain ⟨vm0, k0, rfl, -, -, -, -, -, -, h1⟩ := h; exact h1 i hi hp
end Acts7
/-! ### objects that stand before the call -/
def sgx (xs : List Nat) (n0 : Nat) (k : Nat) : Nat := match xs[k]? with | some a => a | none => n0 + k - xs.length
theorem sgx_in {xs : List Nat} {n0 k a : Nat} (h : xs[k]? = some a) : sgx xs n0 k = a := by
  unfold sgx; rw [h]
theorem sgx_ge {xs : List Nat} {n0 k : Nat} (h : xs.length ≤ k) : sgx xs n0 k = n0 + k - xs.length := by
  unfold sgx; rw [List.getElem?_eq_none h]
theorem sgx_ok {Z : State} {EL : List (String × Nat)} {xs : List Nat} (h : ∀ k a, k ≠ 8 → xs[k]? = some a → a < Z.heap.size) (hd : ∀ i j, i < 2 → j < 2 → sgx xs Z.heap.size i = sgx xs Z.heap.size j → i = j) : Sg (sgx xs Z.heap.size) xs.length Z.heap.size (Bk Z EL Z.vm Z.heap) Z.heap := by
  have lt : ∀ k, k < xs.length → k ≠ 8 → sgx xs Z.heap.size k < Z.heap.size := fun k hk k8 => by
    rw [sgx_in (List.getElem?_eq_getElem hk)]; exact h k _ k8 (List.getElem?_eq_getElem hk)
  refine ⟨fun k hk => ?_, fun i j hi h8 e => ?_, hd⟩
  · rw [sgx_ge hk]
    exact ⟨by omega, Safe.new (by omega)⟩
  · rw [sgx_ge hi] at e
    rcases Nat.lt_or_ge j xs.length with q | q
    · have := lt j q h8; omega
    · rw [sgx_ge q] at e; omega
theorem rep_x {s : State} {EL : List (String × Nat)} {xs : List Nat} {K : List CD} {H0 : AH} (h : ∀ k a, k ≠ 8 → xs[k]? = some a → a < s.heap.size) (hK : K[99]? = none) (h8 : 8 < xs.length) (hl : H0.length = xs.length) (hr : ∀ k o, H0[k]? = some o → o = opq ∨ k ≠ 8 ∧ RepO s (sgx xs s.heap.size) K s.heap (sgx xs s.heap.size k) o) : Rep s (sgx xs s.heap.size) xs.length s.heap.size H0.length (Bk s EL s.vm s.heap) s.heap K s.heap H0 :=
  ⟨fun k hk => by rw [sgx_ge (by omega)]; omega, by omega, Old.start s, hr, ⟨hK, h8⟩, fun _ _ _ q => q, fun k hk k8 => by rw [sgx_in (List.getElem?_eq_getElem (by omega : k < xs.length))]; exact h k _ k8 (List.getElem?_eq_getElem (by omega)), Nat.le_refl _, Nat.le_refl _⟩
end Jvm.Own
namespace Jvm.Own
open Sem ClassFile Op Lib Jvm.RoadKit
/-! ## 6. Rows for evaluating a orun -/
section Ev
variable {x y : Int32} {pc : Nat} {o : Int} {f : Nat → Option ORes} {P : Prop} [Decidable P]
theorem h_eq : if_icmp.holds .eq x y = decide (x = y) := by by_cases h : x = y <;> simp [if_icmp.holds, h]
theorem h_ne : if_icmp.holds .ne x y = !decide (x = y) := by by_cases h : x = y <;> simp [if_icmp.holds, h]
theorem h_lt : if_icmp.holds .lt x y = decide (x < y) := rfl
theorem h_ge : if_icmp.holds .ge x y = !decide (x < y) := by
  by_cases h : x < y
  · simp [if_icmp.holds, h, Int32.not_le.mpr h]
  · simp [if_icmp.holds, h, Int32.not_lt.mp h]
theorem h_gt : if_icmp.holds .gt x y = decide (y < x) := rfl
theorem h_le : if_icmp.holds .le x y = !decide (y < x) := by
  by_cases h : y < x
  · simp [if_icmp.holds, h, Int32.not_le.mpr h]
  · simp [if_icmp.holds, h, Int32.not_lt.mp h]
theorem z_eq : ifCond.holds .eq x = decide (x = 0) := h_eq (y := 0)
theorem z_ne : ifCond.holds .ne x = !decide (x = 0) := h_ne (y := 0)
theorem z_lt : ifCond.holds .lt x = decide (x < 0) := rfl
theorem z_ge : ifCond.holds .ge x = !decide (x < 0) := h_ge (y := 0)
theorem z_gt : ifCond.holds .gt x = decide (0 < x) := rfl
theorem z_le : ifCond.holds .le x = !decide (0 < x) := h_le (y := 0)
theorem br_d : br (decide P) pc o f = if 0 ≤ (pc : Int) + o then (if P then f ((pc : Int) + o).toNat else f (pc + 3)) else none := by unfold br; by_cases h : P <;> simp [h]
theorem br_n : br (!decide P) pc o f = if 0 ≤ (pc : Int) + o then (if P then f (pc + 3) else f ((pc : Int) + o).toNat) else none := by unfold br; by_cases h : P <;> simp [h]
theorem br_t : br true pc o f = if 0 ≤ (pc : Int) + o then f ((pc : Int) + o).toNat else none := rfl
theorem br_f : br false pc o f = if 0 ≤ (pc : Int) + o then f (pc + 3) else none := rfl
theorem b_1 : ((if P then (1 : Int32) else 0) = 1) = P := by by_cases h : P <;> simp [h]
theorem b_0 : ((if P then (1 : Int32) else 0) = 0) = ¬ P := by by_cases h : P <;> simp [h]
theorem b_1r : ((1 : Int32) = (if P then (1 : Int32) else 0)) = P := by by_cases h : P <;> simp [h]
theorem b_0r : ((0 : Int32) = (if P then (1 : Int32) else 0)) = ¬ P := by by_cases h : P <;> simp [h]
theorem b_bb {Q : Prop} [Decidable Q] : ((if P then (1 : Int32) else 0) = (if Q then (1 : Int32) else 0)) = (P ↔ Q) := by by_cases h : P <;> by_cases h' : Q <;> simp [h, h']
theorem b_and : (if P then (1 : Int32) else 0) &&& 1 = if P then 1 else 0 := by by_cases h : P <;> simp [h]
theorem i_10 : ((1 : Int32) = 0) = False := by simp
theorem i_01 : ((0 : Int32) = 1) = False := by simp
theorem nr_i {x : Int32} : narrow .int (.int x) = .int x := rfl
theorem nr_j {x : Int64} : narrow .long (.long x) = .long x := rfl
theorem nr_a {t : FieldType} {v : Value} : narrow (.array t) v = v := by cases v <;> rfl
theorem nr_o {t : String} {v : Value} : narrow (.object t) v = v := by cases v <;> rfl
theorem nr_b : narrow .boolean (.int (if P then (1 : Int32) else 0)) = .int (if P then (1 : Int32) else 0) := by by_cases h : P <;> simp [h] <;> rfl
theorem nr_b1 : narrow .boolean (.int 1) = .int 1 := rfl
theorem nr_b0 : narrow .boolean (.int 0) = .int 0 := rfl
theorem ft_i {x : Int32} : fits .int (.int x) = true := rfl
theorem ft_j {x : Int64} : fits .long (.long x) = true := rfl
theorem ft_a {t : FieldType} {a : Nat} : fits (.array t) (.ref a) = true := rfl
theorem ft_o {t : String} {a : Nat} : fits (.object t) (.ref a) = true := rfl
theorem ft_b : fits .boolean (.int (if P then (1 : Int32) else 0)) = true := by by_cases h : P <;> simp [h] <;> rfl
theorem ft_b1 : fits .boolean (.int 1) = true := rfl
theorem ft_b0 : fits .boolean (.int 0) = true := rfl
theorem rV_nil {H : AH} : rV none [] H = some (none, H) := rfl
theorem cat_int {x : Int32} : Value.category (.int x) = 1 := rfl
theorem cat_long {x : Int64} : Value.category (.long x) = 2 := rfl
theorem cat_ref {a : Nat} : Value.category (.ref a) = 1 := rfl
theorem cat_null : Value.category .null = 1 := rfl
theorem and11 : (1 : Int32) &&& 1 = 1 := rfl
theorem and01 : (0 : Int32) &&& 1 = 0 := rfl
theorem pI_int {x : Int32} {r : List Value} {f : Int32 → List Value → Option ORes} : pI (.int x :: r) f = f x r := rfl
theorem pL_long {x : Int64} {r : List Value} {f : Int64 → List Value → Option ORes} : pL (.long x :: r) f = f x r := rfl
theorem pA_ref {a : Nat} {r : List Value} {f : Value → List Value → Option ORes} : pA (.ref a :: r) f = f (.ref a) r := rfl
theorem pA_null {r : List Value} {f : Value → List Value → Option ORes} : pA (.null :: r) f = f .null r := rfl
theorem pR_ref {a : Nat} {r : List Value} {f : Nat → List Value → Option ORes} : pR (.ref a :: r) f = f a r := rfl
theorem p1_int {x : Int32} {r : List Value} {f : Value → List Value → Option ORes} : p1 (.int x :: r) f = f (.int x) r := rfl
theorem p1_ref {a : Nat} {r : List Value} {f : Value → List Value → Option ORes} : p1 (.ref a :: r) f = f (.ref a) r := rfl
theorem p1_null {r : List Value} {f : Value → List Value → Option ORes} : p1 (.null :: r) f = f .null r := rfl
variable {code : ByteArray} {rt : Option FieldType} {E : List (Nat × Nat × Act)} {x0 n q cs ss : Nat} {L : List Slot} {S : List Value} {H : AH}
theorem s_icmp {cd : ClassFile.Cond} {Q : Int32 → Int32 → Prop} [∀ x y, Decidable (Q x y)] (hP : ∀ x y, if_icmp.holds cd x y = decide (Q x y)) (h : dec code pc = some (.if_icmp cd o)) (ho : 0 ≤ (pc : Int) + o) (hq : ((pc : Int) + o).toNat = q) :
    orun code rt E x0 (n + 1) (pc, L, S, H, cs, ss) = pI S fun y S => pI S fun x r => if Q x y then orun code rt E x0 n (q, L, r, H, cs, ss) else orun code rt E x0 n (pc + 3, L, r, H, cs, ss) := by
  subst hq; rw [orun_succ, h]
  refine congrArg (pI S) (funext fun y => funext fun S' => congrArg (pI S') (funext fun x => funext fun r => ?_))
  rw [hP, br_d, if_pos ho]
theorem s_icmpN {cd : ClassFile.Cond} {Q : Int32 → Int32 → Prop} [∀ x y, Decidable (Q x y)] (hP : ∀ x y, if_icmp.holds cd x y = !decide (Q x y)) (h : dec code pc = some (.if_icmp cd o)) (ho : 0 ≤ (pc : Int) + o) (hq : ((pc : Int) + o).toNat = q) :
    orun code rt E x0 (n + 1) (pc, L, S, H, cs, ss) = pI S fun y S => pI S fun x r => if Q x y then orun code rt E x0 n (pc + 3, L, r, H, cs, ss) else orun code rt E x0 n (q, L, r, H, cs, ss) := by
  subst hq; rw [orun_succ, h]
  refine congrArg (pI S) (funext fun y => funext fun S' => congrArg (pI S') (funext fun x => funext fun r => ?_))
  rw [hP, br_n, if_pos ho]
theorem s_if {cd : ClassFile.Cond} {Q : Int32 → Prop} [∀ x, Decidable (Q x)] (hP : ∀ x, ifCond.holds cd x = decide (Q x)) (h : dec code pc = some (.ifCond cd o)) (ho : 0 ≤ (pc : Int) + o) (hq : ((pc : Int) + o).toNat = q) :
    orun code rt E x0 (n + 1) (pc, L, S, H, cs, ss) = pI S fun x r => if Q x then orun code rt E x0 n (q, L, r, H, cs, ss) else orun code rt E x0 n (pc + 3, L, r, H, cs, ss) := by
  subst hq; rw [orun_succ, h]
  refine congrArg (pI S) (funext fun x => funext fun r => ?_)
  rw [hP, br_d, if_pos ho]
theorem s_ifN {cd : ClassFile.Cond} {Q : Int32 → Prop} [∀ x, Decidable (Q x)] (hP : ∀ x, ifCond.holds cd x = !decide (Q x)) (h : dec code pc = some (.ifCond cd o)) (ho : 0 ≤ (pc : Int) + o) (hq : ((pc : Int) + o).toNat = q) :
    orun code rt E x0 (n + 1) (pc, L, S, H, cs, ss) = pI S fun x r => if Q x then orun code rt E x0 n (pc + 3, L, r, H, cs, ss) else orun code rt E x0 n (q, L, r, H, cs, ss) := by
  subst hq; rw [orun_succ, h]
  refine congrArg (pI S) (funext fun x => funext fun r => ?_)
  rw [hP, br_n, if_pos ho]
theorem s_goto (h : dec code pc = some (.goto o)) (ho : 0 ≤ (pc : Int) + o) (hq : ((pc : Int) + o).toNat = q) : orun code rt E x0 (n + 1) (pc, L, S, H, cs, ss) = orun code rt E x0 n (q, L, S, H, cs, ss) := by
  subst hq; rw [orun_succ, h]; exact if_pos ho
theorem s_any {i : Instr} (h : dec code pc = some i) : orun code rt E x0 (n + 1) (pc, L, S, H, cs, ss) = ex rt E x0 (orun code rt E x0 n) i pc L S H cs ss := by rw [orun_succ, h]; rfl
end Ev
theorem ex_ishl {rt : Option FieldType} {E : List (Nat × Nat × Act)} {x0 pc cs ss : Nat} {k : St → Option ORes} {L : List Slot} {S : List Value} {H : AH}  : ex rt E x0 k (.ishl) pc L S H cs ss = pI S fun y S => pI S fun x r => k (pc + 1, L, .int (x <<< (y &&& 31)) :: r, H, cs, ss) := rfl
theorem ex_ishr {rt : Option FieldType} {E : List (Nat × Nat × Act)} {x0 pc cs ss : Nat} {k : St → Option ORes} {L : List Slot} {S : List Value} {H : AH}  : ex rt E x0 k (.ishr) pc L S H cs ss = pI S fun y S => pI S fun x r => k (pc + 1, L, .int (x >>> (y &&& 31)) :: r, H, cs, ss) := rfl
theorem ex_iushr {rt : Option FieldType} {E : List (Nat × Nat × Act)} {x0 pc cs ss : Nat} {k : St → Option ORes} {L : List Slot} {S : List Value} {H : AH}  : ex rt E x0 k (.iushr) pc L S H cs ss = pI S fun y S => pI S fun x r => k (pc + 1, L, .int ((x.toUInt32 >>> (y &&& 31).toUInt32).toInt32) :: r, H, cs, ss) := rfl
theorem ex_idiv {rt : Option FieldType} {E : List (Nat × Nat × Act)} {x0 pc cs ss : Nat} {k : St → Option ORes} {L : List Slot} {S : List Value} {H : AH}  : ex rt E x0 k (.idiv) pc L S H cs ss = pI S fun y S => pI S fun x r => if y = 0 then none else k (pc + 1, L, .int (x / y) :: r, H, cs, ss) := rfl
theorem ex_irem {rt : Option FieldType} {E : List (Nat × Nat × Act)} {x0 pc cs ss : Nat} {k : St → Option ORes} {L : List Slot} {S : List Value} {H : AH}  : ex rt E x0 k (.irem) pc L S H cs ss = pI S fun y S => pI S fun x r => if y = 0 then none else k (pc + 1, L, .int (x % y) :: r, H, cs, ss) := rfl
theorem ex_ineg {rt : Option FieldType} {E : List (Nat × Nat × Act)} {x0 pc cs ss : Nat} {k : St → Option ORes} {L : List Slot} {S : List Value} {H : AH}  : ex rt E x0 k (.ineg) pc L S H cs ss = pI S fun x r => k (pc + 1, L, .int (-x) :: r, H, cs, ss) := rfl
theorem ex_i2b {rt : Option FieldType} {E : List (Nat × Nat × Act)} {x0 pc cs ss : Nat} {k : St → Option ORes} {L : List Slot} {S : List Value} {H : AH}  : ex rt E x0 k (.i2b) pc L S H cs ss = pI S fun x r => k (pc + 1, L, .int x.toInt8.toInt32 :: r, H, cs, ss) := rfl
theorem ex_i2c {rt : Option FieldType} {E : List (Nat × Nat × Act)} {x0 pc cs ss : Nat} {k : St → Option ORes} {L : List Slot} {S : List Value} {H : AH}  : ex rt E x0 k (.i2c) pc L S H cs ss = pI S fun x r => k (pc + 1, L, .int x.toUInt32.toUInt16.toUInt32.toInt32 :: r, H, cs, ss) := rfl
theorem ex_i2s {rt : Option FieldType} {E : List (Nat × Nat × Act)} {x0 pc cs ss : Nat} {k : St → Option ORes} {L : List Slot} {S : List Value} {H : AH}  : ex rt E x0 k (.i2s) pc L S H cs ss = pI S fun x r => k (pc + 1, L, .int x.toInt16.toInt32 :: r, H, cs, ss) := rfl
theorem ex_i2l {rt : Option FieldType} {E : List (Nat × Nat × Act)} {x0 pc cs ss : Nat} {k : St → Option ORes} {L : List Slot} {S : List Value} {H : AH}  : ex rt E x0 k (.i2l) pc L S H cs ss = pI S fun x r => k (pc + 1, L, .long x.toInt64 :: r, H, cs, ss) := rfl
theorem ex_l2i {rt : Option FieldType} {E : List (Nat × Nat × Act)} {x0 pc cs ss : Nat} {k : St → Option ORes} {L : List Slot} {S : List Value} {H : AH}  : ex rt E x0 k (.l2i) pc L S H cs ss = pL S fun x r => k (pc + 1, L, .int x.toInt32 :: r, H, cs, ss) := rfl
theorem ex_lneg {rt : Option FieldType} {E : List (Nat × Nat × Act)} {x0 pc cs ss : Nat} {k : St → Option ORes} {L : List Slot} {S : List Value} {H : AH}  : ex rt E x0 k (.lneg) pc L S H cs ss = pL S fun x r => k (pc + 1, L, .long (-x) :: r, H, cs, ss) := rfl
theorem ex_lshl {rt : Option FieldType} {E : List (Nat × Nat × Act)} {x0 pc cs ss : Nat} {k : St → Option ORes} {L : List Slot} {S : List Value} {H : AH}  : ex rt E x0 k (.lshl) pc L S H cs ss = pI S fun y S => pL S fun x r => k (pc + 1, L, .long (x <<< (y &&& 0x3f).toInt64) :: r, H, cs, ss) := rfl
theorem ex_lshr {rt : Option FieldType} {E : List (Nat × Nat × Act)} {x0 pc cs ss : Nat} {k : St → Option ORes} {L : List Slot} {S : List Value} {H : AH}  : ex rt E x0 k (.lshr) pc L S H cs ss = pI S fun y S => pL S fun x r => k (pc + 1, L, .long (x >>> (y &&& 0x3f).toInt64) :: r, H, cs, ss) := rfl
theorem ex_lushr {rt : Option FieldType} {E : List (Nat × Nat × Act)} {x0 pc cs ss : Nat} {k : St → Option ORes} {L : List Slot} {S : List Value} {H : AH}  : ex rt E x0 k (.lushr) pc L S H cs ss = pI S fun y S => pL S fun x r => k (pc + 1, L, .long ((x.toUInt64 >>> (y &&& 0x3f).toInt64.toUInt64).toInt64) :: r, H, cs, ss) := rfl
theorem ex_ldiv {rt : Option FieldType} {E : List (Nat × Nat × Act)} {x0 pc cs ss : Nat} {k : St → Option ORes} {L : List Slot} {S : List Value} {H : AH}  : ex rt E x0 k (.ldiv) pc L S H cs ss = pL S fun y S => pL S fun x r => if y = 0 then none else k (pc + 1, L, .long (x / y) :: r, H, cs, ss) := rfl
theorem ex_lrem {rt : Option FieldType} {E : List (Nat × Nat × Act)} {x0 pc cs ss : Nat} {k : St → Option ORes} {L : List Slot} {S : List Value} {H : AH}  : ex rt E x0 k (.lrem) pc L S H cs ss = pL S fun y S => pL S fun x r => if y = 0 then none else k (pc + 1, L, .long (x % y) :: r, H, cs, ss) := rfl
theorem ex_lcmp {rt : Option FieldType} {E : List (Nat × Nat × Act)} {x0 pc cs ss : Nat} {k : St → Option ORes} {L : List Slot} {S : List Value} {H : AH}  : ex rt E x0 k (.lcmp) pc L S H cs ss = pL S fun y S => pL S fun x r => k (pc + 1, L, .int (lcmpW x y) :: r, H, cs, ss) := rfl
theorem ex_dup {rt : Option FieldType} {E : List (Nat × Nat × Act)} {x0 pc cs ss : Nat} {k : St → Option ORes} {L : List Slot} {S : List Value} {H : AH}  : ex rt E x0 k (.dup) pc L S H cs ss = p1 S fun v r => k (pc + 1, L, v :: v :: r, H, cs, ss) := rfl
theorem ex_pop {rt : Option FieldType} {E : List (Nat × Nat × Act)} {x0 pc cs ss : Nat} {k : St → Option ORes} {L : List Slot} {S : List Value} {H : AH}  : ex rt E x0 k (.pop) pc L S H cs ss = p1 S fun _ r => k (pc + 1, L, r, H, cs, ss) := rfl
theorem ex_dup_x1 {rt : Option FieldType} {E : List (Nat × Nat × Act)} {x0 pc cs ss : Nat} {k : St → Option ORes} {L : List Slot} {S : List Value} {H : AH}  : ex rt E x0 k (.dup_x1) pc L S H cs ss = p1 S fun x S => p1 S fun y r => k (pc + 1, L, x :: y :: x :: r, H, cs, ss) := rfl
theorem ex_dup2 {rt : Option FieldType} {E : List (Nat × Nat × Act)} {x0 pc cs ss : Nat} {k : St → Option ORes} {L : List Slot} {S : List Value} {H : AH}  : ex rt E x0 k (.dup2) pc L S H cs ss = p1 S fun x S => p1 S fun y r => k (pc + 1, L, x :: y :: x :: y :: r, H, cs, ss) := rfl
theorem ex_ifnull {rt : Option FieldType} {E : List (Nat × Nat × Act)} {x0 pc cs ss : Nat} {k : St → Option ORes} {L : List Slot} {S : List Value} {H : AH} {o : Int} : ex rt E x0 k (.ifnull o) pc L S H cs ss = pA S fun v r => br (refEq v .null) pc o fun q => k (q, L, r, H, cs, ss) := rfl
theorem ex_ifnonnull {rt : Option FieldType} {E : List (Nat × Nat × Act)} {x0 pc cs ss : Nat} {k : St → Option ORes} {L : List Slot} {S : List Value} {H : AH} {o : Int} : ex rt E x0 k (.ifnonnull o) pc L S H cs ss = pA S fun v r => br (!refEq v .null) pc o fun q => k (q, L, r, H, cs, ss) := rfl
theorem ex_if_acmp {rt : Option FieldType} {E : List (Nat × Nat × Act)} {x0 pc cs ss : Nat} {k : St → Option ORes} {L : List Slot} {S : List Value} {H : AH} {cd : ACond} {o : Int} : ex rt E x0 k (.if_acmp cd o) pc L S H cs ss = pA S fun y S => pA S fun x r => if okc x0 x y = true then br (acV cd (refEq x y)) pc o fun q => k (q, L, r, H, cs, ss) else none := rfl
theorem ex_arraylength {rt : Option FieldType} {E : List (Nat × Nat × Act)} {x0 pc cs ss : Nat} {k : St → Option ORes} {L : List Slot} {S : List Value} {H : AH}  : ex rt E x0 k (.arraylength) pc L S H cs ss = pR S fun a r => (arr H a).bind fun q => k (pc + 1, L, .int q.2.length.toInt32 :: r, H, cs, ss) := rfl
theorem ex_iaload {rt : Option FieldType} {E : List (Nat × Nat × Act)} {x0 pc cs ss : Nat} {k : St → Option ORes} {L : List Slot} {S : List Value} {H : AH}  : ex rt E x0 k (.iaload) pc L S H cs ss = ald (isT .int) S H fun v r => k (pc + 1, L, v :: r, H, cs, ss) := rfl
theorem ex_baload {rt : Option FieldType} {E : List (Nat × Nat × Act)} {x0 pc cs ss : Nat} {k : St → Option ORes} {L : List Slot} {S : List Value} {H : AH}  : ex rt E x0 k (.baload) pc L S H cs ss = ald isBZ S H fun v r => k (pc + 1, L, v :: r, H, cs, ss) := rfl
theorem ex_caload {rt : Option FieldType} {E : List (Nat × Nat × Act)} {x0 pc cs ss : Nat} {k : St → Option ORes} {L : List Slot} {S : List Value} {H : AH}  : ex rt E x0 k (.caload) pc L S H cs ss = ald (isT .char) S H fun v r => k (pc + 1, L, v :: r, H, cs, ss) := rfl
theorem ex_laload {rt : Option FieldType} {E : List (Nat × Nat × Act)} {x0 pc cs ss : Nat} {k : St → Option ORes} {L : List Slot} {S : List Value} {H : AH}  : ex rt E x0 k (.laload) pc L S H cs ss = ald (isT .long) S H fun v r => k (pc + 1, L, v :: r, H, cs, ss) := rfl
theorem ex_aaload {rt : Option FieldType} {E : List (Nat × Nat × Act)} {x0 pc cs ss : Nat} {k : St → Option ORes} {L : List Slot} {S : List Value} {H : AH}  : ex rt E x0 k (.aaload) pc L S H cs ss = ald FieldType.isReference S H fun v r => k (pc + 1, L, v :: r, H, cs, ss) := rfl
theorem ex_iastore {rt : Option FieldType} {E : List (Nat × Nat × Act)} {x0 pc cs ss : Nat} {k : St → Option ORes} {L : List Slot} {S : List Value} {H : AH}  : ex rt E x0 k (.iastore) pc L S H cs ss = ast (isT .int) x0 S H fun r H' => k (pc + 1, L, r, H', cs, ss) := rfl
theorem ex_bastore {rt : Option FieldType} {E : List (Nat × Nat × Act)} {x0 pc cs ss : Nat} {k : St → Option ORes} {L : List Slot} {S : List Value} {H : AH}  : ex rt E x0 k (.bastore) pc L S H cs ss = ast (isT .byte) x0 S H fun r H' => k (pc + 1, L, r, H', cs, ss) := rfl
theorem ex_castore {rt : Option FieldType} {E : List (Nat × Nat × Act)} {x0 pc cs ss : Nat} {k : St → Option ORes} {L : List Slot} {S : List Value} {H : AH}  : ex rt E x0 k (.castore) pc L S H cs ss = ast (isT .char) x0 S H fun r H' => k (pc + 1, L, r, H', cs, ss) := rfl
theorem ex_lastore {rt : Option FieldType} {E : List (Nat × Nat × Act)} {x0 pc cs ss : Nat} {k : St → Option ORes} {L : List Slot} {S : List Value} {H : AH}  : ex rt E x0 k (.lastore) pc L S H cs ss = astL x0 S H fun r H' => k (pc + 1, L, r, H', cs, ss) := rfl
theorem ex_ldc {rt : Option FieldType} {E : List (Nat × Nat × Act)} {x0 pc cs ss : Nat} {k : St → Option ORes} {L : List Slot} {S : List Value} {H : AH} {i : Nat} : ex rt E x0 k (.ldc i) pc L S H cs ss = if ldOk E i L S H = true then spc E 0 i S H cs ss fun S' H' cs' ss' => k (pc + 2, L, S', H', cs', ss') else none := rfl
theorem ex_ldc_w {rt : Option FieldType} {E : List (Nat × Nat × Act)} {x0 pc cs ss : Nat} {k : St → Option ORes} {L : List Slot} {S : List Value} {H : AH} {i : Nat} : ex rt E x0 k (.ldc_w i) pc L S H cs ss = spc E 1 i S H cs ss fun S' H' cs' ss' => k (pc + 3, L, S', H', cs', ss') := rfl
theorem ex_ldc2_w {rt : Option FieldType} {E : List (Nat × Nat × Act)} {x0 pc cs ss : Nat} {k : St → Option ORes} {L : List Slot} {S : List Value} {H : AH} {i : Nat} : ex rt E x0 k (.ldc2_w i) pc L S H cs ss = spc E 2 i S H cs ss fun S' H' cs' ss' => k (pc + 3, L, S', H', cs', ss') := rfl
theorem ex_getfield {rt : Option FieldType} {E : List (Nat × Nat × Act)} {x0 pc cs ss : Nat} {k : St → Option ORes} {L : List Slot} {S : List Value} {H : AH} {i : Nat} : ex rt E x0 k (.getfield i) pc L S H cs ss = spc E 3 i S H cs ss fun S' H' cs' ss' => k (pc + 3, L, S', H', cs', ss') := rfl
theorem ex_putfield {rt : Option FieldType} {E : List (Nat × Nat × Act)} {x0 pc cs ss : Nat} {k : St → Option ORes} {L : List Slot} {S : List Value} {H : AH} {i : Nat} : ex rt E x0 k (.putfield i) pc L S H cs ss = spc E 4 i S H cs ss fun S' H' cs' ss' => k (pc + 3, L, S', H', cs', ss') := rfl
theorem ex_getstatic {rt : Option FieldType} {E : List (Nat × Nat × Act)} {x0 pc cs ss : Nat} {k : St → Option ORes} {L : List Slot} {S : List Value} {H : AH} {i : Nat} : ex rt E x0 k (.getstatic i) pc L S H cs ss = spc E 5 i S H cs ss fun S' H' cs' ss' => k (pc + 3, L, S', H', cs', ss') := rfl
theorem ex_new {rt : Option FieldType} {E : List (Nat × Nat × Act)} {x0 pc cs ss : Nat} {k : St → Option ORes} {L : List Slot} {S : List Value} {H : AH} {i : Nat} : ex rt E x0 k (.new i) pc L S H cs ss = spc E 6 i S H cs ss fun S' H' cs' ss' => k (pc + 3, L, S', H', cs', ss') := rfl
theorem ex_invokestatic {rt : Option FieldType} {E : List (Nat × Nat × Act)} {x0 pc cs ss : Nat} {k : St → Option ORes} {L : List Slot} {S : List Value} {H : AH} {i : Nat} : ex rt E x0 k (.invokestatic i) pc L S H cs ss = spc E 7 i S H cs ss fun S' H' cs' ss' => k (pc + 3, L, S', H', cs', ss') := rfl
theorem ex_invokespecial {rt : Option FieldType} {E : List (Nat × Nat × Act)} {x0 pc cs ss : Nat} {k : St → Option ORes} {L : List Slot} {S : List Value} {H : AH} {i : Nat} : ex rt E x0 k (.invokespecial i) pc L S H cs ss = if ctOk E i L S H = true then spc E 8 i S H cs ss fun S' H' cs' ss' => k (pc + 3, L, S', H', cs', ss') else none := rfl
theorem ex_invokevirtual {rt : Option FieldType} {E : List (Nat × Nat × Act)} {x0 pc cs ss : Nat} {k : St → Option ORes} {L : List Slot} {S : List Value} {H : AH} {i : Nat} : ex rt E x0 k (.invokevirtual i) pc L S H cs ss = spc E 9 i S H cs ss fun S' H' cs' ss' => k (pc + 3, L, S', H', cs', ss') := rfl
theorem ex_checkcast {rt : Option FieldType} {E : List (Nat × Nat × Act)} {x0 pc cs ss : Nat} {k : St → Option ORes} {L : List Slot} {S : List Value} {H : AH} {i : Nat} : ex rt E x0 k (.checkcast i) pc L S H cs ss = spc E 10 i S H cs ss fun S' H' cs' ss' => k (pc + 3, L, S', H', cs', ss') := rfl
theorem ex_instanceof {rt : Option FieldType} {E : List (Nat × Nat × Act)} {x0 pc cs ss : Nat} {k : St → Option ORes} {L : List Slot} {S : List Value} {H : AH} {i : Nat} : ex rt E x0 k (.instanceof i) pc L S H cs ss = spc E 11 i S H cs ss fun S' H' cs' ss' => k (pc + 3, L, S', H', cs', ss') := rfl
theorem ex_anewarray {rt : Option FieldType} {E : List (Nat × Nat × Act)} {x0 pc cs ss : Nat} {k : St → Option ORes} {L : List Slot} {S : List Value} {H : AH} {i : Nat} : ex rt E x0 k (.anewarray i) pc L S H cs ss = spc E 12 i S H cs ss fun S' H' cs' ss' => k (pc + 3, L, S', H', cs', ss') := rfl
theorem ex_newarray {rt : Option FieldType} {E : List (Nat × Nat × Act)} {x0 pc cs ss : Nat} {k : St → Option ORes} {L : List Slot} {S : List Value} {H : AH} {t : ArrayType} : ex rt E x0 k (.newarray t) pc L S H cs ss = spc E 13 (atn t) S H cs ss fun S' H' cs' ss' => k (pc + 2, L, S', H', cs', ss') := rfl
theorem ex_ireturn {rt : Option FieldType} {E : List (Nat × Nat × Act)} {x0 pc cs ss : Nat} {k : St → Option ORes} {L : List Slot} {S : List Value} {H : AH}  : ex rt E x0 k (.ireturn) pc L S H cs ss = rI rt S H := rfl
theorem ex_lreturn {rt : Option FieldType} {E : List (Nat × Nat × Act)} {x0 pc cs ss : Nat} {k : St → Option ORes} {L : List Slot} {S : List Value} {H : AH}  : ex rt E x0 k (.lreturn) pc L S H cs ss = rL rt S H := rfl
theorem ex_areturn {rt : Option FieldType} {E : List (Nat × Nat × Act)} {x0 pc cs ss : Nat} {k : St → Option ORes} {L : List Slot} {S : List Value} {H : AH}  : ex rt E x0 k (.areturn) pc L S H cs ss = rA rt S H := rfl
theorem ex_return {rt : Option FieldType} {E : List (Nat × Nat × Act)} {x0 pc cs ss : Nat} {k : St → Option ORes} {L : List Slot} {S : List Value} {H : AH}  : ex rt E x0 k (.return_) pc L S H cs ss = rV rt S H := rfl
end Jvm.Own
namespace Jvm.Own
open Sem ClassFile Op Lib Jvm.RoadKit
/-! ## 7. Walking: one row a step, the answer's property kept apart -/
def Rsq (r : Option ORes) (q : Option ORes → Prop) : Prop := q r
theorem res_of {a b : Option ORes} {q : Option ORes → Prop} (e : a = b) (h : Rsq b q) : Rsq a q := by subst e; exact h
theorem res_t {P : Prop} [Decidable P] {A B : Option ORes} {q : Option ORes → Prop} (hc : P) (h : Rsq A q) : Rsq (if P then A else B) q := by rw [if_pos hc]; exact h
theorem res_f {P : Prop} [Decidable P] {A B : Option ORes} {q : Option ORes → Prop} (hc : ¬ P) (h : Rsq B q) : Rsq (if P then A else B) q := by rw [if_neg hc]; exact h
def OneI (r : Option ORes) : Prop := ∃ H', r = some (some (.int 1), H')
def Is (v : Option ORes) (r : Option ORes) : Prop := r = v
section Ofs
variable {code : ByteArray} {rt : Option FieldType} {E : List (Nat × Nat × Act)} {x0 N : Nat} {st : St} {a v : Option ORes} {q : Option ORes → Prop}
theorem rsq_of (e : a = orun code rt E x0 N st) (h : ∀ go, go = orun code rt E x0 → Rsq (go N st) q) : q a := by subst e; exact h _ rfl
theorem one_of (e : a = orun code rt E x0 N st) (h : ∀ go, go = orun code rt E x0 → Rsq (go N st) OneI) : ∃ H', a = some (some (.int 1), H') := by subst e; exact h _ rfl
theorem is_of (e : a = orun code rt E x0 N st) (h : ∀ go, go = orun code rt E x0 → Rsq (go N st) (Is v)) : a = v := by subst e; exact h _ rfl
end Ofs
theorem one_1 {H : AH} : OneI (some (some (.int 1), H)) := ⟨H, rfl⟩
theorem one_b {H : AH} : OneI (some (some (.int (1 &&& 1)), H)) := ⟨H, by rw [and11]⟩
theorem is_i {z w : Int32} {H H' : AH} (e : z = w) (e' : H = H') : Is (some (some (.int w), H')) (some (some (.int z), H)) := by subst e; subst e'; rfl
theorem is_r {v : Option ORes} : Is v v := rfl
theorem is_1 {H : AH} : Is (some (some (.int 1), H)) (some (some (.int (1 &&& 1)), H)) := by unfold Is; rw [and11]
theorem is_0 {H : AH} : Is (some (some (.int 0), H)) (some (some (.int (0 &&& 1)), H)) := by unfold Is; rw [and01]
def so : Slot → Bool | .unset => true | .val (.int _) => true | .val (.ref _) => true | .val .null => true | _ => false
def so2 : Slot → Slot → Bool | .unset, .unset => true | .val (.long _), .second => true | _, _ => false
def isA : Value → Bool | .ref _ => true | .null => true | _ => false
def isS : Value → Bool | .int _ => true | .ref _ => true | .null => true | _ => false
theorem st1_so {L : List Slot} {k : Nat} {v : Value} {l : Slot} (hL : L[k]? = some l) (hk : so l = true) : st1 L k v = some (L.set k (.val v)) := by
  unfold st1; rw [hL]
  cases l with
  | unset => rfl
  | second => simp [so] at hk
  | val w => cases w <;> first | rfl | (simp [so] at hk)
theorem st2_so {L : List Slot} {k : Nat} {x : Int64} {l l' : Slot} (h1 : L[k]? = some l) (h2 : L[k + 1]? = some l') (hk : so2 l l' = true) : st2 L k x = some ((L.set k (.val (.long x))).set (k + 1) .second) := by
  unfold st2; rw [h1, h2]
  cases l with
  | unset => cases l' with
    | unset => rfl
    | second => simp [so2] at hk
    | val w => simp [so2] at hk
  | second => cases l' <;> simp [so2] at hk
  | val w => cases w <;> cases l' <;> first | rfl | (simp [so2] at hk)
theorem gA_isA {L : List Slot} {k : Nat} {v : Value} (hL : L[k]? = some (.val v)) (hv : isA v = true) : gA L k = some v := by
  unfold gA; rw [hL]; cases v <;> first | rfl | (simp [isA] at hv)
theorem pA_isA {v : Value} {r : List Value} {f : Value → List Value → Option ORes} (hv : isA v = true) : pA (v :: r) f = f v r := by
  cases v <;> first | rfl | (simp [isA] at hv)
theorem p1_isS {v : Value} {r : List Value} {f : Value → List Value → Option ORes} (hv : isS v = true) : p1 (v :: r) f = f v r := by
  cases v <;> first | rfl | (simp [isS] at hv)
def ln (l : List Value) : Int32 := l.length.toInt32
theorem ln_of {l : List Value} {n : Nat} {z : Int32} (h : l.length = n) (h' : n.toInt32 = z) : ln l = z := by unfold ln; rw [h, h']
theorem ln0 : ln [] = 0 := rfl
theorem ln1 {a0 : Value} : ln [a0] = 1 := rfl
theorem ln2 {a0 a1 : Value} : ln [a0, a1] = 2 := rfl
theorem ln3 {a0 a1 a2 : Value} : ln [a0, a1, a2] = 3 := rfl
theorem ln4 {a0 a1 a2 a3 : Value} : ln [a0, a1, a2, a3] = 4 := rfl
theorem ln5 {a0 a1 a2 a3 a4 : Value} : ln [a0, a1, a2, a3, a4] = 5 := rfl
theorem ln6 {a0 a1 a2 a3 a4 a5 : Value} : ln [a0, a1, a2, a3, a4, a5] = 6 := rfl
theorem ln7 {a0 a1 a2 a3 a4 a5 a6 : Value} : ln [a0, a1, a2, a3, a4, a5, a6] = 7 := rfl
theorem ln8 {a0 a1 a2 a3 a4 a5 a6 a7 : Value} : ln [a0, a1, a2, a3, a4, a5, a6, a7] = 8 := rfl
theorem ln9 {a0 a1 a2 a3 a4 a5 a6 a7 a8 : Value} : ln [a0, a1, a2, a3, a4, a5, a6, a7, a8] = 9 := rfl
theorem ln10 {a0 a1 a2 a3 a4 a5 a6 a7 a8 a9 : Value} : ln [a0, a1, a2, a3, a4, a5, a6, a7, a8, a9] = 10 := rfl
theorem ln11 {a0 a1 a2 a3 a4 a5 a6 a7 a8 a9 a10 : Value} : ln [a0, a1, a2, a3, a4, a5, a6, a7, a8, a9, a10] = 11 := rfl
theorem ln12 {a0 a1 a2 a3 a4 a5 a6 a7 a8 a9 a10 a11 : Value} : ln [a0, a1, a2, a3, a4, a5, a6, a7, a8, a9, a10, a11] = 12 := rfl
theorem ln13 {a0 a1 a2 a3 a4 a5 a6 a7 a8 a9 a10 a11 a12 : Value} : ln [a0, a1, a2, a3, a4, a5, a6, a7, a8, a9, a10, a11, a12] = 13 := rfl
theorem ln14 {a0 a1 a2 a3 a4 a5 a6 a7 a8 a9 a10 a11 a12 a13 : Value} : ln [a0, a1, a2, a3, a4, a5, a6, a7, a8, a9, a10, a11, a12, a13] = 14 := rfl
theorem ln15 {a0 a1 a2 a3 a4 a5 a6 a7 a8 a9 a10 a11 a12 a13 a14 : Value} : ln [a0, a1, a2, a3, a4, a5, a6, a7, a8, a9, a10, a11, a12, a13, a14] = 15 := rfl
theorem ln16 {a0 a1 a2 a3 a4 a5 a6 a7 a8 a9 a10 a11 a12 a13 a14 a15 : Value} : ln [a0, a1, a2, a3, a4, a5, a6, a7, a8, a9, a10, a11, a12, a13, a14, a15] = 16 := rfl
theorem ln17 {a0 a1 a2 a3 a4 a5 a6 a7 a8 a9 a10 a11 a12 a13 a14 a15 a16 : Value} : ln [a0, a1, a2, a3, a4, a5, a6, a7, a8, a9, a10, a11, a12, a13, a14, a15, a16] = 17 := rfl
theorem ln18 {a0 a1 a2 a3 a4 a5 a6 a7 a8 a9 a10 a11 a12 a13 a14 a15 a16 a17 : Value} : ln [a0, a1, a2, a3, a4, a5, a6, a7, a8, a9, a10, a11, a12, a13, a14, a15, a16, a17] = 18 := rfl
theorem ln19 {a0 a1 a2 a3 a4 a5 a6 a7 a8 a9 a10 a11 a12 a13 a14 a15 a16 a17 a18 : Value} : ln [a0, a1, a2, a3, a4, a5, a6, a7, a8, a9, a10, a11, a12, a13, a14, a15, a16, a17, a18] = 19 := rfl
theorem ln20 {a0 a1 a2 a3 a4 a5 a6 a7 a8 a9 a10 a11 a12 a13 a14 a15 a16 a17 a18 a19 : Value} : ln [a0, a1, a2, a3, a4, a5, a6, a7, a8, a9, a10, a11, a12, a13, a14, a15, a16, a17, a18, a19] = 20 := rfl
theorem ln21 {a0 a1 a2 a3 a4 a5 a6 a7 a8 a9 a10 a11 a12 a13 a14 a15 a16 a17 a18 a19 a20 : Value} : ln [a0, a1, a2, a3, a4, a5, a6, a7, a8, a9, a10, a11, a12, a13, a14, a15, a16, a17, a18, a19, a20] = 21 := rfl
theorem ln22 {a0 a1 a2 a3 a4 a5 a6 a7 a8 a9 a10 a11 a12 a13 a14 a15 a16 a17 a18 a19 a20 a21 : Value} : ln [a0, a1, a2, a3, a4, a5, a6, a7, a8, a9, a10, a11, a12, a13, a14, a15, a16, a17, a18, a19, a20, a21] = 22 := rfl
theorem ln23 {a0 a1 a2 a3 a4 a5 a6 a7 a8 a9 a10 a11 a12 a13 a14 a15 a16 a17 a18 a19 a20 a21 a22 : Value} : ln [a0, a1, a2, a3, a4, a5, a6, a7, a8, a9, a10, a11, a12, a13, a14, a15, a16, a17, a18, a19, a20, a21, a22] = 23 := rfl
theorem ln24 {a0 a1 a2 a3 a4 a5 a6 a7 a8 a9 a10 a11 a12 a13 a14 a15 a16 a17 a18 a19 a20 a21 a22 a23 : Value} : ln [a0, a1, a2, a3, a4, a5, a6, a7, a8, a9, a10, a11, a12, a13, a14, a15, a16, a17, a18, a19, a20, a21, a22, a23] = 24 := rfl
theorem ln25 {a0 a1 a2 a3 a4 a5 a6 a7 a8 a9 a10 a11 a12 a13 a14 a15 a16 a17 a18 a19 a20 a21 a22 a23 a24 : Value} : ln [a0, a1, a2, a3, a4, a5, a6, a7, a8, a9, a10, a11, a12, a13, a14, a15, a16, a17, a18, a19, a20, a21, a22, a23, a24] = 25 := rfl
theorem ln26 {a0 a1 a2 a3 a4 a5 a6 a7 a8 a9 a10 a11 a12 a13 a14 a15 a16 a17 a18 a19 a20 a21 a22 a23 a24 a25 : Value} : ln [a0, a1, a2, a3, a4, a5, a6, a7, a8, a9, a10, a11, a12, a13, a14, a15, a16, a17, a18, a19, a20, a21, a22, a23, a24, a25] = 26 := rfl
theorem ln27 {a0 a1 a2 a3 a4 a5 a6 a7 a8 a9 a10 a11 a12 a13 a14 a15 a16 a17 a18 a19 a20 a21 a22 a23 a24 a25 a26 : Value} : ln [a0, a1, a2, a3, a4, a5, a6, a7, a8, a9, a10, a11, a12, a13, a14, a15, a16, a17, a18, a19, a20, a21, a22, a23, a24, a25, a26] = 27 := rfl
theorem ln28 {a0 a1 a2 a3 a4 a5 a6 a7 a8 a9 a10 a11 a12 a13 a14 a15 a16 a17 a18 a19 a20 a21 a22 a23 a24 a25 a26 a27 : Value} : ln [a0, a1, a2, a3, a4, a5, a6, a7, a8, a9, a10, a11, a12, a13, a14, a15, a16, a17, a18, a19, a20, a21, a22, a23, a24, a25, a26, a27] = 28 := rfl
theorem ln29 {a0 a1 a2 a3 a4 a5 a6 a7 a8 a9 a10 a11 a12 a13 a14 a15 a16 a17 a18 a19 a20 a21 a22 a23 a24 a25 a26 a27 a28 : Value} : ln [a0, a1, a2, a3, a4, a5, a6, a7, a8, a9, a10, a11, a12, a13, a14, a15, a16, a17, a18, a19, a20, a21, a22, a23, a24, a25, a26, a27, a28] = 29 := rfl
theorem ln30 {a0 a1 a2 a3 a4 a5 a6 a7 a8 a9 a10 a11 a12 a13 a14 a15 a16 a17 a18 a19 a20 a21 a22 a23 a24 a25 a26 a27 a28 a29 : Value} : ln [a0, a1, a2, a3, a4, a5, a6, a7, a8, a9, a10, a11, a12, a13, a14, a15, a16, a17, a18, a19, a20, a21, a22, a23, a24, a25, a26, a27, a28, a29] = 30 := rfl
theorem ln31 {a0 a1 a2 a3 a4 a5 a6 a7 a8 a9 a10 a11 a12 a13 a14 a15 a16 a17 a18 a19 a20 a21 a22 a23 a24 a25 a26 a27 a28 a29 a30 : Value} : ln [a0, a1, a2, a3, a4, a5, a6, a7, a8, a9, a10, a11, a12, a13, a14, a15, a16, a17, a18, a19, a20, a21, a22, a23, a24, a25, a26, a27, a28, a29, a30] = 31 := rfl
theorem ln32 {a0 a1 a2 a3 a4 a5 a6 a7 a8 a9 a10 a11 a12 a13 a14 a15 a16 a17 a18 a19 a20 a21 a22 a23 a24 a25 a26 a27 a28 a29 a30 a31 : Value} : ln [a0, a1, a2, a3, a4, a5, a6, a7, a8, a9, a10, a11, a12, a13, a14, a15, a16, a17, a18, a19, a20, a21, a22, a23, a24, a25, a26, a27, a28, a29, a30, a31] = 32 := rfl
theorem ln33 {a0 a1 a2 a3 a4 a5 a6 a7 a8 a9 a10 a11 a12 a13 a14 a15 a16 a17 a18 a19 a20 a21 a22 a23 a24 a25 a26 a27 a28 a29 a30 a31 a32 : Value} : ln [a0, a1, a2, a3, a4, a5, a6, a7, a8, a9, a10, a11, a12, a13, a14, a15, a16, a17, a18, a19, a20, a21, a22, a23, a24, a25, a26, a27, a28, a29, a30, a31, a32] = 33 := rfl
theorem ln34 {a0 a1 a2 a3 a4 a5 a6 a7 a8 a9 a10 a11 a12 a13 a14 a15 a16 a17 a18 a19 a20 a21 a22 a23 a24 a25 a26 a27 a28 a29 a30 a31 a32 a33 : Value} : ln [a0, a1, a2, a3, a4, a5, a6, a7, a8, a9, a10, a11, a12, a13, a14, a15, a16, a17, a18, a19, a20, a21, a22, a23, a24, a25, a26, a27, a28, a29, a30, a31, a32, a33] = 34 := rfl
theorem ln35 {a0 a1 a2 a3 a4 a5 a6 a7 a8 a9 a10 a11 a12 a13 a14 a15 a16 a17 a18 a19 a20 a21 a22 a23 a24 a25 a26 a27 a28 a29 a30 a31 a32 a33 a34 : Value} : ln [a0, a1, a2, a3, a4, a5, a6, a7, a8, a9, a10, a11, a12, a13, a14, a15, a16, a17, a18, a19, a20, a21, a22, a23, a24, a25, a26, a27, a28, a29, a30, a31, a32, a33, a34] = 35 := rfl
theorem ln36 {a0 a1 a2 a3 a4 a5 a6 a7 a8 a9 a10 a11 a12 a13 a14 a15 a16 a17 a18 a19 a20 a21 a22 a23 a24 a25 a26 a27 a28 a29 a30 a31 a32 a33 a34 a35 : Value} : ln [a0, a1, a2, a3, a4, a5, a6, a7, a8, a9, a10, a11, a12, a13, a14, a15, a16, a17, a18, a19, a20, a21, a22, a23, a24, a25, a26, a27, a28, a29, a30, a31, a32, a33, a34, a35] = 36 := rfl
end Jvm.Own
namespace Jvm.Own
open Sem ClassFile Op Lib Jvm.RoadKit
theorem fit_of (ys : List Int32) (h : (ys.all fun y => fits .byte (.int y)) = true) : ∀ v ∈ ys.map Value.int, fits .byte v = true ∧ ∃ y : Int32, v = .int y := fun v hv => by
  obtain ⟨y, hy, rfl⟩ := List.mem_map.mp hv
  exact ⟨List.all_eq_true.mp h y hy, y, rfl⟩
theorem lit_ok {k cS n Rc Rs j : Nat} {bs S : List Value} {H : AH} {cs ss : Nat} {f : List Value × AH × Nat × Nat → Option ORes} {q : Option ORes → Prop} (hj : slt H k = j) (hb : cs + 2 ≤ Rc ∧ ss + (n + 4) ≤ Rs ∧ j + 1 < H.length)
    (h : Rsq (f (.ref j :: S, (H.set j (.inl (cS, [.ref (j + 1), .int 0]))).set (j + 1) (.inr (.byte, bs)), cs + 2, ss + (n + 4))) q) : Rsq ((aLit k cS n Rc Rs bs S H cs ss).bind f) q := by
  unfold aLit; subst hj; rw [if_pos hb]; exact h
end Jvm.Own
namespace Jvm.Pilot.@@N@@
open Jvm Jvm.ClassFile Sem Op Lib Jvm.Free Jvm.Stand Jvm.LawKit Jvm.RoadKit Bundle Jvm.Own Jvm.Pilot.@@N@@.Jvm.D
theorem k0_0 : dec code 0 = some (.iload_n 0) := by decide +kernel
theorem k0_1 : dec code 1 = some (.ldc 7) := by decide +kernel
theorem k0_3 : dec code 3 = some (.iand) := by decide +kernel
theorem k0_4 : dec code 4 = some (.iconst 3) := by decide +kernel
theorem k0_5 : dec code 5 = some (.irem) := by decide +kernel
theorem k0_6 : dec code 6 = some (.istore 6) := by decide +kernel
theorem k0_8 : dec code 8 = some (.iload 6) := by decide +kernel
theorem k0_10 : dec code 10 = some (.ifCond .ne 8) := by decide +kernel
theorem k0_13 : dec code 13 = some (.ldc 8) := by decide +kernel
theorem k0_15 : dec code 15 = some (.goto 16) := by decide +kernel
theorem k0_18 : dec code 18 = some (.iload 6) := by decide +kernel
theorem k0_20 : dec code 20 = some (.iconst 1) := by decide +kernel
theorem k0_21 : dec code 21 = some (.if_icmp .ne 8) := by decide +kernel
theorem k0_24 : dec code 24 = some (.ldc 10) := by decide +kernel
theorem k0_26 : dec code 26 = some (.goto 5) := by decide +kernel
theorem k0_29 : dec code 29 = some (.ldc 12) := by decide +kernel
theorem k0_31 : dec code 31 = some (.astore 7) := by decide +kernel
theorem k0_33 : dec code 33 = some (.iload 6) := by decide +kernel
theorem k0_35 : dec code 35 = some (.iconst 2) := by decide +kernel
theorem k0_36 : dec code 36 = some (.if_icmp .eq 19) := by decide +kernel
theorem k0_39 : dec code 39 = some (.iload_n 3) := by decide +kernel
theorem k0_40 : dec code 40 = some (.iconst 3) := by decide +kernel
theorem k0_41 : dec code 41 = some (.iand) := by decide +kernel
theorem k0_42 : dec code 42 = some (.ifCond .eq 13) := by decide +kernel
theorem k0_45 : dec code 45 = some (.aload 7) := by decide +kernel
theorem k0_47 : dec code 47 = some (.invokevirtual 14) := by decide +kernel
theorem k0_50 : dec code 50 = some (.istore 8) := by decide +kernel
theorem k0_52 : dec code 52 = some (.goto 11) := by decide +kernel
theorem k0_55 : dec code 55 = some (.iload_n 3) := by decide +kernel
theorem k0_56 : dec code 56 = some (.iconst 2) := by decide +kernel
theorem k0_57 : dec code 57 = some (.iushr) := by decide +kernel
theorem k0_58 : dec code 58 = some (.bipush 12) := by decide +kernel
theorem k0_60 : dec code 60 = some (.irem) := by decide +kernel
theorem k0_61 : dec code 61 = some (.istore 8) := by decide +kernel
theorem k0_63 : dec code 63 = some (.iload 8) := by decide +kernel
theorem k0_65 : dec code 65 = some (.newarray .char) := by decide +kernel
theorem k0_67 : dec code 67 = some (.astore 9) := by decide +kernel
theorem k0_69 : dec code 69 = some (.iload 8) := by decide +kernel
theorem k0_71 : dec code 71 = some (.ifCond .le 18) := by decide +kernel
theorem k0_74 : dec code 74 = some (.aload 9) := by decide +kernel
theorem k0_76 : dec code 76 = some (.iconst 0) := by decide +kernel
theorem k0_77 : dec code 77 = some (.aload 7) := by decide +kernel
theorem k0_79 : dec code 79 = some (.iconst 0) := by decide +kernel
theorem k0_80 : dec code 80 = some (.iload_n 2) := by decide +kernel
theorem k0_81 : dec code 81 = some (.iload 4) := by decide +kernel
theorem k0_83 : dec code 83 = some (.iload 5) := by decide +kernel
theorem k0_85 : dec code 85 = some (.invokestatic 20) := by decide +kernel
theorem k0_88 : dec code 88 = some (.castore) := by decide +kernel
theorem k0_89 : dec code 89 = some (.iload 8) := by decide +kernel
theorem k0_91 : dec code 91 = some (.iconst 1) := by decide +kernel
theorem k0_92 : dec code 92 = some (.if_icmp .le 18) := by decide +kernel
theorem k0_95 : dec code 95 = some (.aload 9) := by decide +kernel
theorem k0_97 : dec code 97 = some (.iconst 1) := by decide +kernel
theorem k0_98 : dec code 98 = some (.aload 7) := by decide +kernel
theorem k0_100 : dec code 100 = some (.iconst 1) := by decide +kernel
theorem k0_101 : dec code 101 = some (.iload_n 2) := by decide +kernel
theorem k0_102 : dec code 102 = some (.iload 4) := by decide +kernel
theorem k0_104 : dec code 104 = some (.iload 5) := by decide +kernel
theorem k0_106 : dec code 106 = some (.invokestatic 20) := by decide +kernel
theorem k0_109 : dec code 109 = some (.castore) := by decide +kernel
theorem k0_110 : dec code 110 = some (.iload 8) := by decide +kernel
theorem k0_112 : dec code 112 = some (.iconst 2) := by decide +kernel
theorem k0_113 : dec code 113 = some (.if_icmp .le 18) := by decide +kernel
theorem k0_116 : dec code 116 = some (.aload 9) := by decide +kernel
theorem k0_118 : dec code 118 = some (.iconst 2) := by decide +kernel
theorem k0_119 : dec code 119 = some (.aload 7) := by decide +kernel
theorem k0_121 : dec code 121 = some (.iconst 2) := by decide +kernel
theorem k0_122 : dec code 122 = some (.iload_n 2) := by decide +kernel
theorem k0_123 : dec code 123 = some (.iload 4) := by decide +kernel
theorem k0_125 : dec code 125 = some (.iload 5) := by decide +kernel
theorem k0_127 : dec code 127 = some (.invokestatic 20) := by decide +kernel
theorem k0_130 : dec code 130 = some (.castore) := by decide +kernel
theorem k0_131 : dec code 131 = some (.iload 8) := by decide +kernel
theorem k0_133 : dec code 133 = some (.iconst 3) := by decide +kernel
theorem k0_134 : dec code 134 = some (.if_icmp .le 18) := by decide +kernel
theorem k0_137 : dec code 137 = some (.aload 9) := by decide +kernel
theorem k0_139 : dec code 139 = some (.iconst 3) := by decide +kernel
theorem k0_140 : dec code 140 = some (.aload 7) := by decide +kernel
theorem k0_142 : dec code 142 = some (.iconst 3) := by decide +kernel
theorem k0_143 : dec code 143 = some (.iload_n 2) := by decide +kernel
theorem k0_144 : dec code 144 = some (.iload 4) := by decide +kernel
theorem k0_146 : dec code 146 = some (.iload 5) := by decide +kernel
theorem k0_148 : dec code 148 = some (.invokestatic 20) := by decide +kernel
theorem k0_151 : dec code 151 = some (.castore) := by decide +kernel
theorem k0_152 : dec code 152 = some (.iload 8) := by decide +kernel
theorem k0_154 : dec code 154 = some (.iconst 4) := by decide +kernel
theorem k0_155 : dec code 155 = some (.if_icmp .le 18) := by decide +kernel
theorem k0_158 : dec code 158 = some (.aload 9) := by decide +kernel
theorem k0_160 : dec code 160 = some (.iconst 4) := by decide +kernel
theorem k0_161 : dec code 161 = some (.aload 7) := by decide +kernel
theorem k0_163 : dec code 163 = some (.iconst 4) := by decide +kernel
theorem k0_164 : dec code 164 = some (.iload_n 2) := by decide +kernel
theorem k0_165 : dec code 165 = some (.iload 4) := by decide +kernel
theorem k0_167 : dec code 167 = some (.iload 5) := by decide +kernel
theorem k0_169 : dec code 169 = some (.invokestatic 20) := by decide +kernel
theorem k0_172 : dec code 172 = some (.castore) := by decide +kernel
theorem k0_173 : dec code 173 = some (.iload 8) := by decide +kernel
theorem k0_175 : dec code 175 = some (.iconst 5) := by decide +kernel
theorem k0_176 : dec code 176 = some (.if_icmp .le 18) := by decide +kernel
theorem k0_179 : dec code 179 = some (.aload 9) := by decide +kernel
theorem k0_181 : dec code 181 = some (.iconst 5) := by decide +kernel
theorem k0_182 : dec code 182 = some (.aload 7) := by decide +kernel
theorem k0_184 : dec code 184 = some (.iconst 5) := by decide +kernel
theorem k0_185 : dec code 185 = some (.iload_n 2) := by decide +kernel
theorem k0_186 : dec code 186 = some (.iload 4) := by decide +kernel
theorem k0_188 : dec code 188 = some (.iload 5) := by decide +kernel
theorem k0_190 : dec code 190 = some (.invokestatic 20) := by decide +kernel
theorem k0_193 : dec code 193 = some (.castore) := by decide +kernel
theorem k0_194 : dec code 194 = some (.iload 8) := by decide +kernel
theorem k0_196 : dec code 196 = some (.bipush 6) := by decide +kernel
theorem k0_198 : dec code 198 = some (.if_icmp .le 20) := by decide +kernel
theorem k0_201 : dec code 201 = some (.aload 9) := by decide +kernel
theorem k0_203 : dec code 203 = some (.bipush 6) := by decide +kernel
theorem k0_205 : dec code 205 = some (.aload 7) := by decide +kernel
theorem k0_207 : dec code 207 = some (.bipush 6) := by decide +kernel
theorem k0_209 : dec code 209 = some (.iload_n 2) := by decide +kernel
theorem k0_210 : dec code 210 = some (.iload 4) := by decide +kernel
theorem k0_212 : dec code 212 = some (.iload 5) := by decide +kernel
theorem k0_214 : dec code 214 = some (.invokestatic 20) := by decide +kernel
theorem k0_217 : dec code 217 = some (.castore) := by decide +kernel
theorem k0_218 : dec code 218 = some (.iload 8) := by decide +kernel
theorem k0_220 : dec code 220 = some (.bipush 7) := by decide +kernel
theorem k0_222 : dec code 222 = some (.if_icmp .le 20) := by decide +kernel
theorem k0_225 : dec code 225 = some (.aload 9) := by decide +kernel
theorem k0_227 : dec code 227 = some (.bipush 7) := by decide +kernel
theorem k0_229 : dec code 229 = some (.aload 7) := by decide +kernel
theorem k0_231 : dec code 231 = some (.bipush 7) := by decide +kernel
theorem k0_233 : dec code 233 = some (.iload_n 2) := by decide +kernel
theorem k0_234 : dec code 234 = some (.iload 4) := by decide +kernel
theorem k0_236 : dec code 236 = some (.iload 5) := by decide +kernel
theorem k0_238 : dec code 238 = some (.invokestatic 20) := by decide +kernel
theorem k0_241 : dec code 241 = some (.castore) := by decide +kernel
theorem k0_242 : dec code 242 = some (.iload 8) := by decide +kernel
theorem k0_244 : dec code 244 = some (.bipush 8) := by decide +kernel
theorem k0_246 : dec code 246 = some (.if_icmp .le 20) := by decide +kernel
theorem k0_249 : dec code 249 = some (.aload 9) := by decide +kernel
theorem k0_251 : dec code 251 = some (.bipush 8) := by decide +kernel
theorem k0_253 : dec code 253 = some (.aload 7) := by decide +kernel
theorem k0_255 : dec code 255 = some (.bipush 8) := by decide +kernel
theorem k0_257 : dec code 257 = some (.iload_n 2) := by decide +kernel
theorem k0_258 : dec code 258 = some (.iload 4) := by decide +kernel
theorem k0_260 : dec code 260 = some (.iload 5) := by decide +kernel
theorem k0_262 : dec code 262 = some (.invokestatic 20) := by decide +kernel
theorem k0_265 : dec code 265 = some (.castore) := by decide +kernel
theorem k0_266 : dec code 266 = some (.iload 8) := by decide +kernel
theorem k0_268 : dec code 268 = some (.bipush 9) := by decide +kernel
theorem k0_270 : dec code 270 = some (.if_icmp .le 20) := by decide +kernel
theorem k0_273 : dec code 273 = some (.aload 9) := by decide +kernel
theorem k0_275 : dec code 275 = some (.bipush 9) := by decide +kernel
theorem k0_277 : dec code 277 = some (.aload 7) := by decide +kernel
theorem k0_279 : dec code 279 = some (.bipush 9) := by decide +kernel
theorem k0_281 : dec code 281 = some (.iload_n 2) := by decide +kernel
theorem k0_282 : dec code 282 = some (.iload 4) := by decide +kernel
theorem k0_284 : dec code 284 = some (.iload 5) := by decide +kernel
theorem k0_286 : dec code 286 = some (.invokestatic 20) := by decide +kernel
theorem k0_289 : dec code 289 = some (.castore) := by decide +kernel
theorem k0_290 : dec code 290 = some (.iload 8) := by decide +kernel
theorem k0_292 : dec code 292 = some (.bipush 10) := by decide +kernel
theorem k0_294 : dec code 294 = some (.if_icmp .le 20) := by decide +kernel
theorem k0_297 : dec code 297 = some (.aload 9) := by decide +kernel
theorem k0_299 : dec code 299 = some (.bipush 10) := by decide +kernel
theorem k0_301 : dec code 301 = some (.aload 7) := by decide +kernel
theorem k0_303 : dec code 303 = some (.bipush 10) := by decide +kernel
theorem k0_305 : dec code 305 = some (.iload_n 2) := by decide +kernel
theorem k0_306 : dec code 306 = some (.iload 4) := by decide +kernel
theorem k0_308 : dec code 308 = some (.iload 5) := by decide +kernel
theorem k0_310 : dec code 310 = some (.invokestatic 20) := by decide +kernel
theorem k0_313 : dec code 313 = some (.castore) := by decide +kernel
theorem k0_314 : dec code 314 = some (.iload_n 1) := by decide +kernel
theorem k0_315 : dec code 315 = some (.iconst 1) := by decide +kernel
theorem k0_316 : dec code 316 = some (.iand) := by decide +kernel
theorem k0_317 : dec code 317 = some (.ifCond .eq 29) := by decide +kernel
theorem k0_320 : dec code 320 = some (.iload_n 1) := by decide +kernel
theorem k0_321 : dec code 321 = some (.iconst 1) := by decide +kernel
theorem k0_322 : dec code 322 = some (.iushr) := by decide +kernel
theorem k0_323 : dec code 323 = some (.bipush 11) := by decide +kernel
theorem k0_325 : dec code 325 = some (.irem) := by decide +kernel
theorem k0_326 : dec code 326 = some (.istore 10) := by decide +kernel
theorem k0_328 : dec code 328 = some (.iload 10) := by decide +kernel
theorem k0_330 : dec code 330 = some (.iload 8) := by decide +kernel
theorem k0_332 : dec code 332 = some (.if_icmp .ge 14) := by decide +kernel
theorem k0_335 : dec code 335 = some (.aload 9) := by decide +kernel
theorem k0_337 : dec code 337 = some (.iload 10) := by decide +kernel
theorem k0_339 : dec code 339 = some (.iload_n 2) := by decide +kernel
theorem k0_340 : dec code 340 = some (.sipush 255) := by decide +kernel
theorem k0_343 : dec code 343 = some (.iand) := by decide +kernel
theorem k0_344 : dec code 344 = some (.i2c) := by decide +kernel
theorem k0_345 : dec code 345 = some (.castore) := by decide +kernel
theorem k0_346 : dec code 346 = some (.new 15) := by decide +kernel
theorem k0_349 : dec code 349 = some (.dup) := by decide +kernel
theorem k0_350 : dec code 350 = some (.aload 9) := by decide +kernel
theorem k0_352 : dec code 352 = some (.invokespecial 26) := by decide +kernel
theorem k0_355 : dec code 355 = some (.astore 10) := by decide +kernel
theorem k0_357 : dec code 357 = some (.aconst_null) := by decide +kernel
theorem k0_358 : dec code 358 = some (.astore 11) := by decide +kernel
theorem k0_360 : dec code 360 = some (.aload 10) := by decide +kernel
theorem k0_362 : dec code 362 = some (.ldc 8) := by decide +kernel
theorem k0_364 : dec code 364 = some (.invokevirtual 29) := by decide +kernel
theorem k0_367 : dec code 367 = some (.ifCond .eq 11) := by decide +kernel
theorem k0_370 : dec code 370 = some (.getstatic 33) := by decide +kernel
theorem k0_373 : dec code 373 = some (.astore 11) := by decide +kernel
theorem k0_375 : dec code 375 = some (.goto 18) := by decide +kernel
theorem k0_378 : dec code 378 = some (.aload 10) := by decide +kernel
theorem k0_380 : dec code 380 = some (.ldc 10) := by decide +kernel
theorem k0_382 : dec code 382 = some (.invokevirtual 29) := by decide +kernel
theorem k0_385 : dec code 385 = some (.ifCond .eq 8) := by decide +kernel
theorem k0_388 : dec code 388 = some (.getstatic 39) := by decide +kernel
theorem k0_391 : dec code 391 = some (.astore 11) := by decide +kernel
theorem k0_393 : dec code 393 = some (.aload 10) := by decide +kernel
theorem k0_395 : dec code 395 = some (.invokestatic 42) := by decide +kernel
theorem k0_398 : dec code 398 = some (.astore 12) := by decide +kernel
theorem k0_400 : dec code 400 = some (.aload 11) := by decide +kernel
theorem k0_402 : dec code 402 = some (.ifnonnull 17) := by decide +kernel
theorem k0_405 : dec code 405 = some (.aload 12) := by decide +kernel
theorem k0_407 : dec code 407 = some (.invokevirtual 46) := by decide +kernel
theorem k0_410 : dec code 410 = some (.ifCond .ne 7) := by decide +kernel
theorem k0_413 : dec code 413 = some (.iconst 1) := by decide +kernel
theorem k0_414 : dec code 414 = some (.goto 4) := by decide +kernel
theorem k0_418 : dec code 418 = some (.ireturn) := by decide +kernel
theorem k0_419 : dec code 419 = some (.aload 12) := by decide +kernel
theorem k0_421 : dec code 421 = some (.invokevirtual 46) := by decide +kernel
theorem k0_424 : dec code 424 = some (.ifCond .eq 17) := by decide +kernel
theorem k0_427 : dec code 427 = some (.aload 12) := by decide +kernel
theorem k0_429 : dec code 429 = some (.invokevirtual 52) := by decide +kernel
theorem k0_432 : dec code 432 = some (.aload 11) := by decide +kernel
theorem k0_434 : dec code 434 = some (.if_acmp .ne 7) := by decide +kernel
theorem k0_437 : dec code 437 = some (.iconst 1) := by decide +kernel
theorem k0_438 : dec code 438 = some (.goto 4) := by decide +kernel
theorem k0_442 : dec code 442 = some (.ireturn) := by decide +kernel
theorem k1_0 : dec jdk_42_method_54_code 0 = some (.aload_n 0) := by decide +kernel
theorem k1_1 : dec jdk_42_method_54_code 1 = some (.getfield 9) := by decide +kernel
theorem k1_4 : dec jdk_42_method_54_code 4 = some (.arraylength) := by decide +kernel
theorem k1_5 : dec jdk_42_method_54_code 5 = some (.aload_n 0) := by decide +kernel
theorem k1_6 : dec jdk_42_method_54_code 6 = some (.invokevirtual 335) := by decide +kernel
theorem k1_9 : dec jdk_42_method_54_code 9 = some (.ishr) := by decide +kernel
theorem k1_10 : dec jdk_42_method_54_code 10 = some (.ireturn) := by decide +kernel
theorem k2_0 : dec jdk_42_method_152_code 0 = some (.getstatic 38) := by decide +kernel
theorem k2_3 : dec jdk_42_method_152_code 3 = some (.ifCond .eq 10) := by decide +kernel
theorem k2_6 : dec jdk_42_method_152_code 6 = some (.aload_n 0) := by decide +kernel
theorem k2_7 : dec jdk_42_method_152_code 7 = some (.getfield 15) := by decide +kernel
theorem k2_10 : dec jdk_42_method_152_code 10 = some (.goto 4) := by decide +kernel
theorem k2_14 : dec jdk_42_method_152_code 14 = some (.ireturn) := by decide +kernel
theorem k3_0 : dec method_3_code 0 = some (.iload_n 1) := by decide +kernel
theorem k3_1 : dec method_3_code 1 = some (.aload_n 0) := by decide +kernel
theorem k3_2 : dec method_3_code 2 = some (.invokevirtual 14) := by decide +kernel
theorem k3_5 : dec method_3_code 5 = some (.if_icmp .ge 9) := by decide +kernel
theorem k3_8 : dec method_3_code 8 = some (.aload_n 0) := by decide +kernel
theorem k3_9 : dec method_3_code 9 = some (.iload_n 1) := by decide +kernel
theorem k3_10 : dec method_3_code 10 = some (.invokevirtual 56) := by decide +kernel
theorem k3_13 : dec method_3_code 13 = some (.ireturn) := by decide +kernel
theorem k3_14 : dec method_3_code 14 = some (.iload_n 1) := by decide +kernel
theorem k3_15 : dec method_3_code 15 = some (.iconst 4) := by decide +kernel
theorem k3_16 : dec method_3_code 16 = some (.if_icmp .ge 7) := by decide +kernel
theorem k3_19 : dec method_3_code 19 = some (.iload_n 3) := by decide +kernel
theorem k3_20 : dec method_3_code 20 = some (.goto 15) := by decide +kernel
theorem k3_23 : dec method_3_code 23 = some (.iload_n 1) := by decide +kernel
theorem k3_24 : dec method_3_code 24 = some (.bipush 8) := by decide +kernel
theorem k3_26 : dec method_3_code 26 = some (.if_icmp .ge 8) := by decide +kernel
theorem k3_29 : dec method_3_code 29 = some (.iload 4) := by decide +kernel
theorem k3_31 : dec method_3_code 31 = some (.goto 4) := by decide +kernel
theorem k3_34 : dec method_3_code 34 = some (.iload_n 2) := by decide +kernel
theorem k3_35 : dec method_3_code 35 = some (.istore 5) := by decide +kernel
theorem k3_37 : dec method_3_code 37 = some (.iload_n 1) := by decide +kernel
theorem k3_38 : dec method_3_code 38 = some (.bipush 8) := by decide +kernel
theorem k3_40 : dec method_3_code 40 = some (.if_icmp .ge 12) := by decide +kernel
theorem k3_43 : dec method_3_code 43 = some (.bipush 8) := by decide +kernel
theorem k3_45 : dec method_3_code 45 = some (.iload_n 1) := by decide +kernel
theorem k3_46 : dec method_3_code 46 = some (.iconst 3) := by decide +kernel
theorem k3_47 : dec method_3_code 47 = some (.iand) := by decide +kernel
theorem k3_48 : dec method_3_code 48 = some (.imul) := by decide +kernel
theorem k3_49 : dec method_3_code 49 = some (.goto 10) := by decide +kernel
theorem k3_52 : dec method_3_code 52 = some (.bipush 8) := by decide +kernel
theorem k3_54 : dec method_3_code 54 = some (.iload_n 1) := by decide +kernel
theorem k3_55 : dec method_3_code 55 = some (.bipush 7) := by decide +kernel
theorem k3_57 : dec method_3_code 57 = some (.isub) := by decide +kernel
theorem k3_58 : dec method_3_code 58 = some (.imul) := by decide +kernel
theorem k3_59 : dec method_3_code 59 = some (.istore 6) := by decide +kernel
theorem k3_61 : dec method_3_code 61 = some (.iload 5) := by decide +kernel
theorem k3_63 : dec method_3_code 63 = some (.iload 6) := by decide +kernel
theorem k3_65 : dec method_3_code 65 = some (.iushr) := by decide +kernel
theorem k3_66 : dec method_3_code 66 = some (.sipush 255) := by decide +kernel
theorem k3_69 : dec method_3_code 69 = some (.iand) := by decide +kernel
theorem k3_70 : dec method_3_code 70 = some (.i2c) := by decide +kernel
theorem k3_71 : dec method_3_code 71 = some (.ireturn) := by decide +kernel
theorem k4_0 : dec jdk_42_method_56_code 0 = some (.aload_n 0) := by decide +kernel
theorem k4_1 : dec jdk_42_method_56_code 1 = some (.invokevirtual 492) := by decide +kernel
theorem k4_4 : dec jdk_42_method_56_code 4 = some (.ifCond .eq 12) := by decide +kernel
theorem k4_7 : dec jdk_42_method_56_code 7 = some (.aload_n 0) := by decide +kernel
theorem k4_8 : dec jdk_42_method_56_code 8 = some (.getfield 9) := by decide +kernel
theorem k4_11 : dec jdk_42_method_56_code 11 = some (.iload_n 1) := by decide +kernel
theorem k4_12 : dec jdk_42_method_56_code 12 = some (.invokestatic 495) := by decide +kernel
theorem k4_15 : dec jdk_42_method_56_code 15 = some (.ireturn) := by decide +kernel
theorem k5_0 : dec jdk_42_method_154_code 0 = some (.getstatic 38) := by decide +kernel
theorem k5_3 : dec jdk_42_method_154_code 3 = some (.ifCond .eq 14) := by decide +kernel
theorem k5_6 : dec jdk_42_method_154_code 6 = some (.aload_n 0) := by decide +kernel
theorem k5_7 : dec jdk_42_method_154_code 7 = some (.getfield 15) := by decide +kernel
theorem k5_10 : dec jdk_42_method_154_code 10 = some (.ifCond .ne 7) := by decide +kernel
theorem k5_13 : dec jdk_42_method_154_code 13 = some (.iconst 1) := by decide +kernel
theorem k5_14 : dec jdk_42_method_154_code 14 = some (.goto 4) := by decide +kernel
theorem k5_18 : dec jdk_42_method_154_code 18 = some (.ireturn) := by decide +kernel
theorem k6_0 : dec jdk_43_method_2_code 0 = some (.iload_n 1) := by decide +kernel
theorem k6_1 : dec jdk_43_method_2_code 1 = some (.aload_n 0) := by decide +kernel
theorem k6_2 : dec jdk_43_method_2_code 2 = some (.arraylength) := by decide +kernel
theorem k6_3 : dec jdk_43_method_2_code 3 = some (.invokestatic 9) := by decide +kernel
theorem k6_6 : dec jdk_43_method_2_code 6 = some (.aload_n 0) := by decide +kernel
theorem k6_7 : dec jdk_43_method_2_code 7 = some (.iload_n 1) := by decide +kernel
theorem k6_8 : dec jdk_43_method_2_code 8 = some (.baload) := by decide +kernel
theorem k6_9 : dec jdk_43_method_2_code 9 = some (.sipush 255) := by decide +kernel
theorem k6_12 : dec jdk_43_method_2_code 12 = some (.iand) := by decide +kernel
theorem k6_13 : dec jdk_43_method_2_code 13 = some (.i2c) := by decide +kernel
theorem k6_14 : dec jdk_43_method_2_code 14 = some (.ireturn) := by decide +kernel
theorem k7_0 : dec jdk_42_method_155_code 0 = some (.iload_n 0) := by decide +kernel
theorem k7_1 : dec jdk_42_method_155_code 1 = some (.iload_n 1) := by decide +kernel
theorem k7_2 : dec jdk_42_method_155_code 2 = some (.getstatic 1053) := by decide +kernel
theorem k7_5 : dec jdk_42_method_155_code 5 = some (.invokestatic 1059) := by decide +kernel
theorem k7_8 : dec jdk_42_method_155_code 8 = some (.pop) := by decide +kernel
theorem k7_9 : dec jdk_42_method_155_code 9 = some (.return_) := by decide +kernel
theorem k8_0 : dec jdk_41_method_11_code 0 = some (.iload_n 0) := by decide +kernel
theorem k8_1 : dec jdk_41_method_11_code 1 = some (.ifCond .lt 8) := by decide +kernel
theorem k8_4 : dec jdk_41_method_11_code 4 = some (.iload_n 0) := by decide +kernel
theorem k8_5 : dec jdk_41_method_11_code 5 = some (.iload_n 1) := by decide +kernel
theorem k8_6 : dec jdk_41_method_11_code 6 = some (.if_icmp .lt 10) := by decide +kernel
theorem k8_16 : dec jdk_41_method_11_code 16 = some (.iload_n 0) := by decide +kernel
theorem k8_17 : dec jdk_41_method_11_code 17 = some (.ireturn) := by decide +kernel
theorem k9_0 : dec jdk_42_method_3_code 0 = some (.aload_n 0) := by decide +kernel
theorem k9_1 : dec jdk_42_method_3_code 1 = some (.aload_n 1) := by decide +kernel
theorem k9_2 : dec jdk_42_method_3_code 2 = some (.iconst 0) := by decide +kernel
theorem k9_3 : dec jdk_42_method_3_code 3 = some (.aload_n 1) := by decide +kernel
theorem k9_4 : dec jdk_42_method_3_code 4 = some (.arraylength) := by decide +kernel
theorem k9_5 : dec jdk_42_method_3_code 5 = some (.aconst_null) := by decide +kernel
theorem k9_6 : dec jdk_42_method_3_code 6 = some (.invokespecial 27) := by decide +kernel
theorem k9_9 : dec jdk_42_method_3_code 9 = some (.return_) := by decide +kernel
theorem k10_0 : dec jdk_42_method_149_code 0 = some (.aload_n 0) := by decide +kernel
theorem k10_1 : dec jdk_42_method_149_code 1 = some (.invokespecial 1) := by decide +kernel
theorem k10_4 : dec jdk_42_method_149_code 4 = some (.iload_n 3) := by decide +kernel
theorem k10_5 : dec jdk_42_method_149_code 5 = some (.ifCond .ne 22) := by decide +kernel
theorem k10_8 : dec jdk_42_method_149_code 8 = some (.aload_n 0) := by decide +kernel
theorem k10_9 : dec jdk_42_method_149_code 9 = some (.ldc 7) := by decide +kernel
theorem k10_11 : dec jdk_42_method_149_code 11 = some (.getfield 9) := by decide +kernel
theorem k10_14 : dec jdk_42_method_149_code 14 = some (.putfield 9) := by decide +kernel
theorem k10_17 : dec jdk_42_method_149_code 17 = some (.aload_n 0) := by decide +kernel
theorem k10_18 : dec jdk_42_method_149_code 18 = some (.ldc 7) := by decide +kernel
theorem k10_20 : dec jdk_42_method_149_code 20 = some (.getfield 15) := by decide +kernel
theorem k10_23 : dec jdk_42_method_149_code 23 = some (.putfield 15) := by decide +kernel
theorem k10_26 : dec jdk_42_method_149_code 26 = some (.return_) := by decide +kernel
theorem k10_27 : dec jdk_42_method_149_code 27 = some (.getstatic 38) := by decide +kernel
theorem k10_30 : dec jdk_42_method_149_code 30 = some (.ifCond .eq 28) := by decide +kernel
theorem k10_33 : dec jdk_42_method_149_code 33 = some (.aload_n 1) := by decide +kernel
theorem k10_34 : dec jdk_42_method_149_code 34 = some (.iload_n 2) := by decide +kernel
theorem k10_35 : dec jdk_42_method_149_code 35 = some (.iload_n 3) := by decide +kernel
theorem k10_36 : dec jdk_42_method_149_code 36 = some (.invokestatic 177) := by decide +kernel
theorem k10_39 : dec jdk_42_method_149_code 39 = some (.astore 5) := by decide +kernel
theorem k10_41 : dec jdk_42_method_149_code 41 = some (.aload_n 0) := by decide +kernel
theorem k10_42 : dec jdk_42_method_149_code 42 = some (.aload 5) := by decide +kernel
theorem k10_44 : dec jdk_42_method_149_code 44 = some (.iload_n 3) := by decide +kernel
theorem k10_45 : dec jdk_42_method_149_code 45 = some (.invokestatic 47) := by decide +kernel
theorem k10_48 : dec jdk_42_method_149_code 48 = some (.putfield 15) := by decide +kernel
theorem k10_51 : dec jdk_42_method_149_code 51 = some (.aload_n 0) := by decide +kernel
theorem k10_52 : dec jdk_42_method_149_code 52 = some (.aload 5) := by decide +kernel
theorem k10_54 : dec jdk_42_method_149_code 54 = some (.putfield 9) := by decide +kernel
theorem k10_57 : dec jdk_42_method_149_code 57 = some (.return_) := by decide +kernel
theorem k11_0 : dec jdk_52_method_16_code 0 = some (.iload_n 2) := by decide +kernel
theorem k11_1 : dec jdk_52_method_16_code 1 = some (.newarray .byte) := by decide +kernel
theorem k11_3 : dec jdk_52_method_16_code 3 = some (.astore_n 3) := by decide +kernel
theorem k11_4 : dec jdk_52_method_16_code 4 = some (.aload_n 0) := by decide +kernel
theorem k11_5 : dec jdk_52_method_16_code 5 = some (.iload_n 1) := by decide +kernel
theorem k11_6 : dec jdk_52_method_16_code 6 = some (.aload_n 3) := by decide +kernel
theorem k11_7 : dec jdk_52_method_16_code 7 = some (.iconst 0) := by decide +kernel
theorem k11_8 : dec jdk_52_method_16_code 8 = some (.iload_n 2) := by decide +kernel
theorem k11_9 : dec jdk_52_method_16_code 9 = some (.invokestatic 115) := by decide +kernel
theorem k11_12 : dec jdk_52_method_16_code 12 = some (.istore 4) := by decide +kernel
theorem k11_14 : dec jdk_52_method_16_code 14 = some (.iload 4) := by decide +kernel
theorem k11_16 : dec jdk_52_method_16_code 16 = some (.iload_n 2) := by decide +kernel
theorem k11_17 : dec jdk_52_method_16_code 17 = some (.if_icmp .eq 40) := by decide +kernel
theorem k11_57 : dec jdk_52_method_16_code 57 = some (.aload_n 3) := by decide +kernel
theorem k11_58 : dec jdk_52_method_16_code 58 = some (.areturn) := by decide +kernel
theorem k12_0 : dec jdk_52_method_21_code 0 = some (.iconst 0) := by decide +kernel
theorem k12_1 : dec jdk_52_method_21_code 1 = some (.istore 5) := by decide +kernel
theorem k12_3 : dec jdk_52_method_21_code 3 = some (.iload 5) := by decide +kernel
theorem k12_5 : dec jdk_52_method_21_code 5 = some (.iload 4) := by decide +kernel
theorem k12_7 : dec jdk_52_method_21_code 7 = some (.if_icmp .ge 37) := by decide +kernel
theorem k12_10 : dec jdk_52_method_21_code 10 = some (.aload_n 0) := by decide +kernel
theorem k12_11 : dec jdk_52_method_21_code 11 = some (.iload_n 1) := by decide +kernel
theorem k12_12 : dec jdk_52_method_21_code 12 = some (.caload) := by decide +kernel
theorem k12_13 : dec jdk_52_method_21_code 13 = some (.istore 6) := by decide +kernel
theorem k12_15 : dec jdk_52_method_21_code 15 = some (.iload 6) := by decide +kernel
theorem k12_17 : dec jdk_52_method_21_code 17 = some (.sipush 255) := by decide +kernel
theorem k12_20 : dec jdk_52_method_21_code 20 = some (.if_icmp .le 6) := by decide +kernel
theorem k12_26 : dec jdk_52_method_21_code 26 = some (.aload_n 2) := by decide +kernel
theorem k12_27 : dec jdk_52_method_21_code 27 = some (.iload_n 3) := by decide +kernel
theorem k12_28 : dec jdk_52_method_21_code 28 = some (.iload 6) := by decide +kernel
theorem k12_30 : dec jdk_52_method_21_code 30 = some (.i2b) := by decide +kernel
theorem k12_31 : dec jdk_52_method_21_code 31 = some (.bastore) := by decide +kernel
theorem k12_32 : dec jdk_52_method_21_code 32 = some (.iinc 1 1) := by decide +kernel
theorem k12_35 : dec jdk_52_method_21_code 35 = some (.iinc 3 1) := by decide +kernel
theorem k12_38 : dec jdk_52_method_21_code 38 = some (.iinc 5 1) := by decide +kernel
theorem k12_41 : dec jdk_52_method_21_code 41 = some (.goto (-38)) := by decide +kernel
theorem k12_44 : dec jdk_52_method_21_code 44 = some (.iload 4) := by decide +kernel
theorem k12_46 : dec jdk_52_method_21_code 46 = some (.ireturn) := by decide +kernel
theorem k13_0 : dec jdk_52_method_15_code 0 = some (.iload_n 1) := by decide +kernel
theorem k13_1 : dec jdk_52_method_15_code 1 = some (.aload_n 0) := by decide +kernel
theorem k13_2 : dec jdk_52_method_15_code 2 = some (.arraylength) := by decide +kernel
theorem k13_3 : dec jdk_52_method_15_code 3 = some (.isub) := by decide +kernel
theorem k13_4 : dec jdk_52_method_15_code 4 = some (.bipush 31) := by decide +kernel
theorem k13_6 : dec jdk_52_method_15_code 6 = some (.iushr) := by decide +kernel
theorem k13_7 : dec jdk_52_method_15_code 7 = some (.i2b) := by decide +kernel
theorem k13_8 : dec jdk_52_method_15_code 8 = some (.ireturn) := by decide +kernel
theorem k14_0 : dec jdk_42_method_66_code 0 = some (.aload_n 0) := by decide +kernel
theorem k14_1 : dec jdk_42_method_66_code 1 = some (.aload_n 1) := by decide +kernel
theorem k14_2 : dec jdk_42_method_66_code 2 = some (.if_acmp .ne 5) := by decide +kernel
theorem k14_7 : dec jdk_42_method_66_code 7 = some (.aload_n 1) := by decide +kernel
theorem k14_8 : dec jdk_42_method_66_code 8 = some (.instanceof 10) := by decide +kernel
theorem k14_11 : dec jdk_42_method_66_code 11 = some (.ifCond .eq 43) := by decide +kernel
theorem k14_14 : dec jdk_42_method_66_code 14 = some (.aload_n 1) := by decide +kernel
theorem k14_15 : dec jdk_42_method_66_code 15 = some (.checkcast 10) := by decide +kernel
theorem k14_18 : dec jdk_42_method_66_code 18 = some (.astore_n 2) := by decide +kernel
theorem k14_19 : dec jdk_42_method_66_code 19 = some (.getstatic 38) := by decide +kernel
theorem k14_22 : dec jdk_42_method_66_code 22 = some (.ifCond .eq 14) := by decide +kernel
theorem k14_25 : dec jdk_42_method_66_code 25 = some (.aload_n 0) := by decide +kernel
theorem k14_26 : dec jdk_42_method_66_code 26 = some (.getfield 15) := by decide +kernel
theorem k14_29 : dec jdk_42_method_66_code 29 = some (.aload_n 2) := by decide +kernel
theorem k14_30 : dec jdk_42_method_66_code 30 = some (.getfield 15) := by decide +kernel
theorem k14_33 : dec jdk_42_method_66_code 33 = some (.if_icmp .ne 21) := by decide +kernel
theorem k14_36 : dec jdk_42_method_66_code 36 = some (.aload_n 0) := by decide +kernel
theorem k14_37 : dec jdk_42_method_66_code 37 = some (.getfield 9) := by decide +kernel
theorem k14_40 : dec jdk_42_method_66_code 40 = some (.aload_n 2) := by decide +kernel
theorem k14_41 : dec jdk_42_method_66_code 41 = some (.getfield 9) := by decide +kernel
theorem k14_44 : dec jdk_42_method_66_code 44 = some (.invokestatic 541) := by decide +kernel
theorem k14_47 : dec jdk_42_method_66_code 47 = some (.ifCond .eq 7) := by decide +kernel
theorem k14_50 : dec jdk_42_method_66_code 50 = some (.iconst 1) := by decide +kernel
theorem k14_51 : dec jdk_42_method_66_code 51 = some (.goto 4) := by decide +kernel
theorem k14_54 : dec jdk_42_method_66_code 54 = some (.iconst 0) := by decide +kernel
theorem k14_55 : dec jdk_42_method_66_code 55 = some (.ireturn) := by decide +kernel
theorem k15_0 : dec jdk_43_method_13_code 0 = some (.aload_n 0) := by decide +kernel
theorem k15_1 : dec jdk_43_method_13_code 1 = some (.arraylength) := by decide +kernel
theorem k15_2 : dec jdk_43_method_13_code 2 = some (.aload_n 1) := by decide +kernel
theorem k15_3 : dec jdk_43_method_13_code 3 = some (.arraylength) := by decide +kernel
theorem k15_4 : dec jdk_43_method_13_code 4 = some (.if_icmp .ne 30) := by decide +kernel
theorem k15_7 : dec jdk_43_method_13_code 7 = some (.iconst 0) := by decide +kernel
theorem k15_8 : dec jdk_43_method_13_code 8 = some (.istore_n 2) := by decide +kernel
theorem k15_9 : dec jdk_43_method_13_code 9 = some (.iload_n 2) := by decide +kernel
theorem k15_10 : dec jdk_43_method_13_code 10 = some (.aload_n 0) := by decide +kernel
theorem k15_11 : dec jdk_43_method_13_code 11 = some (.arraylength) := by decide +kernel
theorem k15_12 : dec jdk_43_method_13_code 12 = some (.if_icmp .ge 20) := by decide +kernel
theorem k15_15 : dec jdk_43_method_13_code 15 = some (.aload_n 0) := by decide +kernel
theorem k15_16 : dec jdk_43_method_13_code 16 = some (.iload_n 2) := by decide +kernel
theorem k15_17 : dec jdk_43_method_13_code 17 = some (.baload) := by decide +kernel
theorem k15_18 : dec jdk_43_method_13_code 18 = some (.aload_n 1) := by decide +kernel
theorem k15_19 : dec jdk_43_method_13_code 19 = some (.iload_n 2) := by decide +kernel
theorem k15_20 : dec jdk_43_method_13_code 20 = some (.baload) := by decide +kernel
theorem k15_21 : dec jdk_43_method_13_code 21 = some (.if_icmp .eq 5) := by decide +kernel
theorem k15_24 : dec jdk_43_method_13_code 24 = some (.iconst 0) := by decide +kernel
theorem k15_25 : dec jdk_43_method_13_code 25 = some (.ireturn) := by decide +kernel
theorem k15_26 : dec jdk_43_method_13_code 26 = some (.iinc 2 1) := by decide +kernel
theorem k15_29 : dec jdk_43_method_13_code 29 = some (.goto (-20)) := by decide +kernel
theorem k15_32 : dec jdk_43_method_13_code 32 = some (.iconst 1) := by decide +kernel
theorem k15_33 : dec jdk_43_method_13_code 33 = some (.ireturn) := by decide +kernel
theorem k15_34 : dec jdk_43_method_13_code 34 = some (.iconst 0) := by decide +kernel
theorem k15_35 : dec jdk_43_method_13_code 35 = some (.ireturn) := by decide +kernel
theorem k16_0 : dec prog_8_method_5_code 0 = some (.invokestatic 33) := by decide +kernel
theorem k16_3 : dec prog_8_method_5_code 3 = some (.astore_n 1) := by decide +kernel
theorem k16_4 : dec prog_8_method_5_code 4 = some (.aload_n 1) := by decide +kernel
theorem k16_5 : dec prog_8_method_5_code 5 = some (.arraylength) := by decide +kernel
theorem k16_6 : dec prog_8_method_5_code 6 = some (.istore_n 2) := by decide +kernel
theorem k16_7 : dec prog_8_method_5_code 7 = some (.iconst 0) := by decide +kernel
theorem k16_8 : dec prog_8_method_5_code 8 = some (.istore_n 3) := by decide +kernel
theorem k16_9 : dec prog_8_method_5_code 9 = some (.iload_n 3) := by decide +kernel
theorem k16_10 : dec prog_8_method_5_code 10 = some (.iload_n 2) := by decide +kernel
theorem k16_11 : dec prog_8_method_5_code 11 = some (.if_icmp .ge 32) := by decide +kernel
theorem k16_14 : dec prog_8_method_5_code 14 = some (.aload_n 1) := by decide +kernel
theorem k16_15 : dec prog_8_method_5_code 15 = some (.iload_n 3) := by decide +kernel
theorem k16_16 : dec prog_8_method_5_code 16 = some (.aaload) := by decide +kernel
theorem k16_17 : dec prog_8_method_5_code 17 = some (.astore 4) := by decide +kernel
theorem k16_19 : dec prog_8_method_5_code 19 = some (.aload 4) := by decide +kernel
theorem k16_21 : dec prog_8_method_5_code 21 = some (.getfield 29) := by decide +kernel
theorem k16_24 : dec prog_8_method_5_code 24 = some (.aload_n 0) := by decide +kernel
theorem k16_25 : dec prog_8_method_5_code 25 = some (.invokevirtual 37) := by decide +kernel
theorem k16_28 : dec prog_8_method_5_code 28 = some (.ifCond .eq 9) := by decide +kernel
theorem k16_31 : dec prog_8_method_5_code 31 = some (.aload 4) := by decide +kernel
theorem k16_33 : dec prog_8_method_5_code 33 = some (.invokestatic 43) := by decide +kernel
theorem k16_36 : dec prog_8_method_5_code 36 = some (.areturn) := by decide +kernel
theorem k16_37 : dec prog_8_method_5_code 37 = some (.iinc 3 1) := by decide +kernel
theorem k16_40 : dec prog_8_method_5_code 40 = some (.goto (-31)) := by decide +kernel
theorem k16_43 : dec prog_8_method_5_code 43 = some (.invokestatic 49) := by decide +kernel
theorem k16_46 : dec prog_8_method_5_code 46 = some (.areturn) := by decide +kernel
theorem k17_0 : dec prog_8_method_1_code 0 = some (.getstatic 10) := by decide +kernel
theorem k17_3 : dec prog_8_method_1_code 3 = some (.invokevirtual 14) := by decide +kernel
theorem k17_6 : dec prog_8_method_1_code 6 = some (.checkcast 15) := by decide +kernel
theorem k17_9 : dec prog_8_method_1_code 9 = some (.areturn) := by decide +kernel
theorem k18_0 : dec jdk_32_method_1_code 0 = some (.getstatic 1) := by decide +kernel
theorem k18_3 : dec jdk_32_method_1_code 3 = some (.astore_n 0) := by decide +kernel
theorem k18_4 : dec jdk_32_method_1_code 4 = some (.aload_n 0) := by decide +kernel
theorem k18_5 : dec jdk_32_method_1_code 5 = some (.areturn) := by decide +kernel
theorem k19_0 : dec jdk_32_method_6_code 0 = some (.aload_n 0) := by decide +kernel
theorem k19_1 : dec jdk_32_method_6_code 1 = some (.getfield 13) := by decide +kernel
theorem k19_4 : dec jdk_32_method_6_code 4 = some (.ifnull 7) := by decide +kernel
theorem k19_7 : dec jdk_32_method_6_code 7 = some (.iconst 1) := by decide +kernel
theorem k19_8 : dec jdk_32_method_6_code 8 = some (.goto 4) := by decide +kernel
theorem k19_11 : dec jdk_32_method_6_code 11 = some (.iconst 0) := by decide +kernel
theorem k19_12 : dec jdk_32_method_6_code 12 = some (.ireturn) := by decide +kernel
theorem k20_0 : dec jdk_32_method_3_code 0 = some (.new 2) := by decide +kernel
theorem k20_3 : dec jdk_32_method_3_code 3 = some (.dup) := by decide +kernel
theorem k20_4 : dec jdk_32_method_3_code 4 = some (.aload_n 0) := by decide +kernel
theorem k20_5 : dec jdk_32_method_3_code 5 = some (.invokestatic 17) := by decide +kernel
theorem k20_8 : dec jdk_32_method_3_code 8 = some (.invokespecial 23) := by decide +kernel
theorem k20_11 : dec jdk_32_method_3_code 11 = some (.areturn) := by decide +kernel
theorem k21_0 : dec jdk_31_method_10_code 0 = some (.aload_n 0) := by decide +kernel
theorem k21_1 : dec jdk_31_method_10_code 1 = some (.ifnonnull 11) := by decide +kernel
theorem k21_12 : dec jdk_31_method_10_code 12 = some (.aload_n 0) := by decide +kernel
theorem k21_13 : dec jdk_31_method_10_code 13 = some (.areturn) := by decide +kernel
theorem k22_0 : dec jdk_32_method_2_code 0 = some (.aload_n 0) := by decide +kernel
theorem k22_1 : dec jdk_32_method_2_code 1 = some (.invokespecial 7) := by decide +kernel
theorem k22_4 : dec jdk_32_method_2_code 4 = some (.aload_n 0) := by decide +kernel
theorem k22_5 : dec jdk_32_method_2_code 5 = some (.aload_n 1) := by decide +kernel
theorem k22_6 : dec jdk_32_method_2_code 6 = some (.putfield 13) := by decide +kernel
theorem k22_9 : dec jdk_32_method_2_code 9 = some (.return_) := by decide +kernel
theorem k23_0 : dec jdk_32_method_5_code 0 = some (.aload_n 0) := by decide +kernel
theorem k23_1 : dec jdk_32_method_5_code 1 = some (.getfield 13) := by decide +kernel
theorem k23_4 : dec jdk_32_method_5_code 4 = some (.ifnonnull 13) := by decide +kernel
theorem k23_17 : dec jdk_32_method_5_code 17 = some (.aload_n 0) := by decide +kernel
theorem k23_18 : dec jdk_32_method_5_code 18 = some (.getfield 13) := by decide +kernel
theorem k23_21 : dec jdk_32_method_5_code 21 = some (.areturn) := by decide +kernel
abbrev GT := Nat → St → Option ORes
abbrev QT := Option ORes → Prop
def K : List CD := [("java/lang/String", [("java/lang/String", "value", "[B"), ("java/lang/String", "coder", "B")]), ("java/util/Optional", [("java/util/Optional", "value", "Ljava/lang/Object;")]), ("com/example/mithi/mithi/importer/EdgeWeighting$Scheme", [("com/example/mithi/mithi/importer/EdgeWeighting$Scheme", "label", "Ljava/lang/String;")])]
theorem kok {Z : State} {a0 : Array Value} (hw : ∀ d ∈ tables_1, d.before a0 Z = true) : KOk Z a0 K := by
  intro c C fs h
  match c, h with
  | 0, h =>
    cases h
    refine ⟨fun _ => ⟨4, (hw _ (List.mem_of_getElem? (i := 3) rfl))⟩, ?_, names_inj (by decide +kernel)⟩
    intro i f hf
    match i, hf with
    | 0, hf => cases hf; exact ⟨Or.inr (hw _ (List.mem_of_getElem? (i := 5) rfl)), (.array .byte), by decide +kernel⟩
    | 1, hf => cases hf; exact ⟨Or.inr (hw _ (List.mem_of_getElem? (i := 6) rfl)), .byte, by decide +kernel⟩
    | k + 2, hf => cases hf
  | 1, h =>
    cases h
    refine ⟨fun _ => ⟨1, (hw _ (List.mem_of_getElem? (i := 121) rfl))⟩, ?_, names_inj (by decide +kernel)⟩
    intro i f hf
    match i, hf with
    | 0, hf => cases hf; exact ⟨Or.inr (hw _ (List.mem_of_getElem? (i := 115) rfl)), (.object "java/lang/Object"), by decide +kernel⟩
    | k + 1, hf => cases hf
  | 2, h =>
    cases h
    refine ⟨fun h => absurd h (by decide), ?_, names_inj (by decide +kernel)⟩
    intro i f hf
    match i, hf with
    | 0, hf => cases hf; exact ⟨Or.inr (hw _ (List.mem_of_getElem? (i := 102) rfl)), (.object "java/lang/String"), by decide +kernel⟩
    | k + 1, hf => cases hf
  | k + 3, h => cases h
variable {w : Int32} {vF : Value}
def OwnSta (w : Int32) (vF : Value) (Z : State) (σ : Nat → Nat) : Prop := Sta Z Z.heap "com/example/mithi/mithi/importer/EdgeWeighting$Scheme" "EQUAL" "Lcom/example/mithi/mithi/importer/EdgeWeighting$Scheme;" (cv σ (.ref 0)) ∧ Sta Z Z.heap "com/example/mithi/mithi/importer/EdgeWeighting$Scheme" "LOG_DEGREE" "Lcom/example/mithi/mithi/importer/EdgeWeighting$Scheme;" (cv σ (.ref 1)) ∧ Sta Z Z.heap "com/example/mithi/mithi/importer/EdgeWeighting$Scheme" "$VALUES" "[Lcom/example/mithi/mithi/importer/EdgeWeighting$Scheme;" (cv σ (.ref 2)) ∧ Sta Z Z.heap "java/util/Optional" "EMPTY" "Ljava/util/Optional;" (cv σ (.ref 7)) ∧ Sta Z Z.heap "java/lang/String" "COMPACT_STRINGS" "Z" (cv σ (.int w)) ∧ Sta Z Z.heap "jdk/internal/util/Preconditions" "SIOOBE_FORMATTER" "Ljava/util/function/BiFunction;" (cv σ (vF)) ∧ (vF = .null ∨ vF = .ref 8)
theorem own_ag {Z : State} {σ σ0 : Nat → Nat} (h : OwnSta w vF Z σ0) (hag : ∀ i, i < 9 → σ i = σ0 i) : OwnSta w vF Z σ := by
  have e : ∀ v : Value, (v = .null ∨ (∃ z, v = .int z) ∨ ∃ i, i < 9 ∧ v = .ref i) → cv σ v = cv σ0 v := fun v hv => by
    rcases hv with rfl | ⟨z, rfl⟩ | ⟨i, hi, rfl⟩
    · rfl
    · rfl
    · show Value.ref _ = Value.ref _
      rw [hag i hi]
  obtain ⟨h0, h1, h2, h3, h4, h5, hF⟩ := h
  refine ⟨by rw [e _ (Or.inr (Or.inr ⟨_, by decide, rfl⟩))]; exact h0, by rw [e _ (Or.inr (Or.inr ⟨_, by decide, rfl⟩))]; exact h1, by rw [e _ (Or.inr (Or.inr ⟨_, by decide, rfl⟩))]; exact h2, by rw [e _ (Or.inr (Or.inr ⟨_, by decide, rfl⟩))]; exact h3, by rw [e _ (Or.inr (Or.inl ⟨_, rfl⟩))]; exact h4, by rw [e _ (hF.imp id fun u => Or.inr ⟨8, by decide, u⟩)]; exact h5, hF⟩
def plL (i : Nat) : Bool := decide (9 ≤ i ∧ i < 25)
def plS (i : Nat) : Bool := decide (21 ≤ i ∧ i < 25)
theorem plL_in {k : Nat} (h1 : 9 ≤ k) (h2 : k + 4 ≤ 25) : ∀ i, k ≤ i → i < k + 4 → plL i = true := fun i h3 h4 => by simp only [plL, decide_eq_true_eq]; omega
theorem plS_in {k : Nat} (h1 : 21 ≤ k) (h2 : k + 4 ≤ 25) : ∀ i, k ≤ i → i < k + 4 → plS i = true := fun i h3 h4 => by simp only [plS, decide_eq_true_eq]; omega
theorem plS_k : ∀ i, plS i = true → 21 ≤ i ∧ i < 21 + 4 := fun i h => by simpa only [plS, decide_eq_true_eq] using h
theorem plS_L : ∀ i, plS i = true → plL i = true := fun i h => by simp only [plS, plL, decide_eq_true_eq] at *; omega
theorem agL {Z sB : State} {n0 n1 : Nat} {σ0 σ : Nat → Nat} {s : State} {PP : Addr → Prop} {h0 : Heap} (hst : OwnSta w vF Z σ0) (hn : 25 ≤ n1) (hb : BsL Z sB consts_1 25 n0 n1 plL σ0 s σ PP h0) : OwnSta w vF Z σ := own_ag hst fun i hi => hb.ag i (by omega) (by simp only [plL, decide_eq_false_iff_not]; omega)
theorem agS {Z sB : State} {n0 n1 : Nat} {σ0 σ : Nat → Nat} {s : State} {PP : Addr → Prop} {h0 : Heap} (hst : OwnSta w vF Z σ0) (hn : 25 ≤ n1) (hb : BsL Z sB consts_1 25 n0 n1 plS σ0 s σ PP h0) : OwnSta w vF Z σ := own_ag hst fun i hi => hb.ag i (by omega) (by simp only [plS, decide_eq_false_iff_not]; omega)
theorem hEL {Z : State} {a0 : Array Value} (hw : ∀ d ∈ tables_1, d.before a0 Z = true) : EW Z a0 consts_1 := EW.cons (hw _ (List.mem_of_getElem? (i := 1) rfl)) (by decide +kernel) (EW.cons (hw _ (List.mem_of_getElem? (i := 79) rfl)) (by decide +kernel) (EW.cons (hw _ (List.mem_of_getElem? (i := 137) rfl)) (by decide +kernel) (EW.cons (hw _ (List.mem_of_getElem? (i := 138) rfl)) (by decide +kernel) EW.nil)))
theorem hWS {Z : State} {a0 : Array Value} (hw : ∀ d ∈ tables_1, d.before a0 Z = true) : ∀ a ∈ Bundle.stringAtoms, a.before a0 Z = true := by
  intro a ha
  simp only [Bundle.stringAtoms, Bundle.sN, List.mem_cons, List.not_mem_nil, or_false] at ha
  rcases ha with rfl | rfl | rfl | rfl | rfl | rfl | rfl
  · exact (hw _ (List.mem_of_getElem? (i := 2) rfl))
  · exact (hw _ (List.mem_of_getElem? (i := 3) rfl))
  · exact (hw _ (List.mem_of_getElem? (i := 4) rfl))
  · exact (hw _ (List.mem_of_getElem? (i := 5) rfl))
  · exact (hw _ (List.mem_of_getElem? (i := 6) rfl))
  · exact (hw _ (List.mem_of_getElem? (i := 7) rfl))
  · exact (hw _ (List.mem_of_getElem? (i := 8) rfl))
/-! body 2: String.coder()B -/
def E2 (w : Int32) (vF : Value) : List (Nat × Nat × Act) := [(5, 38, aSta (.int w)), (3, 15, aGet 0 1)]
def F2 (w : Int32) (vF : Value) : List Value → AH → Option ORes := fn jdk_42_method_152_code 1 (Option.some Jvm.ClassFile.FieldType.byte) (E2 w vF) 25 54
abbrev R2 (w : Int32) (vF : Value) : GT := orun jdk_42_method_152_code (Option.some Jvm.ClassFile.FieldType.byte) (E2 w vF) 25
def r2 : Room := { frames := 0, cells := 0, slots := 0, locals := 0 }
theorem says2 (l : Launch) {Z : State} {a0 : Array Value} {σ : Nat → Nat} {n0 n1 : Nat} {PP : Addr → Prop} {h0 : Heap} (hsg : Sg σ 25 n0 PP h0) (hw : ∀ d ∈ tables_1, d.before a0 Z = true) (hst : OwnSta w vF Z σ) : Says l Z σ 25 n0 n1 PP h0 K (⟨"java/lang/String", "coder", "()B"⟩ : MethodName) jdk_42_method_152_code 1 (Option.some Jvm.ClassFile.FieldType.byte) [] r2 (F2 w vF) :=
  says_fn hsg (plainFor_of_name (by first | (simp [x, plainName, overriddenIn]; done) | (simp [plainName, overriddenIn]; done) | decide +kernel)) fun p e s m args below meth c hx hby hml hZ hown hnm => ag_cons (okSta hx hZ hown (hw _ (List.mem_of_getElem? (i := 20) rfl)) Via.refl (hst).2.2.2.2.1) <| ag_cons (okGet hx hZ hown (host := "") (Or.inl (hw _ (List.mem_of_getElem? (i := 21) rfl))) Via.refl (cn := 0) (j := 1) rfl rfl) <| ag_nil
/-! body 1: String.length()I -/
def E1 (w : Int32) (vF : Value) : List (Nat × Nat × Act) := [(3, 9, aGet 0 0), (9, 335, aRecv 0 0 6 0 0 0 0 (F2 w vF))]
def F1 (w : Int32) (vF : Value) : List Value → AH → Option ORes := fn jdk_42_method_54_code 1 (Option.some Jvm.ClassFile.FieldType.int) (E1 w vF) 25 54
abbrev R1 (w : Int32) (vF : Value) : GT := orun jdk_42_method_54_code (Option.some Jvm.ClassFile.FieldType.int) (E1 w vF) 25
def r1 : Room := { frames := 1, cells := 0, slots := 0, locals := 18 }
theorem says1 (l : Launch) {Z : State} {a0 : Array Value} {σ : Nat → Nat} {n0 n1 : Nat} {PP : Addr → Prop} {h0 : Heap} (hsg : Sg σ 25 n0 PP h0) (hw : ∀ d ∈ tables_1, d.before a0 Z = true) (hst : OwnSta w vF Z σ) : Says l Z σ 25 n0 n1 PP h0 K (⟨"java/lang/String", "length", "()I"⟩ : MethodName) jdk_42_method_54_code 1 (Option.some Jvm.ClassFile.FieldType.int) [] r1 (F1 w vF) :=
  says_fn hsg (plainFor_of_name (by first | (simp [x, plainName, overriddenIn]; done) | (simp [plainName, overriddenIn]; done) | decide +kernel)) fun p e s m args below meth c hx hby hml hZ hown hnm => ag_cons (okGet hx hZ hown (host := "") (Or.inl (hw _ (List.mem_of_getElem? (i := 14) rfl))) Via.refl (cn := 0) (j := 0) rfl rfl) <| ag_cons (okVirt (cl := 0) (W := 6) hx hZ (says2 l hsg hw hst) rfl hown (hw _ (List.mem_of_getElem? (i := 15) rfl)) (hw _ (List.mem_of_getElem? (i := 16) rfl)) (hw _ (List.mem_of_getElem? (i := 18) rfl)) (hw _ (List.mem_of_getElem? (i := 17) rfl)) (hw _ (List.mem_of_getElem? (i := 2) rfl)) (hw _ (List.mem_of_getElem? (i := 19) rfl)) (fun _ _ h => notFace_of_selects h) (by decide) (by decide +kernel : parseMethodDescriptor "()B" = some ⟨[], some .byte⟩) rfl (by decide) (by decide) (by decide) (by decide)) <| ag_nil
/-! body 5: String.isLatin1()Z -/
def E5 (w : Int32) (vF : Value) : List (Nat × Nat × Act) := [(5, 38, aSta (.int w)), (3, 15, aGet 0 1)]
def F5 (w : Int32) (vF : Value) : List Value → AH → Option ORes := fn jdk_42_method_154_code 1 (Option.some Jvm.ClassFile.FieldType.boolean) (E5 w vF) 25 58
abbrev R5 (w : Int32) (vF : Value) : GT := orun jdk_42_method_154_code (Option.some Jvm.ClassFile.FieldType.boolean) (E5 w vF) 25
def r5 : Room := { frames := 0, cells := 0, slots := 0, locals := 0 }
theorem says5 (l : Launch) {Z : State} {a0 : Array Value} {σ : Nat → Nat} {n0 n1 : Nat} {PP : Addr → Prop} {h0 : Heap} (hsg : Sg σ 25 n0 PP h0) (hw : ∀ d ∈ tables_1, d.before a0 Z = true) (hst : OwnSta w vF Z σ) : Says l Z σ 25 n0 n1 PP h0 K (⟨"java/lang/String", "isLatin1", "()Z"⟩ : MethodName) jdk_42_method_154_code 1 (Option.some Jvm.ClassFile.FieldType.boolean) [] r5 (F5 w vF) :=
  says_fn hsg (plainFor_of_name (by first | (simp [x, plainName, overriddenIn]; done) | (simp [plainName, overriddenIn]; done) | decide +kernel)) fun p e s m args below meth c hx hby hml hZ hown hnm => ag_cons (okSta hx hZ hown (hw _ (List.mem_of_getElem? (i := 20) rfl)) Via.refl (hst).2.2.2.2.1) <| ag_cons (okGet hx hZ hown (host := "") (Or.inl (hw _ (List.mem_of_getElem? (i := 21) rfl))) Via.refl (cn := 0) (j := 1) rfl rfl) <| ag_nil
/-! body 8: Preconditions.checkIndex(IILjava/util/function/BiFunction;)I -/
def E8 (w : Int32) (vF : Value) : List (Nat × Nat × Act) := []
def F8 (w : Int32) (vF : Value) : List Value → AH → Option ORes := fn jdk_41_method_11_code 3 (Option.some Jvm.ClassFile.FieldType.int) (E8 w vF) 25 64
abbrev R8 (w : Int32) (vF : Value) : GT := orun jdk_41_method_11_code (Option.some Jvm.ClassFile.FieldType.int) (E8 w vF) 25
def r8 : Room := { frames := 0, cells := 0, slots := 0, locals := 0 }
theorem says8 (l : Launch) {Z : State} {a0 : Array Value} {σ : Nat → Nat} {n0 n1 : Nat} {PP : Addr → Prop} {h0 : Heap} (hsg : Sg σ 25 n0 PP h0) (hw : ∀ d ∈ tables_1, d.before a0 Z = true) (hst : OwnSta w vF Z σ) : Says l Z σ 25 n0 n1 PP h0 K (⟨"jdk/internal/util/Preconditions", "checkIndex", "(IILjava/util/function/BiFunction;)I"⟩ : MethodName) jdk_41_method_11_code 3 (Option.some Jvm.ClassFile.FieldType.int) [] r8 (F8 w vF) :=
  says_fn hsg (plainFor_of_name (by first | (simp [x, plainName, overriddenIn]; done) | (simp [plainName, overriddenIn]; done) | decide +kernel)) fun p e s m args below meth c hx hby hml hZ hown hnm => ag_nil
/-! body 7: String.checkIndex(II)V -/
def E7 (w : Int32) (vF : Value) : List (Nat × Nat × Act) := [(5, 1053, aSta (vF)), (7, 1059, aCall 3 6 0 0 0 0 (F8 w vF))]
def F7 (w : Int32) (vF : Value) : List Value → AH → Option ORes := fn jdk_42_method_155_code 2 (Option.none : Option Jvm.ClassFile.FieldType) (E7 w vF) 25 52
abbrev R7 (w : Int32) (vF : Value) : GT := orun jdk_42_method_155_code (Option.none : Option Jvm.ClassFile.FieldType) (E7 w vF) 25
def r7 : Room := { frames := 1, cells := 0, slots := 0, locals := 20 }
theorem says7 (l : Launch) {Z : State} {a0 : Array Value} {σ : Nat → Nat} {n0 n1 : Nat} {PP : Addr → Prop} {h0 : Heap} (hsg : Sg σ 25 n0 PP h0) (hw : ∀ d ∈ tables_1, d.before a0 Z = true) (hst : OwnSta w vF Z σ) : Says l Z σ 25 n0 n1 PP h0 K (⟨"java/lang/String", "checkIndex", "(II)V"⟩ : MethodName) jdk_42_method_155_code 2 (Option.none : Option Jvm.ClassFile.FieldType) [] r7 (F7 w vF) :=
  says_fn hsg (plainFor_of_name (by first | (simp [x, plainName, overriddenIn]; done) | (simp [plainName, overriddenIn]; done) | decide +kernel)) fun p e s m args below meth c hx hby hml hZ hown hnm => ag_cons (okSta hx hZ hown (hw _ (List.mem_of_getElem? (i := 44) rfl)) Via.refl (hst).2.2.2.2.2.1) <| ag_cons (okStat (W := 6) hx hZ (says8 l hsg hw hst) hown (hw _ (List.mem_of_getElem? (i := 46) rfl)) (hw _ (List.mem_of_getElem? (i := 47) rfl)) (hw _ (List.mem_of_getElem? (i := 45) rfl)) (hw _ (List.mem_of_getElem? (i := 48) rfl)) (by decide) (by decide +kernel : parseMethodDescriptor "(IILjava/util/function/BiFunction;)I" = some ⟨[.int, .int, (.object "java/util/function/BiFunction")], some .int⟩) rfl (by decide) (by decide) (by decide) (by decide)) <| ag_nil
/-! body 6: StringLatin1.charAt([BI)C -/
def E6 (w : Int32) (vF : Value) : List (Nat × Nat × Act) := [(7, 9, aCall 2 6 0 0 0 0 (F7 w vF))]
def F6 (w : Int32) (vF : Value) : List Value → AH → Option ORes := fn jdk_43_method_2_code 2 (Option.some Jvm.ClassFile.FieldType.char) (E6 w vF) 25 62
abbrev R6 (w : Int32) (vF : Value) : GT := orun jdk_43_method_2_code (Option.some Jvm.ClassFile.FieldType.char) (E6 w vF) 25
def r6 : Room := { frames := 2, cells := 0, slots := 0, locals := 39 }
theorem says6 (l : Launch) {Z : State} {a0 : Array Value} {σ : Nat → Nat} {n0 n1 : Nat} {PP : Addr → Prop} {h0 : Heap} (hsg : Sg σ 25 n0 PP h0) (hw : ∀ d ∈ tables_1, d.before a0 Z = true) (hst : OwnSta w vF Z σ) : Says l Z σ 25 n0 n1 PP h0 K (⟨"java/lang/StringLatin1", "charAt", "([BI)C"⟩ : MethodName) jdk_43_method_2_code 2 (Option.some Jvm.ClassFile.FieldType.char) [] r6 (F6 w vF) :=
  says_fn hsg (plainFor_of_name (by first | (simp [x, plainName, overriddenIn]; done) | (simp [plainName, overriddenIn]; done) | decide +kernel)) fun p e s m args below meth c hx hby hml hZ hown hnm => ag_cons (okStat (W := 6) hx hZ (says7 l hsg hw hst) hown (hw _ (List.mem_of_getElem? (i := 41) rfl)) (hw _ (List.mem_of_getElem? (i := 42) rfl)) (hw _ (List.mem_of_getElem? (i := 2) rfl)) (hw _ (List.mem_of_getElem? (i := 43) rfl)) (by decide) (by decide +kernel : parseMethodDescriptor "(II)V" = some ⟨[.int, .int], none⟩) rfl (by decide) (by decide) (by decide) (by decide)) <| ag_nil
/-! body 4: String.charAt(I)C -/
def E4 (w : Int32) (vF : Value) : List (Nat × Nat × Act) := [(9, 492, aRecv 0 0 6 0 0 0 0 (F5 w vF)), (3, 9, aGet 0 0), (7, 495, aCall 2 6 0 0 0 0 (F6 w vF))]
def F4 (w : Int32) (vF : Value) : List Value → AH → Option ORes := fn jdk_42_method_56_code 2 (Option.some Jvm.ClassFile.FieldType.char) (E4 w vF) 25 66
abbrev R4 (w : Int32) (vF : Value) : GT := orun jdk_42_method_56_code (Option.some Jvm.ClassFile.FieldType.char) (E4 w vF) 25
def r4 : Room := { frames := 3, cells := 0, slots := 0, locals := 58 }
theorem says4 (l : Launch) {Z : State} {a0 : Array Value} {σ : Nat → Nat} {n0 n1 : Nat} {PP : Addr → Prop} {h0 : Heap} (hsg : Sg σ 25 n0 PP h0) (hw : ∀ d ∈ tables_1, d.before a0 Z = true) (hst : OwnSta w vF Z σ) : Says l Z σ 25 n0 n1 PP h0 K (⟨"java/lang/String", "charAt", "(I)C"⟩ : MethodName) jdk_42_method_56_code 2 (Option.some Jvm.ClassFile.FieldType.char) [] r4 (F4 w vF) :=
  says_fn hsg (plainFor_of_name (by first | (simp [x, plainName, overriddenIn]; done) | (simp [plainName, overriddenIn]; done) | decide +kernel)) fun p e s m args below meth c hx hby hml hZ hown hnm => ag_cons (okVirt (cl := 0) (W := 6) hx hZ (says5 l hsg hw hst) rfl hown (hw _ (List.mem_of_getElem? (i := 32) rfl)) (hw _ (List.mem_of_getElem? (i := 33) rfl)) (hw _ (List.mem_of_getElem? (i := 35) rfl)) (hw _ (List.mem_of_getElem? (i := 34) rfl)) (hw _ (List.mem_of_getElem? (i := 2) rfl)) (hw _ (List.mem_of_getElem? (i := 36) rfl)) (fun _ _ h => notFace_of_selects h) (by decide) (by decide +kernel : parseMethodDescriptor "()Z" = some ⟨[], some .boolean⟩) rfl (by decide) (by decide) (by decide) (by decide)) <| ag_cons (okGet hx hZ hown (host := "") (Or.inl (hw _ (List.mem_of_getElem? (i := 14) rfl))) Via.refl (cn := 0) (j := 0) rfl rfl) <| ag_cons (okStat (W := 6) hx hZ (says6 l hsg hw hst) hown (hw _ (List.mem_of_getElem? (i := 37) rfl)) (hw _ (List.mem_of_getElem? (i := 38) rfl)) (hw _ (List.mem_of_getElem? (i := 39) rfl)) (hw _ (List.mem_of_getElem? (i := 40) rfl)) (by decide) (by decide +kernel : parseMethodDescriptor "([BI)C" = some ⟨[(.array .byte), .int], some .char⟩) rfl (by decide) (by decide) (by decide) (by decide)) <| ag_nil
/-! body 3: SchemeLabelledPinLaw.at(Ljava/lang/String;IIII)C -/
def E3 (w : Int32) (vF : Value) : List (Nat × Nat × Act) := [(9, 14, aRecv 0 0 6 0 0 0 0 (F1 w vF)), (9, 56, aRecv 1 0 6 0 0 0 0 (F4 w vF))]
def F3 (w : Int32) (vF : Value) : List Value → AH → Option ORes := fn method_3_code 7 (Option.some Jvm.ClassFile.FieldType.char) (E3 w vF) 25 124
abbrev R3 (w : Int32) (vF : Value) : GT := orun method_3_code (Option.some Jvm.ClassFile.FieldType.char) (E3 w vF) 25
def r3 : Room := { frames := 4, cells := 0, slots := 0, locals := 77 }
theorem says3 (l : Launch) {Z : State} {a0 : Array Value} {σ : Nat → Nat} {n0 n1 : Nat} {PP : Addr → Prop} {h0 : Heap} (hsg : Sg σ 25 n0 PP h0) (hw : ∀ d ∈ tables_1, d.before a0 Z = true) (hst : OwnSta w vF Z σ) : Says l Z σ 25 n0 n1 PP h0 K (⟨"com/example/mithi/mithi/importer/SchemeLabelledPinLaw", "at", "(Ljava/lang/String;IIII)C"⟩ : MethodName) method_3_code 7 (Option.some Jvm.ClassFile.FieldType.char) [] r3 (F3 w vF) :=
  says_fn hsg (plainFor_of_name (by first | (simp [x, plainName, overriddenIn]; done) | (simp [plainName, overriddenIn]; done) | decide +kernel)) fun p e s m args below meth c hx hby hml hZ hown hnm => ag_cons (okVirt (cl := 0) (W := 6) hx hZ (says1 l hsg hw hst) rfl hown (hw _ (List.mem_of_getElem? (i := 9) rfl)) (hw _ (List.mem_of_getElem? (i := 10) rfl)) (hw _ (List.mem_of_getElem? (i := 12) rfl)) (hw _ (List.mem_of_getElem? (i := 11) rfl)) (hw _ (List.mem_of_getElem? (i := 2) rfl)) (hw _ (List.mem_of_getElem? (i := 13) rfl)) (fun _ _ h => notFace_of_selects h) (by decide) (by decide +kernel : parseMethodDescriptor "()I" = some ⟨[], some .int⟩) rfl (by decide) (by decide) (by decide) (by decide)) <| ag_cons (okVirt (cl := 0) (W := 6) hx hZ (says4 l hsg hw hst) rfl hown (hw _ (List.mem_of_getElem? (i := 27) rfl)) (hw _ (List.mem_of_getElem? (i := 28) rfl)) (hw _ (List.mem_of_getElem? (i := 30) rfl)) (hw _ (List.mem_of_getElem? (i := 29) rfl)) (hw _ (List.mem_of_getElem? (i := 2) rfl)) (hw _ (List.mem_of_getElem? (i := 31) rfl)) (fun _ _ h => notFace_of_selects h) (by decide) (by decide +kernel : parseMethodDescriptor "(I)C" = some ⟨[.int], some .char⟩) rfl (by decide) (by decide) (by decide) (by decide)) <| ag_nil
/-! body 12: StringUTF16.compress([CI[BII)I -/
def E12 (w : Int32) (vF : Value) : List (Nat × Nat × Act) := []
def F12 (w : Int32) (vF : Value) : List Value → AH → Option ORes := fn jdk_52_method_21_code 7 (Option.some Jvm.ClassFile.FieldType.int) (E12 w vF) 25 300
abbrev R12 (w : Int32) (vF : Value) : GT := orun jdk_52_method_21_code (Option.some Jvm.ClassFile.FieldType.int) (E12 w vF) 25
def r12 : Room := { frames := 0, cells := 0, slots := 0, locals := 0 }
theorem says12 (l : Launch) {Z : State} {a0 : Array Value} {σ : Nat → Nat} {n0 n1 : Nat} {PP : Addr → Prop} {h0 : Heap} (hsg : Sg σ 25 n0 PP h0) (hw : ∀ d ∈ tables_1, d.before a0 Z = true) (hst : OwnSta w vF Z σ) : Says l Z σ 25 n0 n1 PP h0 K (⟨"java/lang/StringUTF16", "compress", "([CI[BII)I"⟩ : MethodName) jdk_52_method_21_code 7 (Option.some Jvm.ClassFile.FieldType.int) [] r12 (F12 w vF) :=
  says_fn hsg (plainFor_of_name (by first | (simp [x, plainName, overriddenIn]; done) | (simp [plainName, overriddenIn]; done) | decide +kernel)) fun p e s m args below meth c hx hby hml hZ hown hnm => ag_nil
/-! body 11: StringUTF16.compress([CII)[B -/
def E11 (w : Int32) (vF : Value) : List (Nat × Nat × Act) := [(13, 4, aArr .byte 1 11), (7, 115, aCall 5 6 1 11 0 0 (F12 w vF))]
def F11 (w : Int32) (vF : Value) : List Value → AH → Option ORes := fn jdk_52_method_16_code 6 (Option.some (Jvm.ClassFile.FieldType.array Jvm.ClassFile.FieldType.byte)) (E11 w vF) 25 110
abbrev R11 (w : Int32) (vF : Value) : GT := orun jdk_52_method_16_code (Option.some (Jvm.ClassFile.FieldType.array Jvm.ClassFile.FieldType.byte)) (E11 w vF) 25
def r11 : Room := { frames := 1, cells := 1, slots := 11, locals := 24 }
theorem says11 (l : Launch) {Z : State} {a0 : Array Value} {σ : Nat → Nat} {n0 n1 : Nat} {PP : Addr → Prop} {h0 : Heap} (hsg : Sg σ 25 n0 PP h0) (hw : ∀ d ∈ tables_1, d.before a0 Z = true) (hst : OwnSta w vF Z σ) : Says l Z σ 25 n0 n1 PP h0 K (⟨"java/lang/StringUTF16", "compress", "([CII)[B"⟩ : MethodName) jdk_52_method_16_code 6 (Option.some (Jvm.ClassFile.FieldType.array Jvm.ClassFile.FieldType.byte)) [] r11 (F11 w vF) :=
  says_fn hsg (plainFor_of_name (by first | (simp [x, plainName, overriddenIn]; done) | (simp [plainName, overriddenIn]; done) | decide +kernel)) fun p e s m args below meth c hx hby hml hZ hown hnm => ag_cons (okArr (t := .byte) hx hZ hsg (hw _ (List.mem_of_getElem? (i := 4) rfl)) (by decide) (by decide)) <| ag_cons (okStat (W := 6) hx hZ (says12 l hsg hw hst) hown (hw _ (List.mem_of_getElem? (i := 64) rfl)) (hw _ (List.mem_of_getElem? (i := 65) rfl)) (hw _ (List.mem_of_getElem? (i := 62) rfl)) (hw _ (List.mem_of_getElem? (i := 66) rfl)) (by decide) (by decide +kernel : parseMethodDescriptor "([CI[BII)I" = some ⟨[(.array .char), .int, (.array .byte), .int, .int], some .int⟩) rfl (by decide) (by decide) (by decide) (by decide)) <| ag_nil
/-! body 13: StringUTF16.coderFromArrayLen([BI)B -/
def E13 (w : Int32) (vF : Value) : List (Nat × Nat × Act) := []
def F13 (w : Int32) (vF : Value) : List Value → AH → Option ORes := fn jdk_52_method_15_code 2 (Option.some Jvm.ClassFile.FieldType.byte) (E13 w vF) 25 56
abbrev R13 (w : Int32) (vF : Value) : GT := orun jdk_52_method_15_code (Option.some Jvm.ClassFile.FieldType.byte) (E13 w vF) 25
def r13 : Room := { frames := 0, cells := 0, slots := 0, locals := 0 }
theorem says13 (l : Launch) {Z : State} {a0 : Array Value} {σ : Nat → Nat} {n0 n1 : Nat} {PP : Addr → Prop} {h0 : Heap} (hsg : Sg σ 25 n0 PP h0) (hw : ∀ d ∈ tables_1, d.before a0 Z = true) (hst : OwnSta w vF Z σ) : Says l Z σ 25 n0 n1 PP h0 K (⟨"java/lang/StringUTF16", "coderFromArrayLen", "([BI)B"⟩ : MethodName) jdk_52_method_15_code 2 (Option.some Jvm.ClassFile.FieldType.byte) [] r13 (F13 w vF) :=
  says_fn hsg (plainFor_of_name (by first | (simp [x, plainName, overriddenIn]; done) | (simp [plainName, overriddenIn]; done) | decide +kernel)) fun p e s m args below meth c hx hby hml hZ hown hnm => ag_nil
/-! body 10: String.<init>([CIILjava/lang/Void;)V -/
def E10 (w : Int32) (vF : Value) : List (Nat × Nat × Act) := [(8, 1, aObj 6), (0, 7, aLit 21 0 0 6 40 []), (3, 9, aGet 0 0), (4, 9, aPut 25 0 0 (.array .byte)), (3, 15, aGet 0 1), (4, 15, aPut 25 0 1 .byte), (5, 38, aSta (.int w)), (7, 177, aCall 3 6 6 40 1 11 (F11 w vF)), (7, 47, aCall 2 6 6 40 0 0 (F13 w vF)), (121, 7, aNo)]
def F10 (w : Int32) (vF : Value) : List Value → AH → Option ORes := fn jdk_42_method_149_code 6 (Option.none : Option Jvm.ClassFile.FieldType) (E10 w vF) 25 118
abbrev R10 (w : Int32) (vF : Value) : GT := orun jdk_42_method_149_code (Option.none : Option Jvm.ClassFile.FieldType) (E10 w vF) 25
def r10 : Room := { frames := 2, cells := 6, slots := 40, locals := 47 }
theorem says10 (l : Launch) {Z : State} {a0 : Array Value} {n0 : Nat} (hw : ∀ d ∈ tables_1, d.before a0 Z = true) : SaysS (OwnSta w vF Z) l Z consts_1 25 n0 K plS (⟨"java/lang/String", "<init>", "([CIILjava/lang/Void;)V"⟩ : MethodName) jdk_42_method_149_code 6 (Option.none : Option Jvm.ClassFile.FieldType) [] r10 (F10 w vF) :=
  says_fnS (hEL hw) (plainFor_of_name (by first | (simp [x, plainName, overriddenIn]; done) | (simp [plainName, overriddenIn]; done) | decide +kernel)) fun p e sB m args below meth c n1 σ0 r hst hn1 hx hby hml hown hnm =>
    adc_cons (goodD_of DS.step fun s σ P h0 hb => okObj hx hb.z (hown _ hb.z) (hw _ (List.mem_of_getElem? (i := 57) rfl)) (hw _ (List.mem_of_getElem? (i := 58) rfl)) (hw _ (List.mem_of_getElem? (i := 59) rfl)) (W := 6) (by decide) (by decide)) <|
    adc_cons (okLit hx DS.step hown (hw _ (List.mem_of_getElem? (i := 138) rfl)) (hWS hw) (hEL hw) (by decide) ⟨by decide +kernel, by decide +kernel⟩ (z := 0) (by decide) (by decide) (fit_of [] rfl) (by decide +kernel) (by decide) (by decide) (by decide) rfl (by decide) (by decide) (plS_in (by decide) (by decide))) <|
    adc_cons (goodD_of DS.step fun s σ P h0 hb => okGet hx hb.z (hown _ hb.z) (host := "") (Or.inl (hw _ (List.mem_of_getElem? (i := 14) rfl))) Via.refl (cn := 0) (j := 0) rfl rfl) <|
    adc_cons (goodD_of DS.step fun s σ P h0 hb => okPut hx hb.z hb.sg (kok hw) (by decide) (hown _ hb.z) (host := "") (Or.inl (hw _ (List.mem_of_getElem? (i := 14) rfl))) Via.refl (cn := 0) (j := 0) rfl rfl (by decide +kernel) (Or.inr ⟨(hw _ (List.mem_of_getElem? (i := 5) rfl)), rfl, hnm⟩)) <|
    adc_cons (goodD_of DS.step fun s σ P h0 hb => okGet hx hb.z (hown _ hb.z) (host := "") (Or.inl (hw _ (List.mem_of_getElem? (i := 21) rfl))) Via.refl (cn := 0) (j := 1) rfl rfl) <|
    adc_cons (goodD_of DS.step fun s σ P h0 hb => okPut hx hb.z hb.sg (kok hw) (by decide) (hown _ hb.z) (host := "") (Or.inl (hw _ (List.mem_of_getElem? (i := 21) rfl))) Via.refl (cn := 0) (j := 1) rfl rfl (by decide +kernel) (Or.inr ⟨(hw _ (List.mem_of_getElem? (i := 6) rfl)), rfl, hnm⟩)) <|
    adc_cons (goodD_of DS.step fun s σ P h0 hb => okSta hx hb.z (hown _ hb.z) (hw _ (List.mem_of_getElem? (i := 20) rfl)) Via.refl (agS hst hn1 hb).2.2.2.2.1) <|
    adc_cons (goodD_of DS.step fun s σ P h0 hb => okStat (W := 6) hx hb.z (says11 l hb.sg hw (agS hst hn1 hb)) (hown _ hb.z) (hw _ (List.mem_of_getElem? (i := 60) rfl)) (hw _ (List.mem_of_getElem? (i := 61) rfl)) (hw _ (List.mem_of_getElem? (i := 62) rfl)) (hw _ (List.mem_of_getElem? (i := 63) rfl)) (by decide) (by decide +kernel : parseMethodDescriptor "([CII)[B" = some ⟨[(.array .char), .int, .int], some (.array .byte)⟩) rfl (by decide) (by decide) (by decide) (by decide)) <|
    adc_cons (goodD_of DS.step fun s σ P h0 hb => okStat (W := 6) hx hb.z (says13 l hb.sg hw (agS hst hn1 hb)) (hown _ hb.z) (hw _ (List.mem_of_getElem? (i := 67) rfl)) (hw _ (List.mem_of_getElem? (i := 68) rfl)) (hw _ (List.mem_of_getElem? (i := 62) rfl)) (hw _ (List.mem_of_getElem? (i := 69) rfl)) (by decide) (by decide +kernel : parseMethodDescriptor "([BI)B" = some ⟨[(.array .byte), .int], some .byte⟩) rfl (by decide) (by decide) (by decide) (by decide)) <|
    adc_cons (okNo) <|
    adc_nil
/-! body 9: String.<init>([C)V -/
def E9 (w : Int32) (vF : Value) : List (Nat × Nat × Act) := [(8, 27, aRecv 4 0 6 6 40 6 40 (F10 w vF)), (121, 27, aNo)]
def F9 (w : Int32) (vF : Value) : List Value → AH → Option ORes := fn jdk_42_method_3_code 2 (Option.none : Option Jvm.ClassFile.FieldType) (E9 w vF) 25 56
abbrev R9 (w : Int32) (vF : Value) : GT := orun jdk_42_method_3_code (Option.none : Option Jvm.ClassFile.FieldType) (E9 w vF) 25
def r9 : Room := { frames := 3, cells := 6, slots := 40, locals := 70 }
theorem says9 (l : Launch) {Z : State} {a0 : Array Value} {n0 : Nat} (hw : ∀ d ∈ tables_1, d.before a0 Z = true) : SaysS (OwnSta w vF Z) l Z consts_1 25 n0 K plS (⟨"java/lang/String", "<init>", "([C)V"⟩ : MethodName) jdk_42_method_3_code 2 (Option.none : Option Jvm.ClassFile.FieldType) [] r9 (F9 w vF) :=
  says_fnS (hEL hw) (plainFor_of_name (by first | (simp [x, plainName, overriddenIn]; done) | (simp [plainName, overriddenIn]; done) | decide +kernel)) fun p e sB m args below meth c n1 σ0 r hst hn1 hx hby hml hown hnm =>
    adc_cons (okCtorS (cl := 0) (W := 6) hx DS.step (says10 l hw) rfl (hEL hw) hown (hw _ (List.mem_of_getElem? (i := 53) rfl)) (hw _ (List.mem_of_getElem? (i := 54) rfl)) (hw _ (List.mem_of_getElem? (i := 2) rfl)) (hw _ (List.mem_of_getElem? (i := 56) rfl)) (by decide) (by decide +kernel : parseMethodDescriptor "([CIILjava/lang/Void;)V" = some ⟨[(.array .char), .int, .int, (.object "java/lang/Void")], none⟩) rfl (by decide) (by decide) (by decide) (by decide) plS_k (fun _ h => h) (fun s σ P h0 hb => agS hst hn1 hb)) <|
    adc_cons (okNo) <|
    adc_nil
/-! body 15: StringLatin1.equals([B[B)Z -/
def E15 (w : Int32) (vF : Value) : List (Nat × Nat × Act) := []
def F15 (w : Int32) (vF : Value) : List Value → AH → Option ORes := fn jdk_43_method_13_code 3 (Option.some Jvm.ClassFile.FieldType.boolean) (E15 w vF) 25 300
abbrev R15 (w : Int32) (vF : Value) : GT := orun jdk_43_method_13_code (Option.some Jvm.ClassFile.FieldType.boolean) (E15 w vF) 25
def r15 : Room := { frames := 0, cells := 0, slots := 0, locals := 0 }
theorem says15 (l : Launch) {Z : State} {a0 : Array Value} {σ : Nat → Nat} {n0 n1 : Nat} {PP : Addr → Prop} {h0 : Heap} (hsg : Sg σ 25 n0 PP h0) (hw : ∀ d ∈ tables_1, d.before a0 Z = true) (hst : OwnSta w vF Z σ) : Says l Z σ 25 n0 n1 PP h0 K (⟨"java/lang/StringLatin1", "equals", "([B[B)Z"⟩ : MethodName) jdk_43_method_13_code 3 (Option.some Jvm.ClassFile.FieldType.boolean) [] r15 (F15 w vF) :=
  says_fn hsg (plainFor_of_name (by first | (simp [x, plainName, overriddenIn]; done) | (simp [plainName, overriddenIn]; done) | decide +kernel)) fun p e s m args below meth c hx hby hml hZ hown hnm => ag_nil
/-! body 14: String.equals(Ljava/lang/Object;)Z -/
def E14 (w : Int32) (vF : Value) : List (Nat × Nat × Act) := [(11, 10, aInst 0), (10, 10, aCastO 0), (5, 38, aSta (.int w)), (3, 15, aGet 0 1), (3, 9, aGet 0 0), (7, 541, aCall 2 6 0 0 0 0 (F15 w vF))]
def F14 (w : Int32) (vF : Value) : List Value → AH → Option ORes := fn jdk_42_method_66_code 3 (Option.some Jvm.ClassFile.FieldType.boolean) (E14 w vF) 25 96
abbrev R14 (w : Int32) (vF : Value) : GT := orun jdk_42_method_66_code (Option.some Jvm.ClassFile.FieldType.boolean) (E14 w vF) 25
def r14 : Room := { frames := 1, cells := 0, slots := 0, locals := 20 }
theorem says14 (l : Launch) {Z : State} {a0 : Array Value} {σ : Nat → Nat} {n0 n1 : Nat} {PP : Addr → Prop} {h0 : Heap} (hsg : Sg σ 25 n0 PP h0) (hw : ∀ d ∈ tables_1, d.before a0 Z = true) (hst : OwnSta w vF Z σ) : Says l Z σ 25 n0 n1 PP h0 K (⟨"java/lang/String", "equals", "(Ljava/lang/Object;)Z"⟩ : MethodName) jdk_42_method_66_code 3 (Option.some Jvm.ClassFile.FieldType.boolean) [] r14 (F14 w vF) :=
  says_fn hsg (plainFor_of_name (by first | (simp [x, plainName, overriddenIn]; done) | (simp [plainName, overriddenIn]; done) | decide +kernel)) fun p e s m args below meth c hx hby hml hZ hown hnm => ag_cons (okInst hx hZ hown (hw _ (List.mem_of_getElem? (i := 75) rfl)) (cn := 0) rfl (hw _ (List.mem_of_getElem? (i := 55) rfl))) <| ag_cons (okCastO hx hZ hown (hw _ (List.mem_of_getElem? (i := 75) rfl)) (cn := 0) rfl (hw _ (List.mem_of_getElem? (i := 55) rfl))) <| ag_cons (okSta hx hZ hown (hw _ (List.mem_of_getElem? (i := 20) rfl)) Via.refl (hst).2.2.2.2.1) <| ag_cons (okGet hx hZ hown (host := "") (Or.inl (hw _ (List.mem_of_getElem? (i := 21) rfl))) Via.refl (cn := 0) (j := 1) rfl rfl) <| ag_cons (okGet hx hZ hown (host := "") (Or.inl (hw _ (List.mem_of_getElem? (i := 14) rfl))) Via.refl (cn := 0) (j := 0) rfl rfl) <| ag_cons (okStat (W := 6) hx hZ (says15 l hsg hw hst) hown (hw _ (List.mem_of_getElem? (i := 76) rfl)) (hw _ (List.mem_of_getElem? (i := 77) rfl)) (hw _ (List.mem_of_getElem? (i := 39) rfl)) (hw _ (List.mem_of_getElem? (i := 78) rfl)) (by decide) (by decide +kernel : parseMethodDescriptor "([B[B)Z" = some ⟨[(.array .byte), (.array .byte)], some .boolean⟩) rfl (by decide) (by decide) (by decide) (by decide)) <| ag_nil
/-! body 17: EdgeWeighting$Scheme.values()[Lcom/example/mithi/mithi/importer/EdgeWeighting$Scheme; -/
def E17 (w : Int32) (vF : Value) : List (Nat × Nat × Act) := [(5, 10, aSta (.ref 2)), (9, 14, aCloneR (.object "com/example/mithi/mithi/importer/EdgeWeighting$Scheme") 6 1 2), (10, 15, aCastR (.object "com/example/mithi/mithi/importer/EdgeWeighting$Scheme"))]
def F17 (w : Int32) (vF : Value) : List Value → AH → Option ORes := fn prog_8_method_1_code 0 (Option.some (Jvm.ClassFile.FieldType.array (Jvm.ClassFile.FieldType.object "com/example/mithi/mithi/importer/EdgeWeighting$Scheme"))) (E17 w vF) 25 48
abbrev R17 (w : Int32) (vF : Value) : GT := orun prog_8_method_1_code (Option.some (Jvm.ClassFile.FieldType.array (Jvm.ClassFile.FieldType.object "com/example/mithi/mithi/importer/EdgeWeighting$Scheme"))) (E17 w vF) 25
def r17 : Room := { frames := 1, cells := 1, slots := 2, locals := 20 }
theorem says17 (l : Launch) {Z : State} {a0 : Array Value} {σ : Nat → Nat} {n0 n1 : Nat} {PP : Addr → Prop} {h0 : Heap} (hsg : Sg σ 25 n0 PP h0) (hw : ∀ d ∈ tables_1, d.before a0 Z = true) (hst : OwnSta w vF Z σ) : Says l Z σ 25 n0 n1 PP h0 K (⟨"com/example/mithi/mithi/importer/EdgeWeighting$Scheme", "values", "()[Lcom/example/mithi/mithi/importer/EdgeWeighting$Scheme;"⟩ : MethodName) prog_8_method_1_code 0 (Option.some (Jvm.ClassFile.FieldType.array (Jvm.ClassFile.FieldType.object "com/example/mithi/mithi/importer/EdgeWeighting$Scheme"))) [] r17 (F17 w vF) :=
  says_fn hsg (plainFor_of_name (by first | (simp [x, plainName, overriddenIn]; done) | (simp [plainName, overriddenIn]; done) | decide +kernel)) fun p e s m args below meth c hx hby hml hZ hown hnm => ag_cons (okSta hx hZ hown (hw _ (List.mem_of_getElem? (i := 87) rfl)) Via.refl (hst).2.2.1) <| ag_cons (okCloneR (W := 6) (ty := (.object "com/example/mithi/mithi/importer/EdgeWeighting$Scheme")) hx hZ hsg rfl hown (by decide +kernel) (hw _ (List.mem_of_getElem? (i := 89) rfl)) (hw _ (List.mem_of_getElem? (i := 90) rfl)) (hw _ (List.mem_of_getElem? (i := 94) rfl)) (hw _ (List.mem_of_getElem? (i := 92) rfl)) (hw _ (List.mem_of_getElem? (i := 93) rfl)) (hw _ (List.mem_of_getElem? (i := 95) rfl)) (by decide) (by decide) (by decide) (by decide)) <| ag_cons (okCastR (ty := (.object "com/example/mithi/mithi/importer/EdgeWeighting$Scheme")) hx hZ rfl hown (ad := "[Lcom/example/mithi/mithi/importer/EdgeWeighting$Scheme;") (by decide +kernel) (hw _ (List.mem_of_getElem? (i := 99) rfl)) (hw _ (List.mem_of_getElem? (i := 100) rfl))) <| ag_nil
/-! body 21: Objects.requireNonNull(Ljava/lang/Object;)Ljava/lang/Object; -/
def E21 (w : Int32) (vF : Value) : List (Nat × Nat × Act) := []
def F21 (w : Int32) (vF : Value) : List Value → AH → Option ORes := fn jdk_31_method_10_code 1 (Option.some (Jvm.ClassFile.FieldType.object "java/lang/Object")) (E21 w vF) 25 56
abbrev R21 (w : Int32) (vF : Value) : GT := orun jdk_31_method_10_code (Option.some (Jvm.ClassFile.FieldType.object "java/lang/Object")) (E21 w vF) 25
def r21 : Room := { frames := 0, cells := 0, slots := 0, locals := 0 }
theorem says21 (l : Launch) {Z : State} {a0 : Array Value} {σ : Nat → Nat} {n0 n1 : Nat} {PP : Addr → Prop} {h0 : Heap} (hsg : Sg σ 25 n0 PP h0) (hw : ∀ d ∈ tables_1, d.before a0 Z = true) (hst : OwnSta w vF Z σ) : Says l Z σ 25 n0 n1 PP h0 K (⟨"java/util/Objects", "requireNonNull", "(Ljava/lang/Object;)Ljava/lang/Object;"⟩ : MethodName) jdk_31_method_10_code 1 (Option.some (Jvm.ClassFile.FieldType.object "java/lang/Object")) [] r21 (F21 w vF) :=
  says_fn hsg (plainFor_of_name (by first | (simp [x, plainName, overriddenIn]; done) | (simp [plainName, overriddenIn]; done) | decide +kernel)) fun p e s m args below meth c hx hby hml hZ hown hnm => ag_nil
/-! body 22: Optional.<init>(Ljava/lang/Object;)V -/
def E22 (w : Int32) (vF : Value) : List (Nat × Nat × Act) := [(8, 7, aObj 6), (4, 13, aPut 25 1 0 (.object "java/lang/Object"))]
def F22 (w : Int32) (vF : Value) : List Value → AH → Option ORes := fn jdk_32_method_2_code 2 (Option.none : Option Jvm.ClassFile.FieldType) (E22 w vF) 25 52
abbrev R22 (w : Int32) (vF : Value) : GT := orun jdk_32_method_2_code (Option.none : Option Jvm.ClassFile.FieldType) (E22 w vF) 25
def r22 : Room := { frames := 1, cells := 0, slots := 0, locals := 18 }
theorem says22 (l : Launch) {Z : State} {a0 : Array Value} {σ : Nat → Nat} {n0 n1 : Nat} {PP : Addr → Prop} {h0 : Heap} (hsg : Sg σ 25 n0 PP h0) (hw : ∀ d ∈ tables_1, d.before a0 Z = true) (hst : OwnSta w vF Z σ) : Says l Z σ 25 n0 n1 PP h0 K (⟨"java/util/Optional", "<init>", "(Ljava/lang/Object;)V"⟩ : MethodName) jdk_32_method_2_code 2 (Option.none : Option Jvm.ClassFile.FieldType) [] r22 (F22 w vF) :=
  says_fn hsg (plainFor_of_name (by first | (simp [x, plainName, overriddenIn]; done) | (simp [plainName, overriddenIn]; done) | decide +kernel)) fun p e s m args below meth c hx hby hml hZ hown hnm => ag_cons (okObj hx hZ hown (hw _ (List.mem_of_getElem? (i := 130) rfl)) (hw _ (List.mem_of_getElem? (i := 58) rfl)) (hw _ (List.mem_of_getElem? (i := 59) rfl)) (W := 6) (by decide) (by decide)) <| ag_cons (okPut hx hZ hsg (kok hw) (by decide) hown (host := "") (Or.inl (hw _ (List.mem_of_getElem? (i := 114) rfl))) Via.refl (cn := 1) (j := 0) rfl rfl (by decide +kernel) (Or.inr ⟨(hw _ (List.mem_of_getElem? (i := 115) rfl)), rfl, hnm⟩)) <| ag_nil
/-! body 20: Optional.of(Ljava/lang/Object;)Ljava/util/Optional; -/
def E20 (w : Int32) (vF : Value) : List (Nat × Nat × Act) := [(6, 2, aNew 1 1 1 4 [.null]), (7, 17, aCall 1 6 1 4 0 0 (F21 w vF)), (8, 23, aRecv 1 1 6 1 4 0 0 (F22 w vF))]
def F20 (w : Int32) (vF : Value) : List Value → AH → Option ORes := fn jdk_32_method_3_code 1 (Option.some (Jvm.ClassFile.FieldType.object "java/util/Optional")) (E20 w vF) 25 52
abbrev R20 (w : Int32) (vF : Value) : GT := orun jdk_32_method_3_code (Option.some (Jvm.ClassFile.FieldType.object "java/util/Optional")) (E20 w vF) 25
def r20 : Room := { frames := 2, cells := 1, slots := 4, locals := 37 }
theorem says20 (l : Launch) {Z : State} {a0 : Array Value} {σ : Nat → Nat} {n0 n1 : Nat} {PP : Addr → Prop} {h0 : Heap} (hsg : Sg σ 25 n0 PP h0) (hw : ∀ d ∈ tables_1, d.before a0 Z = true) (hst : OwnSta w vF Z σ) : Says l Z σ 25 n0 n1 PP h0 K (⟨"java/util/Optional", "of", "(Ljava/lang/Object;)Ljava/util/Optional;"⟩ : MethodName) jdk_32_method_3_code 1 (Option.some (Jvm.ClassFile.FieldType.object "java/util/Optional")) [] r20 (F20 w vF) :=
  says_fn hsg (plainFor_of_name (by first | (simp [x, plainName, overriddenIn]; done) | (simp [plainName, overriddenIn]; done) | decide +kernel)) fun p e s m args below meth c hx hby hml hZ hown hnm => ag_cons (okNew hx hZ hsg (kok hw) hown (hw _ (List.mem_of_getElem? (i := 120) rfl)) (hw _ (List.mem_of_getElem? (i := 121) rfl)) (hw _ (List.mem_of_getElem? (i := 106) rfl)) (cn := 1) rfl (by decide +kernel) (by decide) (by decide)) <| ag_cons (okStat (W := 6) hx hZ (says21 l hsg hw hst) hown (hw _ (List.mem_of_getElem? (i := 122) rfl)) (hw _ (List.mem_of_getElem? (i := 123) rfl)) (hw _ (List.mem_of_getElem? (i := 124) rfl)) (hw _ (List.mem_of_getElem? (i := 125) rfl)) (by decide) (by decide +kernel : parseMethodDescriptor "(Ljava/lang/Object;)Ljava/lang/Object;" = some ⟨[(.object "java/lang/Object")], some (.object "java/lang/Object")⟩) rfl (by decide) (by decide) (by decide) (by decide)) <| ag_cons (okCtor (cl := 1) (W := 6) hx hZ (says22 l hsg hw hst) rfl hown (hw _ (List.mem_of_getElem? (i := 126) rfl)) (hw _ (List.mem_of_getElem? (i := 127) rfl)) (hw _ (List.mem_of_getElem? (i := 106) rfl)) (hw _ (List.mem_of_getElem? (i := 129) rfl)) (by decide) (by decide +kernel : parseMethodDescriptor "(Ljava/lang/Object;)V" = some ⟨[(.object "java/lang/Object")], none⟩) rfl (by decide) (by decide) (by decide) (by decide)) <| ag_nil
/-! body 18: Optional.empty()Ljava/util/Optional; -/
def E18 (w : Int32) (vF : Value) : List (Nat × Nat × Act) := [(5, 1, aSta (.ref 7))]
def F18 (w : Int32) (vF : Value) : List Value → AH → Option ORes := fn jdk_32_method_1_code 1 (Option.some (Jvm.ClassFile.FieldType.object "java/util/Optional")) (E18 w vF) 25 48
abbrev R18 (w : Int32) (vF : Value) : GT := orun jdk_32_method_1_code (Option.some (Jvm.ClassFile.FieldType.object "java/util/Optional")) (E18 w vF) 25
def r18 : Room := { frames := 0, cells := 0, slots := 0, locals := 0 }
theorem says18 (l : Launch) {Z : State} {a0 : Array Value} {σ : Nat → Nat} {n0 n1 : Nat} {PP : Addr → Prop} {h0 : Heap} (hsg : Sg σ 25 n0 PP h0) (hw : ∀ d ∈ tables_1, d.before a0 Z = true) (hst : OwnSta w vF Z σ) : Says l Z σ 25 n0 n1 PP h0 K (⟨"java/util/Optional", "empty", "()Ljava/util/Optional;"⟩ : MethodName) jdk_32_method_1_code 1 (Option.some (Jvm.ClassFile.FieldType.object "java/util/Optional")) [] r18 (F18 w vF) :=
  says_fn hsg (plainFor_of_name (by first | (simp [x, plainName, overriddenIn]; done) | (simp [plainName, overriddenIn]; done) | decide +kernel)) fun p e s m args below meth c hx hby hml hZ hown hnm => ag_cons (okSta hx hZ hown (hw _ (List.mem_of_getElem? (i := 108) rfl)) Via.refl (hst).2.2.2.1) <| ag_nil
/-! body 16: EdgeWeighting$Scheme.labelled(Ljava/lang/String;)Ljava/util/Optional; -/
def E16 (w : Int32) (vF : Value) : List (Nat × Nat × Act) := [(7, 33, aCall 0 6 2 10 1 2 (F17 w vF)), (3, 29, aGet 2 0), (9, 37, aRecv 1 0 6 2 10 0 0 (F14 w vF)), (7, 43, aCall 1 6 2 10 1 4 (F20 w vF)), (7, 49, aCall 0 6 2 10 0 0 (F18 w vF))]
def F16 (w : Int32) (vF : Value) : List Value → AH → Option ORes := fn prog_8_method_5_code 5 (Option.some (Jvm.ClassFile.FieldType.object "java/util/Optional")) (E16 w vF) 25 200
abbrev R16 (w : Int32) (vF : Value) : GT := orun prog_8_method_5_code (Option.some (Jvm.ClassFile.FieldType.object "java/util/Optional")) (E16 w vF) 25
def r16 : Room := { frames := 3, cells := 2, slots := 10, locals := 55 }
theorem says16 (l : Launch) {Z : State} {a0 : Array Value} {σ : Nat → Nat} {n0 n1 : Nat} {PP : Addr → Prop} {h0 : Heap} (hsg : Sg σ 25 n0 PP h0) (hw : ∀ d ∈ tables_1, d.before a0 Z = true) (hst : OwnSta w vF Z σ) : Says l Z σ 25 n0 n1 PP h0 K (⟨"com/example/mithi/mithi/importer/EdgeWeighting$Scheme", "labelled", "(Ljava/lang/String;)Ljava/util/Optional;"⟩ : MethodName) prog_8_method_5_code 5 (Option.some (Jvm.ClassFile.FieldType.object "java/util/Optional")) [] r16 (F16 w vF) :=
  says_fn hsg (plainFor_of_name (by first | (simp [x, plainName, overriddenIn]; done) | (simp [plainName, overriddenIn]; done) | decide +kernel)) fun p e s m args below meth c hx hby hml hZ hown hnm => ag_cons (okStat (W := 6) hx hZ (says17 l hsg hw hst) hown (hw _ (List.mem_of_getElem? (i := 84) rfl)) (hw _ (List.mem_of_getElem? (i := 85) rfl)) (hw _ (List.mem_of_getElem? (i := 82) rfl)) (hw _ (List.mem_of_getElem? (i := 86) rfl)) (by decide) (by decide +kernel : parseMethodDescriptor "()[Lcom/example/mithi/mithi/importer/EdgeWeighting$Scheme;" = some ⟨[], some (.array (.object "com/example/mithi/mithi/importer/EdgeWeighting$Scheme"))⟩) rfl (by decide) (by decide) (by decide) (by decide)) <| ag_cons (okGet hx hZ hown (host := "") (Or.inl (hw _ (List.mem_of_getElem? (i := 101) rfl))) Via.refl (cn := 2) (j := 0) rfl rfl) <| ag_cons (okVirt (cl := 0) (W := 6) hx hZ (says14 l hsg hw hst) rfl hown (hw _ (List.mem_of_getElem? (i := 103) rfl)) (hw _ (List.mem_of_getElem? (i := 71) rfl)) (hw _ (List.mem_of_getElem? (i := 73) rfl)) (hw _ (List.mem_of_getElem? (i := 72) rfl)) (hw _ (List.mem_of_getElem? (i := 2) rfl)) (hw _ (List.mem_of_getElem? (i := 74) rfl)) (fun _ _ h => notFace_of_selects h) (by decide) (by decide +kernel : parseMethodDescriptor "(Ljava/lang/Object;)Z" = some ⟨[(.object "java/lang/Object")], some .boolean⟩) rfl (by decide) (by decide) (by decide) (by decide)) <| ag_cons (okStat (W := 6) hx hZ (says20 l hsg hw hst) hown (hw _ (List.mem_of_getElem? (i := 117) rfl)) (hw _ (List.mem_of_getElem? (i := 118) rfl)) (hw _ (List.mem_of_getElem? (i := 106) rfl)) (hw _ (List.mem_of_getElem? (i := 119) rfl)) (by decide) (by decide +kernel : parseMethodDescriptor "(Ljava/lang/Object;)Ljava/util/Optional;" = some ⟨[(.object "java/lang/Object")], some (.object "java/util/Optional")⟩) rfl (by decide) (by decide) (by decide) (by decide)) <| ag_cons (okStat (W := 6) hx hZ (says18 l hsg hw hst) hown (hw _ (List.mem_of_getElem? (i := 104) rfl)) (hw _ (List.mem_of_getElem? (i := 105) rfl)) (hw _ (List.mem_of_getElem? (i := 106) rfl)) (hw _ (List.mem_of_getElem? (i := 107) rfl)) (by decide) (by decide +kernel : parseMethodDescriptor "()Ljava/util/Optional;" = some ⟨[], some (.object "java/util/Optional")⟩) rfl (by decide) (by decide) (by decide) (by decide)) <| ag_nil
/-! body 19: Optional.isPresent()Z -/
def E19 (w : Int32) (vF : Value) : List (Nat × Nat × Act) := [(3, 13, aGet 1 0)]
def F19 (w : Int32) (vF : Value) : List Value → AH → Option ORes := fn jdk_32_method_6_code 1 (Option.some Jvm.ClassFile.FieldType.boolean) (E19 w vF) 25 54
abbrev R19 (w : Int32) (vF : Value) : GT := orun jdk_32_method_6_code (Option.some Jvm.ClassFile.FieldType.boolean) (E19 w vF) 25
def r19 : Room := { frames := 0, cells := 0, slots := 0, locals := 0 }
theorem says19 (l : Launch) {Z : State} {a0 : Array Value} {σ : Nat → Nat} {n0 n1 : Nat} {PP : Addr → Prop} {h0 : Heap} (hsg : Sg σ 25 n0 PP h0) (hw : ∀ d ∈ tables_1, d.before a0 Z = true) (hst : OwnSta w vF Z σ) : Says l Z σ 25 n0 n1 PP h0 K (⟨"java/util/Optional", "isPresent", "()Z"⟩ : MethodName) jdk_32_method_6_code 1 (Option.some Jvm.ClassFile.FieldType.boolean) [] r19 (F19 w vF) :=
  says_fn hsg (plainFor_of_name (by first | (simp [x, plainName, overriddenIn]; done) | (simp [plainName, overriddenIn]; done) | decide +kernel)) fun p e s m args below meth c hx hby hml hZ hown hnm => ag_cons (okGet hx hZ hown (host := "") (Or.inl (hw _ (List.mem_of_getElem? (i := 114) rfl))) Via.refl (cn := 1) (j := 0) rfl rfl) <| ag_nil
/-! body 23: Optional.get()Ljava/lang/Object; -/
def E23 (w : Int32) (vF : Value) : List (Nat × Nat × Act) := [(3, 13, aGet 1 0)]
def F23 (w : Int32) (vF : Value) : List Value → AH → Option ORes := fn jdk_32_method_5_code 1 (Option.some (Jvm.ClassFile.FieldType.object "java/lang/Object")) (E23 w vF) 25 62
abbrev R23 (w : Int32) (vF : Value) : GT := orun jdk_32_method_5_code (Option.some (Jvm.ClassFile.FieldType.object "java/lang/Object")) (E23 w vF) 25
def r23 : Room := { frames := 0, cells := 0, slots := 0, locals := 0 }
theorem says23 (l : Launch) {Z : State} {a0 : Array Value} {σ : Nat → Nat} {n0 n1 : Nat} {PP : Addr → Prop} {h0 : Heap} (hsg : Sg σ 25 n0 PP h0) (hw : ∀ d ∈ tables_1, d.before a0 Z = true) (hst : OwnSta w vF Z σ) : Says l Z σ 25 n0 n1 PP h0 K (⟨"java/util/Optional", "get", "()Ljava/lang/Object;"⟩ : MethodName) jdk_32_method_5_code 1 (Option.some (Jvm.ClassFile.FieldType.object "java/lang/Object")) [] r23 (F23 w vF) :=
  says_fn hsg (plainFor_of_name (by first | (simp [x, plainName, overriddenIn]; done) | (simp [plainName, overriddenIn]; done) | decide +kernel)) fun p e s m args below meth c hx hby hml hZ hown hnm => ag_cons (okGet hx hZ hown (host := "") (Or.inl (hw _ (List.mem_of_getElem? (i := 114) rfl))) Via.refl (cn := 1) (j := 0) rfl rfl) <| ag_nil
/-! body 0: SchemeLabelledPinLaw.law(IIIIII)Z -/
def E0 (w : Int32) (vF : Value) : List (Nat × Nat × Act) := [(0, 7, aI (2147483647)), (0, 8, aLit 9 0 20 32 4288 [.int 101, .int 113, .int 117, .int 97, .int 108]), (0, 10, aLit 13 0 40 32 4288 [.int 108, .int 111, .int 103, .int 45, .int 100, .int 101, .int 103, .int 114, .int 101, .int 101]), (0, 12, aLit 17 0 0 32 4288 []), (9, 14, aRecv 0 0 6 32 4288 0 0 (F1 w vF)), (13, 1, aArr .char 32 4288), (7, 20, aCall 5 6 32 4288 0 0 (F3 w vF)), (6, 15, aNew 0 4 32 4288 [.null, (.int 0)]), (8, 26, aRecv 1 0 6 32 4288 6 40 (F9 w vF)), (9, 29, aRecv 1 0 6 32 4288 0 0 (F14 w vF)), (5, 33, aSta (.ref 0)), (5, 39, aSta (.ref 1)), (7, 42, aCall 1 6 32 4288 2 10 (F16 w vF)), (9, 46, aRecv 0 1 6 32 4288 0 0 (F19 w vF)), (9, 52, aRecv 0 1 6 32 4288 0 0 (F23 w vF)), (109, 8, aNo), (113, 10, aNo), (117, 12, aNo), (121, 26, aNo)]
def F0 (w : Int32) (vF : Value) : List Value → AH → Option ORes := fn code maxLocals ret (E0 w vF) 25 700
abbrev R0 (w : Int32) (vF : Value) : GT := orun code ret (E0 w vF) 25
theorem says0 (l : Launch) {Z : State} {a0 : Array Value} {n0 : Nat} (hw : ∀ d ∈ tables_1, d.before a0 Z = true) : SaysS (OwnSta w vF Z) l Z consts_1 25 n0 K plL x code maxLocals ret tables_1 room_1 (F0 w vF) :=
  says_fnS (hEL hw) (plainFor_of_name (by first | (simp [x, plainName, overriddenIn]; done) | (simp [plainName, overriddenIn]; done) | decide +kernel)) fun p e sB m args below meth c n1 σ0 r hst hn1 hx hby hml hown hnm =>
    adc_cons (goodD_of DS.step fun s σ P h0 hb => okI hx hb.z (hown _ hb.z) (hw _ (List.mem_of_getElem? (i := 0) rfl))) <|
    adc_cons (okLit hx DS.step hown (hw _ (List.mem_of_getElem? (i := 1) rfl)) (hWS hw) (hEL hw) (by decide) ⟨by decide +kernel, by decide +kernel⟩ (z := 5) (by decide) (by decide) (fit_of [101, 113, 117, 97, 108] rfl) (by decide +kernel) (by decide) (by decide) (by decide) rfl (by decide) (by decide) (plL_in (by decide) (by decide))) <|
    adc_cons (okLit hx DS.step hown (hw _ (List.mem_of_getElem? (i := 79) rfl)) (hWS hw) (hEL hw) (by decide) ⟨by decide +kernel, by decide +kernel⟩ (z := 10) (by decide) (by decide) (fit_of [108, 111, 103, 45, 100, 101, 103, 114, 101, 101] rfl) (by decide +kernel) (by decide) (by decide) (by decide) rfl (by decide) (by decide) (plL_in (by decide) (by decide))) <|
    adc_cons (okLit hx DS.step hown (hw _ (List.mem_of_getElem? (i := 137) rfl)) (hWS hw) (hEL hw) (by decide) ⟨by decide +kernel, by decide +kernel⟩ (z := 0) (by decide) (by decide) (fit_of [] rfl) (by decide +kernel) (by decide) (by decide) (by decide) rfl (by decide) (by decide) (plL_in (by decide) (by decide))) <|
    adc_cons (goodD_of DS.step fun s σ P h0 hb => okVirt (cl := 0) (W := 6) hx hb.z (says1 l hb.sg hw (agL hst hn1 hb)) rfl (hown _ hb.z) (hw _ (List.mem_of_getElem? (i := 9) rfl)) (hw _ (List.mem_of_getElem? (i := 10) rfl)) (hw _ (List.mem_of_getElem? (i := 12) rfl)) (hw _ (List.mem_of_getElem? (i := 11) rfl)) (hw _ (List.mem_of_getElem? (i := 2) rfl)) (hw _ (List.mem_of_getElem? (i := 13) rfl)) (fun _ _ h => notFace_of_selects h) (by decide) (by decide +kernel : parseMethodDescriptor "()I" = some ⟨[], some .int⟩) rfl (by decide) (by decide) (by decide) (by decide)) <|
    adc_cons (goodD_of DS.step fun s σ P h0 hb => okArr (t := .char) hx hb.z hb.sg (hw _ (List.mem_of_getElem? (i := 22) rfl)) (by decide) (by decide)) <|
    adc_cons (goodD_of DS.step fun s σ P h0 hb => okStat (W := 6) hx hb.z (says3 l hb.sg hw (agL hst hn1 hb)) (hown _ hb.z) (hw _ (List.mem_of_getElem? (i := 23) rfl)) (hw _ (List.mem_of_getElem? (i := 24) rfl)) (hw _ (List.mem_of_getElem? (i := 25) rfl)) (hw _ (List.mem_of_getElem? (i := 26) rfl)) (by decide) (by decide +kernel : parseMethodDescriptor "(Ljava/lang/String;IIII)C" = some ⟨[(.object "java/lang/String"), .int, .int, .int, .int], some .char⟩) rfl (by decide) (by decide) (by decide) (by decide)) <|
    adc_cons (goodD_of DS.step fun s σ P h0 hb => okNew hx hb.z hb.sg (kok hw) (hown _ hb.z) (hw _ (List.mem_of_getElem? (i := 49) rfl)) (hw _ (List.mem_of_getElem? (i := 3) rfl)) (hw _ (List.mem_of_getElem? (i := 2) rfl)) (cn := 0) rfl (by decide +kernel) (by decide) (by decide)) <|
    adc_cons (okCtorS (cl := 0) (W := 6) hx DS.step (says9 l hw) rfl (hEL hw) hown (hw _ (List.mem_of_getElem? (i := 50) rfl)) (hw _ (List.mem_of_getElem? (i := 51) rfl)) (hw _ (List.mem_of_getElem? (i := 2) rfl)) (hw _ (List.mem_of_getElem? (i := 52) rfl)) (by decide) (by decide +kernel : parseMethodDescriptor "([C)V" = some ⟨[(.array .char)], none⟩) rfl (by decide) (by decide) (by decide) (by decide) plS_k (plS_L) (fun s σ P h0 hb => agL hst hn1 hb)) <|
    adc_cons (goodD_of DS.step fun s σ P h0 hb => okVirt (cl := 0) (W := 6) hx hb.z (says14 l hb.sg hw (agL hst hn1 hb)) rfl (hown _ hb.z) (hw _ (List.mem_of_getElem? (i := 70) rfl)) (hw _ (List.mem_of_getElem? (i := 71) rfl)) (hw _ (List.mem_of_getElem? (i := 73) rfl)) (hw _ (List.mem_of_getElem? (i := 72) rfl)) (hw _ (List.mem_of_getElem? (i := 2) rfl)) (hw _ (List.mem_of_getElem? (i := 74) rfl)) (fun _ _ h => notFace_of_selects h) (by decide) (by decide +kernel : parseMethodDescriptor "(Ljava/lang/Object;)Z" = some ⟨[(.object "java/lang/Object")], some .boolean⟩) rfl (by decide) (by decide) (by decide) (by decide)) <|
    adc_cons (goodD_of DS.step fun s σ P h0 hb => okSta hx hb.z (hown _ hb.z) (hw _ (List.mem_of_getElem? (i := 136) rfl)) Via.refl (agL hst hn1 hb).1) <|
    adc_cons (goodD_of DS.step fun s σ P h0 hb => okSta hx hb.z (hown _ hb.z) (hw _ (List.mem_of_getElem? (i := 116) rfl)) Via.refl (agL hst hn1 hb).2.1) <|
    adc_cons (goodD_of DS.step fun s σ P h0 hb => okStat (W := 6) hx hb.z (says16 l hb.sg hw (agL hst hn1 hb)) (hown _ hb.z) (hw _ (List.mem_of_getElem? (i := 80) rfl)) (hw _ (List.mem_of_getElem? (i := 81) rfl)) (hw _ (List.mem_of_getElem? (i := 82) rfl)) (hw _ (List.mem_of_getElem? (i := 83) rfl)) (by decide) (by decide +kernel : parseMethodDescriptor "(Ljava/lang/String;)Ljava/util/Optional;" = some ⟨[(.object "java/lang/String")], some (.object "java/util/Optional")⟩) rfl (by decide) (by decide) (by decide) (by decide)) <|
    adc_cons (goodD_of DS.step fun s σ P h0 hb => okVirt (cl := 1) (W := 6) hx hb.z (says19 l hb.sg hw (agL hst hn1 hb)) rfl (hown _ hb.z) (hw _ (List.mem_of_getElem? (i := 109) rfl)) (hw _ (List.mem_of_getElem? (i := 110) rfl)) (hw _ (List.mem_of_getElem? (i := 112) rfl)) (hw _ (List.mem_of_getElem? (i := 111) rfl)) (hw _ (List.mem_of_getElem? (i := 106) rfl)) (hw _ (List.mem_of_getElem? (i := 113) rfl)) (fun _ _ h => notFace_of_selects h) (by decide) (by decide +kernel : parseMethodDescriptor "()Z" = some ⟨[], some .boolean⟩) rfl (by decide) (by decide) (by decide) (by decide)) <|
    adc_cons (goodD_of DS.step fun s σ P h0 hb => okVirt (cl := 1) (W := 6) hx hb.z (says23 l hb.sg hw (agL hst hn1 hb)) rfl (hown _ hb.z) (hw _ (List.mem_of_getElem? (i := 131) rfl)) (hw _ (List.mem_of_getElem? (i := 132) rfl)) (hw _ (List.mem_of_getElem? (i := 134) rfl)) (hw _ (List.mem_of_getElem? (i := 133) rfl)) (hw _ (List.mem_of_getElem? (i := 106) rfl)) (hw _ (List.mem_of_getElem? (i := 135) rfl)) (fun _ _ h => notFace_of_selects h) (by decide) (by decide +kernel : parseMethodDescriptor "()Ljava/lang/Object;" = some ⟨[], some (.object "java/lang/Object")⟩) rfl (by decide) (by decide) (by decide) (by decide)) <|
    adc_cons (okNo) <|
    adc_cons (okNo) <|
    adc_cons (okNo) <|
    adc_cons (okNo) <|
    adc_nil
theorem f2_in {x0 : Nat} {H : AH} : (F2 w vF) [.ref x0] H = R2 w vF 54 (0, [.val (.ref x0)], [], H, 0, 0) := rfl
theorem f2_inn  {H : AH} : (F2 w vF) [.null] H = R2 w vF 54 (0, [.val .null], [], H, 0, 0) := rfl
theorem s2_0 {n cs ss : Nat} {L : List Slot} {S : List Value} {H : AH} : R2 w vF (n + 1) (0, L, S, H, cs, ss) = (aSta (.int w) S H cs ss).bind fun r => R2 w vF n (3, L, r.1, r.2.1, r.2.2.1, r.2.2.2) := s_any k2_0
theorem s2_3 {n cs ss : Nat} {L : List Slot} {S : List Value} {H : AH} : R2 w vF (n + 1) (3, L, S, H, cs, ss) = pI S fun x r => if x = 0 then R2 w vF n (13, L, r, H, cs, ss) else R2 w vF n (6, L, r, H, cs, ss) := s_if (Q := fun x => x = 0) (fun _ => z_eq) k2_3 (by decide) (by decide)
theorem s2_6 {n cs ss : Nat} {L : List Slot} {S : List Value} {H : AH} : R2 w vF (n + 1) (6, L, S, H, cs, ss) = (gA L 0).bind fun v => R2 w vF n (7, L, v :: S, H, cs, ss) := s_any k2_6
theorem s2_7 {n cs ss : Nat} {L : List Slot} {S : List Value} {H : AH} : R2 w vF (n + 1) (7, L, S, H, cs, ss) = (aGet 0 1 S H cs ss).bind fun r => R2 w vF n (10, L, r.1, r.2.1, r.2.2.1, r.2.2.2) := s_any k2_7
theorem s2_10 {n cs ss : Nat} {L : List Slot} {S : List Value} {H : AH} : R2 w vF (n + 1) (10, L, S, H, cs, ss) = R2 w vF n (14, L, S, H, cs, ss) := s_goto k2_10 (by decide) (by decide)
theorem s2_14 {n cs ss : Nat} {L : List Slot} {S : List Value} {H : AH} : R2 w vF (n + 1) (14, L, S, H, cs, ss) = pI S fun z _ => some (some (.int z.toInt8.toInt32), H) := s_any k2_14
theorem u2_0 {go : GT} (hgo : go = R2 w vF) {n cs ss : Nat} {L : List Slot} {S : List Value} {H : AH} : go (n + 1) (0, L, S, H, cs, ss) = (aSta (.int w) S H cs ss).bind fun r => go n (3, L, r.1, r.2.1, r.2.2.1, r.2.2.2) := by
  subst hgo
  exact s2_0
theorem t2_3f {go : GT} (hgo : go = R2 w vF) {n cs ss : Nat} {L : List Slot} {S : List Value} {H : AH} {q : QT} {x : Int32} (hc : ¬ x = 0) (h : Rsq (go n (6, L, S, H, cs, ss)) q) : Rsq (go (n + 1) (3, L, (.int x :: S), H, cs, ss)) q := by
  subst hgo
  exact res_of s2_3 (res_f hc h)
theorem t2_6 {go : GT} (hgo : go = R2 w vF) {n cs ss : Nat} {S : List Value} {H : AH} {q : QT} {v : Value} (hv : isA v = true) (h : Rsq (go n (7, [.val v], (v :: S), H, cs, ss)) q) : Rsq (go (n + 1) (6, [.val v], S, H, cs, ss)) q := by
  subst hgo
  refine res_of s2_6 ?_
  rw [gA_isA (L := [.val v]) (k := 0) (v := v) rfl hv]
  exact h
theorem u2_7 {go : GT} (hgo : go = R2 w vF) {n cs ss : Nat} {L : List Slot} {S : List Value} {H : AH} : go (n + 1) (7, L, S, H, cs, ss) = (aGet 0 1 S H cs ss).bind fun r => go n (10, L, r.1, r.2.1, r.2.2.1, r.2.2.2) := by
  subst hgo
  exact s2_7
theorem t2_10 {go : GT} (hgo : go = R2 w vF) {n cs ss : Nat} {L : List Slot} {S : List Value} {H : AH} {q : QT} (h : Rsq (go n (14, L, S, H, cs, ss)) q) : Rsq (go (n + 1) (10, L, S, H, cs, ss)) q := by
  subst hgo
  exact res_of s2_10 h
theorem t2_14 {go : GT} (hgo : go = R2 w vF) {n cs ss : Nat} {L : List Slot} {S : List Value} {H : AH} {q : QT} {z : Int32} (h : q (some (some (.int z.toInt8.toInt32), H))) : Rsq (go (n + 1) (14, L, (.int z :: S), H, cs, ss)) q := by
  subst hgo
  exact res_of s2_14 h
theorem f1_in {x0 : Nat} {H : AH} : (F1 w vF) [.ref x0] H = R1 w vF 54 (0, [.val (.ref x0)], [], H, 0, 0) := rfl
theorem f1_inn  {H : AH} : (F1 w vF) [.null] H = R1 w vF 54 (0, [.val .null], [], H, 0, 0) := rfl
theorem s1_0 {n cs ss : Nat} {L : List Slot} {S : List Value} {H : AH} : R1 w vF (n + 1) (0, L, S, H, cs, ss) = (gA L 0).bind fun v => R1 w vF n (1, L, v :: S, H, cs, ss) := s_any k1_0
theorem s1_1 {n cs ss : Nat} {L : List Slot} {S : List Value} {H : AH} : R1 w vF (n + 1) (1, L, S, H, cs, ss) = (aGet 0 0 S H cs ss).bind fun r => R1 w vF n (4, L, r.1, r.2.1, r.2.2.1, r.2.2.2) := s_any k1_1
theorem s1_4 {n cs ss : Nat} {L : List Slot} {S : List Value} {H : AH} : R1 w vF (n + 1) (4, L, S, H, cs, ss) = pR S fun a r => (arr H a).bind fun q => R1 w vF n (5, L, .int (ln q.2) :: r, H, cs, ss) := s_any k1_4
theorem s1_5 {n cs ss : Nat} {L : List Slot} {S : List Value} {H : AH} : R1 w vF (n + 1) (5, L, S, H, cs, ss) = (gA L 0).bind fun v => R1 w vF n (6, L, v :: S, H, cs, ss) := s_any k1_5
theorem s1_6 {n cs ss : Nat} {L : List Slot} {S : List Value} {H : AH} : R1 w vF (n + 1) (6, L, S, H, cs, ss) = (aRecv 0 0 6 0 0 0 0 (F2 w vF) S H cs ss).bind fun r => R1 w vF n (9, L, r.1, r.2.1, r.2.2.1, r.2.2.2) := s_any k1_6
theorem s1_9 {n cs ss : Nat} {L : List Slot} {S : List Value} {H : AH} : R1 w vF (n + 1) (9, L, S, H, cs, ss) = ex (Option.some Jvm.ClassFile.FieldType.int) (E1 w vF) 25 (R1 w vF n) (.ishr) 9 L S H cs ss := s_any k1_9
theorem s1_10 {n cs ss : Nat} {L : List Slot} {S : List Value} {H : AH} : R1 w vF (n + 1) (10, L, S, H, cs, ss) = pI S fun z _ => some (some (.int z), H) := s_any k1_10
theorem t1_0 {go : GT} (hgo : go = R1 w vF) {n cs ss : Nat} {S : List Value} {H : AH} {q : QT} {v : Value} (hv : isA v = true) (h : Rsq (go n (1, [.val v], (v :: S), H, cs, ss)) q) : Rsq (go (n + 1) (0, [.val v], S, H, cs, ss)) q := by
  subst hgo
  refine res_of s1_0 ?_
  rw [gA_isA (L := [.val v]) (k := 0) (v := v) rfl hv]
  exact h
theorem u1_1 {go : GT} (hgo : go = R1 w vF) {n cs ss : Nat} {L : List Slot} {S : List Value} {H : AH} : go (n + 1) (1, L, S, H, cs, ss) = (aGet 0 0 S H cs ss).bind fun r => go n (4, L, r.1, r.2.1, r.2.2.1, r.2.2.2) := by
  subst hgo
  exact s1_1
theorem u1_4 {go : GT} (hgo : go = R1 w vF) {n cs ss : Nat} {L : List Slot} {S : List Value} {H : AH} : go (n + 1) (4, L, S, H, cs, ss) = pR S fun a r => (arr H a).bind fun q => go n (5, L, .int (ln q.2) :: r, H, cs, ss) := by
  subst hgo
  exact s1_4
theorem t1_5 {go : GT} (hgo : go = R1 w vF) {n cs ss : Nat} {S : List Value} {H : AH} {q : QT} {v : Value} (hv : isA v = true) (h : Rsq (go n (6, [.val v], (v :: S), H, cs, ss)) q) : Rsq (go (n + 1) (5, [.val v], S, H, cs, ss)) q := by
  subst hgo
  refine res_of s1_5 ?_
  rw [gA_isA (L := [.val v]) (k := 0) (v := v) rfl hv]
  exact h
theorem u1_6 {go : GT} (hgo : go = R1 w vF) {n cs ss : Nat} {L : List Slot} {S : List Value} {H : AH} : go (n + 1) (6, L, S, H, cs, ss) = (aRecv 0 0 6 0 0 0 0 (F2 w vF) S H cs ss).bind fun r => go n (9, L, r.1, r.2.1, r.2.2.1, r.2.2.2) := by
  subst hgo
  exact s1_6
theorem t1_9 {go : GT} (hgo : go = R1 w vF) {n cs ss : Nat} {L : List Slot} {S : List Value} {H : AH} {q : QT} {x y : Int32} (h : Rsq (go n (10, L, (.int (x >>> (y &&& 31)) :: S), H, cs, ss)) q) : Rsq (go (n + 1) (9, L, (.int y :: .int x :: S), H, cs, ss)) q := by
  subst hgo
  exact res_of s1_9 h
theorem t1_10 {go : GT} (hgo : go = R1 w vF) {n cs ss : Nat} {L : List Slot} {S : List Value} {H : AH} {q : QT} {z : Int32} (h : q (some (some (.int z), H))) : Rsq (go (n + 1) (10, L, (.int z :: S), H, cs, ss)) q := by
  subst hgo
  exact res_of s1_10 h
theorem f5_in {x0 : Nat} {H : AH} : (F5 w vF) [.ref x0] H = R5 w vF 58 (0, [.val (.ref x0)], [], H, 0, 0) := rfl
theorem f5_inn  {H : AH} : (F5 w vF) [.null] H = R5 w vF 58 (0, [.val .null], [], H, 0, 0) := rfl
theorem s5_0 {n cs ss : Nat} {L : List Slot} {S : List Value} {H : AH} : R5 w vF (n + 1) (0, L, S, H, cs, ss) = (aSta (.int w) S H cs ss).bind fun r => R5 w vF n (3, L, r.1, r.2.1, r.2.2.1, r.2.2.2) := s_any k5_0
theorem s5_3 {n cs ss : Nat} {L : List Slot} {S : List Value} {H : AH} : R5 w vF (n + 1) (3, L, S, H, cs, ss) = pI S fun x r => if x = 0 then R5 w vF n (17, L, r, H, cs, ss) else R5 w vF n (6, L, r, H, cs, ss) := s_if (Q := fun x => x = 0) (fun _ => z_eq) k5_3 (by decide) (by decide)
theorem s5_6 {n cs ss : Nat} {L : List Slot} {S : List Value} {H : AH} : R5 w vF (n + 1) (6, L, S, H, cs, ss) = (gA L 0).bind fun v => R5 w vF n (7, L, v :: S, H, cs, ss) := s_any k5_6
theorem s5_7 {n cs ss : Nat} {L : List Slot} {S : List Value} {H : AH} : R5 w vF (n + 1) (7, L, S, H, cs, ss) = (aGet 0 1 S H cs ss).bind fun r => R5 w vF n (10, L, r.1, r.2.1, r.2.2.1, r.2.2.2) := s_any k5_7
theorem s5_10 {n cs ss : Nat} {L : List Slot} {S : List Value} {H : AH} : R5 w vF (n + 1) (10, L, S, H, cs, ss) = pI S fun x r => if x = 0 then R5 w vF n (13, L, r, H, cs, ss) else R5 w vF n (17, L, r, H, cs, ss) := s_ifN (Q := fun x => x = 0) (fun _ => z_ne) k5_10 (by decide) (by decide)
theorem s5_13 {n cs ss : Nat} {L : List Slot} {S : List Value} {H : AH} : R5 w vF (n + 1) (13, L, S, H, cs, ss) = R5 w vF n (14, L, (.int 1 :: S), H, cs, ss) := s_any k5_13
theorem s5_14 {n cs ss : Nat} {L : List Slot} {S : List Value} {H : AH} : R5 w vF (n + 1) (14, L, S, H, cs, ss) = R5 w vF n (18, L, S, H, cs, ss) := s_goto k5_14 (by decide) (by decide)
theorem s5_18 {n cs ss : Nat} {L : List Slot} {S : List Value} {H : AH} : R5 w vF (n + 1) (18, L, S, H, cs, ss) = pI S fun z _ => some (some (.int (z &&& 1)), H) := s_any k5_18
theorem u5_0 {go : GT} (hgo : go = R5 w vF) {n cs ss : Nat} {L : List Slot} {S : List Value} {H : AH} : go (n + 1) (0, L, S, H, cs, ss) = (aSta (.int w) S H cs ss).bind fun r => go n (3, L, r.1, r.2.1, r.2.2.1, r.2.2.2) := by
  subst hgo
  exact s5_0
theorem t5_3f {go : GT} (hgo : go = R5 w vF) {n cs ss : Nat} {L : List Slot} {S : List Value} {H : AH} {q : QT} {x : Int32} (hc : ¬ x = 0) (h : Rsq (go n (6, L, S, H, cs, ss)) q) : Rsq (go (n + 1) (3, L, (.int x :: S), H, cs, ss)) q := by
  subst hgo
  exact res_of s5_3 (res_f hc h)
theorem t5_6 {go : GT} (hgo : go = R5 w vF) {n cs ss : Nat} {S : List Value} {H : AH} {q : QT} {v : Value} (hv : isA v = true) (h : Rsq (go n (7, [.val v], (v :: S), H, cs, ss)) q) : Rsq (go (n + 1) (6, [.val v], S, H, cs, ss)) q := by
  subst hgo
  refine res_of s5_6 ?_
  rw [gA_isA (L := [.val v]) (k := 0) (v := v) rfl hv]
  exact h
theorem u5_7 {go : GT} (hgo : go = R5 w vF) {n cs ss : Nat} {L : List Slot} {S : List Value} {H : AH} : go (n + 1) (7, L, S, H, cs, ss) = (aGet 0 1 S H cs ss).bind fun r => go n (10, L, r.1, r.2.1, r.2.2.1, r.2.2.2) := by
  subst hgo
  exact s5_7
theorem t5_10t {go : GT} (hgo : go = R5 w vF) {n cs ss : Nat} {L : List Slot} {S : List Value} {H : AH} {q : QT} {x : Int32} (hc : x = 0) (h : Rsq (go n (13, L, S, H, cs, ss)) q) : Rsq (go (n + 1) (10, L, (.int x :: S), H, cs, ss)) q := by
  subst hgo
  exact res_of s5_10 (res_t hc h)
theorem t5_13 {go : GT} (hgo : go = R5 w vF) {n cs ss : Nat} {L : List Slot} {S : List Value} {H : AH} {q : QT} (h : Rsq (go n (14, L, (.int 1 :: S), H, cs, ss)) q) : Rsq (go (n + 1) (13, L, S, H, cs, ss)) q := by
  subst hgo
  exact res_of s5_13 h
theorem t5_14 {go : GT} (hgo : go = R5 w vF) {n cs ss : Nat} {L : List Slot} {S : List Value} {H : AH} {q : QT} (h : Rsq (go n (18, L, S, H, cs, ss)) q) : Rsq (go (n + 1) (14, L, S, H, cs, ss)) q := by
  subst hgo
  exact res_of s5_14 h
theorem t5_18 {go : GT} (hgo : go = R5 w vF) {n cs ss : Nat} {L : List Slot} {S : List Value} {H : AH} {q : QT} {z : Int32} (h : q (some (some (.int (z &&& 1)), H))) : Rsq (go (n + 1) (18, L, (.int z :: S), H, cs, ss)) q := by
  subst hgo
  exact res_of s5_18 h
theorem f8_in {x0 : Int32} {x1 : Int32} {x2 : Nat} {H : AH} : (F8 w vF) [.int x0, .int x1, .ref x2] H = R8 w vF 64 (0, [.val (.int x0), .val (.int x1), .val (.ref x2)], [], H, 0, 0) := rfl
theorem f8_inn {x0 : Int32} {x1 : Int32} {H : AH} : (F8 w vF) [.int x0, .int x1, .null] H = R8 w vF 64 (0, [.val (.int x0), .val (.int x1), .val .null], [], H, 0, 0) := rfl
theorem s8_0 {n cs ss : Nat} {L : List Slot} {S : List Value} {H : AH} : R8 w vF (n + 1) (0, L, S, H, cs, ss) = (gI L 0).bind fun v => R8 w vF n (1, L, .int v :: S, H, cs, ss) := s_any k8_0
theorem s8_1 {n cs ss : Nat} {L : List Slot} {S : List Value} {H : AH} : R8 w vF (n + 1) (1, L, S, H, cs, ss) = pI S fun x r => if x < 0 then R8 w vF n (9, L, r, H, cs, ss) else R8 w vF n (4, L, r, H, cs, ss) := s_if (Q := fun x => x < 0) (fun _ => z_lt) k8_1 (by decide) (by decide)
theorem s8_4 {n cs ss : Nat} {L : List Slot} {S : List Value} {H : AH} : R8 w vF (n + 1) (4, L, S, H, cs, ss) = (gI L 0).bind fun v => R8 w vF n (5, L, .int v :: S, H, cs, ss) := s_any k8_4
theorem s8_5 {n cs ss : Nat} {L : List Slot} {S : List Value} {H : AH} : R8 w vF (n + 1) (5, L, S, H, cs, ss) = (gI L 1).bind fun v => R8 w vF n (6, L, .int v :: S, H, cs, ss) := s_any k8_5
theorem s8_6 {n cs ss : Nat} {L : List Slot} {S : List Value} {H : AH} : R8 w vF (n + 1) (6, L, S, H, cs, ss) = pI S fun y S => pI S fun x r => if x < y then R8 w vF n (16, L, r, H, cs, ss) else R8 w vF n (9, L, r, H, cs, ss) := s_icmp (Q := fun x y => x < y) (fun _ _ => h_lt) k8_6 (by decide) (by decide)
theorem s8_16 {n cs ss : Nat} {L : List Slot} {S : List Value} {H : AH} : R8 w vF (n + 1) (16, L, S, H, cs, ss) = (gI L 0).bind fun v => R8 w vF n (17, L, .int v :: S, H, cs, ss) := s_any k8_16
theorem s8_17 {n cs ss : Nat} {L : List Slot} {S : List Value} {H : AH} : R8 w vF (n + 1) (17, L, S, H, cs, ss) = pI S fun z _ => some (some (.int z), H) := s_any k8_17
theorem t8_0 {go : GT} (hgo : go = R8 w vF) {n cs ss : Nat} {l1 l2 : Slot} {S : List Value} {H : AH} {q : QT} {v : Int32} (h : Rsq (go n (1, [.val (.int v), l1, l2], (.int v :: S), H, cs, ss)) q) : Rsq (go (n + 1) (0, [.val (.int v), l1, l2], S, H, cs, ss)) q := by
  subst hgo
  exact res_of s8_0 h
theorem t8_1f {go : GT} (hgo : go = R8 w vF) {n cs ss : Nat} {L : List Slot} {S : List Value} {H : AH} {q : QT} {x : Int32} (hc : ¬ x < 0) (h : Rsq (go n (4, L, S, H, cs, ss)) q) : Rsq (go (n + 1) (1, L, (.int x :: S), H, cs, ss)) q := by
  subst hgo
  exact res_of s8_1 (res_f hc h)
theorem t8_4 {go : GT} (hgo : go = R8 w vF) {n cs ss : Nat} {l1 l2 : Slot} {S : List Value} {H : AH} {q : QT} {v : Int32} (h : Rsq (go n (5, [.val (.int v), l1, l2], (.int v :: S), H, cs, ss)) q) : Rsq (go (n + 1) (4, [.val (.int v), l1, l2], S, H, cs, ss)) q := by
  subst hgo
  exact res_of s8_4 h
theorem t8_5 {go : GT} (hgo : go = R8 w vF) {n cs ss : Nat} {l0 l2 : Slot} {S : List Value} {H : AH} {q : QT} {v : Int32} (h : Rsq (go n (6, [l0, .val (.int v), l2], (.int v :: S), H, cs, ss)) q) : Rsq (go (n + 1) (5, [l0, .val (.int v), l2], S, H, cs, ss)) q := by
  subst hgo
  exact res_of s8_5 h
theorem t8_6t {go : GT} (hgo : go = R8 w vF) {n cs ss : Nat} {L : List Slot} {S : List Value} {H : AH} {q : QT} {x y : Int32} (hc : x < y) (h : Rsq (go n (16, L, S, H, cs, ss)) q) : Rsq (go (n + 1) (6, L, (.int y :: .int x :: S), H, cs, ss)) q := by
  subst hgo
  exact res_of s8_6 (res_t hc h)
theorem t8_16 {go : GT} (hgo : go = R8 w vF) {n cs ss : Nat} {l1 l2 : Slot} {S : List Value} {H : AH} {q : QT} {v : Int32} (h : Rsq (go n (17, [.val (.int v), l1, l2], (.int v :: S), H, cs, ss)) q) : Rsq (go (n + 1) (16, [.val (.int v), l1, l2], S, H, cs, ss)) q := by
  subst hgo
  exact res_of s8_16 h
theorem t8_17 {go : GT} (hgo : go = R8 w vF) {n cs ss : Nat} {L : List Slot} {S : List Value} {H : AH} {q : QT} {z : Int32} (h : q (some (some (.int z), H))) : Rsq (go (n + 1) (17, L, (.int z :: S), H, cs, ss)) q := by
  subst hgo
  exact res_of s8_17 h
theorem f7_in {x0 : Int32} {x1 : Int32} {H : AH} : (F7 w vF) [.int x0, .int x1] H = R7 w vF 52 (0, [.val (.int x0), .val (.int x1)], [], H, 0, 0) := rfl
theorem s7_0 {n cs ss : Nat} {L : List Slot} {S : List Value} {H : AH} : R7 w vF (n + 1) (0, L, S, H, cs, ss) = (gI L 0).bind fun v => R7 w vF n (1, L, .int v :: S, H, cs, ss) := s_any k7_0
theorem s7_1 {n cs ss : Nat} {L : List Slot} {S : List Value} {H : AH} : R7 w vF (n + 1) (1, L, S, H, cs, ss) = (gI L 1).bind fun v => R7 w vF n (2, L, .int v :: S, H, cs, ss) := s_any k7_1
theorem s7_2 {n cs ss : Nat} {L : List Slot} {S : List Value} {H : AH} : R7 w vF (n + 1) (2, L, S, H, cs, ss) = (aSta (vF) S H cs ss).bind fun r => R7 w vF n (5, L, r.1, r.2.1, r.2.2.1, r.2.2.2) := s_any k7_2
theorem s7_5 {n cs ss : Nat} {L : List Slot} {S : List Value} {H : AH} : R7 w vF (n + 1) (5, L, S, H, cs, ss) = (aCall 3 6 0 0 0 0 (F8 w vF) S H cs ss).bind fun r => R7 w vF n (8, L, r.1, r.2.1, r.2.2.1, r.2.2.2) := s_any k7_5
theorem s7_8 {n cs ss : Nat} {L : List Slot} {S : List Value} {H : AH} : R7 w vF (n + 1) (8, L, S, H, cs, ss) = ex (Option.none : Option Jvm.ClassFile.FieldType) (E7 w vF) 25 (R7 w vF n) (.pop) 8 L S H cs ss := s_any k7_8
theorem s7_9 {n cs ss : Nat} {L : List Slot} {S : List Value} {H : AH} : R7 w vF (n + 1) (9, L, S, H, cs, ss) = rV none S H := s_any k7_9
theorem t7_0 {go : GT} (hgo : go = R7 w vF) {n cs ss : Nat} {l1 : Slot} {S : List Value} {H : AH} {q : QT} {v : Int32} (h : Rsq (go n (1, [.val (.int v), l1], (.int v :: S), H, cs, ss)) q) : Rsq (go (n + 1) (0, [.val (.int v), l1], S, H, cs, ss)) q := by
  subst hgo
  exact res_of s7_0 h
theorem t7_1 {go : GT} (hgo : go = R7 w vF) {n cs ss : Nat} {l0 : Slot} {S : List Value} {H : AH} {q : QT} {v : Int32} (h : Rsq (go n (2, [l0, .val (.int v)], (.int v :: S), H, cs, ss)) q) : Rsq (go (n + 1) (1, [l0, .val (.int v)], S, H, cs, ss)) q := by
  subst hgo
  exact res_of s7_1 h
theorem u7_2 {go : GT} (hgo : go = R7 w vF) {n cs ss : Nat} {L : List Slot} {S : List Value} {H : AH} : go (n + 1) (2, L, S, H, cs, ss) = (aSta (vF) S H cs ss).bind fun r => go n (5, L, r.1, r.2.1, r.2.2.1, r.2.2.2) := by
  subst hgo
  exact s7_2
theorem u7_5 {go : GT} (hgo : go = R7 w vF) {n cs ss : Nat} {L : List Slot} {S : List Value} {H : AH} : go (n + 1) (5, L, S, H, cs, ss) = (aCall 3 6 0 0 0 0 (F8 w vF) S H cs ss).bind fun r => go n (8, L, r.1, r.2.1, r.2.2.1, r.2.2.2) := by
  subst hgo
  exact s7_5
theorem t7_8 {go : GT} (hgo : go = R7 w vF) {n cs ss : Nat} {L : List Slot} {S : List Value} {H : AH} {q : QT} {v : Value} (hv : isS v = true) (h : Rsq (go n (9, L, S, H, cs, ss)) q) : Rsq (go (n + 1) (8, L, (v :: S), H, cs, ss)) q := by
  subst hgo
  refine res_of s7_8 ?_
  rw [ex_pop, p1_isS hv]
  exact h
theorem t7_9 {go : GT} (hgo : go = R7 w vF) {n cs ss : Nat} {L : List Slot} {H : AH} {q : QT} (h : q (some (none, H))) : Rsq (go (n + 1) (9, L, [], H, cs, ss)) q := by
  subst hgo
  exact res_of s7_9 h
theorem f6_in {x0 : Nat} {x1 : Int32} {H : AH} : (F6 w vF) [.ref x0, .int x1] H = R6 w vF 62 (0, [.val (.ref x0), .val (.int x1)], [], H, 0, 0) := rfl
theorem s6_0 {n cs ss : Nat} {L : List Slot} {S : List Value} {H : AH} : R6 w vF (n + 1) (0, L, S, H, cs, ss) = (gI L 1).bind fun v => R6 w vF n (1, L, .int v :: S, H, cs, ss) := s_any k6_0
theorem s6_1 {n cs ss : Nat} {L : List Slot} {S : List Value} {H : AH} : R6 w vF (n + 1) (1, L, S, H, cs, ss) = (gA L 0).bind fun v => R6 w vF n (2, L, v :: S, H, cs, ss) := s_any k6_1
theorem s6_2 {n cs ss : Nat} {L : List Slot} {S : List Value} {H : AH} : R6 w vF (n + 1) (2, L, S, H, cs, ss) = pR S fun a r => (arr H a).bind fun q => R6 w vF n (3, L, .int (ln q.2) :: r, H, cs, ss) := s_any k6_2
theorem s6_3 {n cs ss : Nat} {L : List Slot} {S : List Value} {H : AH} : R6 w vF (n + 1) (3, L, S, H, cs, ss) = (aCall 2 6 0 0 0 0 (F7 w vF) S H cs ss).bind fun r => R6 w vF n (6, L, r.1, r.2.1, r.2.2.1, r.2.2.2) := s_any k6_3
theorem s6_6 {n cs ss : Nat} {L : List Slot} {S : List Value} {H : AH} : R6 w vF (n + 1) (6, L, S, H, cs, ss) = (gA L 0).bind fun v => R6 w vF n (7, L, v :: S, H, cs, ss) := s_any k6_6
theorem s6_7 {n cs ss : Nat} {L : List Slot} {S : List Value} {H : AH} : R6 w vF (n + 1) (7, L, S, H, cs, ss) = (gI L 1).bind fun v => R6 w vF n (8, L, .int v :: S, H, cs, ss) := s_any k6_7
theorem s6_8 {n cs ss : Nat} {L : List Slot} {S : List Value} {H : AH} : R6 w vF (n + 1) (8, L, S, H, cs, ss) = ex (Option.some Jvm.ClassFile.FieldType.char) (E6 w vF) 25 (R6 w vF n) (.baload) 8 L S H cs ss := s_any k6_8
theorem s6_9 {n cs ss : Nat} {L : List Slot} {S : List Value} {H : AH} : R6 w vF (n + 1) (9, L, S, H, cs, ss) = R6 w vF n (12, L, (.int 255 :: S), H, cs, ss) := s_any k6_9
theorem s6_12 {n cs ss : Nat} {L : List Slot} {S : List Value} {H : AH} : R6 w vF (n + 1) (12, L, S, H, cs, ss) = pI S fun y S => pI S fun x r => R6 w vF n (13, L, .int (x &&& y) :: r, H, cs, ss) := s_any k6_12
theorem s6_13 {n cs ss : Nat} {L : List Slot} {S : List Value} {H : AH} : R6 w vF (n + 1) (13, L, S, H, cs, ss) = ex (Option.some Jvm.ClassFile.FieldType.char) (E6 w vF) 25 (R6 w vF n) (.i2c) 13 L S H cs ss := s_any k6_13
theorem s6_14 {n cs ss : Nat} {L : List Slot} {S : List Value} {H : AH} : R6 w vF (n + 1) (14, L, S, H, cs, ss) = pI S fun z _ => some (some (.int z.toUInt32.toUInt16.toUInt32.toInt32), H) := s_any k6_14
theorem t6_0 {go : GT} (hgo : go = R6 w vF) {n cs ss : Nat} {l0 : Slot} {S : List Value} {H : AH} {q : QT} {v : Int32} (h : Rsq (go n (1, [l0, .val (.int v)], (.int v :: S), H, cs, ss)) q) : Rsq (go (n + 1) (0, [l0, .val (.int v)], S, H, cs, ss)) q := by
  subst hgo
  exact res_of s6_0 h
theorem t6_1 {go : GT} (hgo : go = R6 w vF) {n cs ss : Nat} {l1 : Slot} {S : List Value} {H : AH} {q : QT} {v : Value} (hv : isA v = true) (h : Rsq (go n (2, [.val v, l1], (v :: S), H, cs, ss)) q) : Rsq (go (n + 1) (1, [.val v, l1], S, H, cs, ss)) q := by
  subst hgo
  refine res_of s6_1 ?_
  rw [gA_isA (L := [.val v, l1]) (k := 0) (v := v) rfl hv]
  exact h
theorem u6_2 {go : GT} (hgo : go = R6 w vF) {n cs ss : Nat} {L : List Slot} {S : List Value} {H : AH} : go (n + 1) (2, L, S, H, cs, ss) = pR S fun a r => (arr H a).bind fun q => go n (3, L, .int (ln q.2) :: r, H, cs, ss) := by
  subst hgo
  exact s6_2
theorem u6_3 {go : GT} (hgo : go = R6 w vF) {n cs ss : Nat} {L : List Slot} {S : List Value} {H : AH} : go (n + 1) (3, L, S, H, cs, ss) = (aCall 2 6 0 0 0 0 (F7 w vF) S H cs ss).bind fun r => go n (6, L, r.1, r.2.1, r.2.2.1, r.2.2.2) := by
  subst hgo
  exact s6_3
theorem t6_6 {go : GT} (hgo : go = R6 w vF) {n cs ss : Nat} {l1 : Slot} {S : List Value} {H : AH} {q : QT} {v : Value} (hv : isA v = true) (h : Rsq (go n (7, [.val v, l1], (v :: S), H, cs, ss)) q) : Rsq (go (n + 1) (6, [.val v, l1], S, H, cs, ss)) q := by
  subst hgo
  refine res_of s6_6 ?_
  rw [gA_isA (L := [.val v, l1]) (k := 0) (v := v) rfl hv]
  exact h
theorem t6_7 {go : GT} (hgo : go = R6 w vF) {n cs ss : Nat} {l0 : Slot} {S : List Value} {H : AH} {q : QT} {v : Int32} (h : Rsq (go n (8, [l0, .val (.int v)], (.int v :: S), H, cs, ss)) q) : Rsq (go (n + 1) (7, [l0, .val (.int v)], S, H, cs, ss)) q := by
  subst hgo
  exact res_of s6_7 h
theorem u6_8 {go : GT} (hgo : go = R6 w vF) {n cs ss : Nat} {L : List Slot} {S : List Value} {H : AH} : go (n + 1) (8, L, S, H, cs, ss) = ex (Option.some Jvm.ClassFile.FieldType.char) (E6 w vF) 25 (go n) (.baload) 8 L S H cs ss := by
  subst hgo
  exact s6_8
theorem t6_9 {go : GT} (hgo : go = R6 w vF) {n cs ss : Nat} {L : List Slot} {S : List Value} {H : AH} {q : QT} (h : Rsq (go n (12, L, (.int 255 :: S), H, cs, ss)) q) : Rsq (go (n + 1) (9, L, S, H, cs, ss)) q := by
  subst hgo
  exact res_of s6_9 h
theorem t6_12 {go : GT} (hgo : go = R6 w vF) {n cs ss : Nat} {L : List Slot} {S : List Value} {H : AH} {q : QT} {x y : Int32} (h : Rsq (go n (13, L, (.int (x &&& y) :: S), H, cs, ss)) q) : Rsq (go (n + 1) (12, L, (.int y :: .int x :: S), H, cs, ss)) q := by
  subst hgo
  exact res_of s6_12 h
theorem t6_13 {go : GT} (hgo : go = R6 w vF) {n cs ss : Nat} {L : List Slot} {S : List Value} {H : AH} {q : QT} {x : Int32} (h : Rsq (go n (14, L, (.int (x.toUInt32.toUInt16.toUInt32.toInt32) :: S), H, cs, ss)) q) : Rsq (go (n + 1) (13, L, (.int x :: S), H, cs, ss)) q := by
  subst hgo
  exact res_of s6_13 h
theorem t6_14 {go : GT} (hgo : go = R6 w vF) {n cs ss : Nat} {L : List Slot} {S : List Value} {H : AH} {q : QT} {z : Int32} (h : q (some (some (.int z.toUInt32.toUInt16.toUInt32.toInt32), H))) : Rsq (go (n + 1) (14, L, (.int z :: S), H, cs, ss)) q := by
  subst hgo
  exact res_of s6_14 h
theorem f4_in {x0 : Nat} {x1 : Int32} {H : AH} : (F4 w vF) [.ref x0, .int x1] H = R4 w vF 66 (0, [.val (.ref x0), .val (.int x1)], [], H, 0, 0) := rfl
theorem s4_0 {n cs ss : Nat} {L : List Slot} {S : List Value} {H : AH} : R4 w vF (n + 1) (0, L, S, H, cs, ss) = (gA L 0).bind fun v => R4 w vF n (1, L, v :: S, H, cs, ss) := s_any k4_0
theorem s4_1 {n cs ss : Nat} {L : List Slot} {S : List Value} {H : AH} : R4 w vF (n + 1) (1, L, S, H, cs, ss) = (aRecv 0 0 6 0 0 0 0 (F5 w vF) S H cs ss).bind fun r => R4 w vF n (4, L, r.1, r.2.1, r.2.2.1, r.2.2.2) := s_any k4_1
theorem s4_4 {n cs ss : Nat} {L : List Slot} {S : List Value} {H : AH} : R4 w vF (n + 1) (4, L, S, H, cs, ss) = pI S fun x r => if x = 0 then R4 w vF n (16, L, r, H, cs, ss) else R4 w vF n (7, L, r, H, cs, ss) := s_if (Q := fun x => x = 0) (fun _ => z_eq) k4_4 (by decide) (by decide)
theorem s4_7 {n cs ss : Nat} {L : List Slot} {S : List Value} {H : AH} : R4 w vF (n + 1) (7, L, S, H, cs, ss) = (gA L 0).bind fun v => R4 w vF n (8, L, v :: S, H, cs, ss) := s_any k4_7
theorem s4_8 {n cs ss : Nat} {L : List Slot} {S : List Value} {H : AH} : R4 w vF (n + 1) (8, L, S, H, cs, ss) = (aGet 0 0 S H cs ss).bind fun r => R4 w vF n (11, L, r.1, r.2.1, r.2.2.1, r.2.2.2) := s_any k4_8
theorem s4_11 {n cs ss : Nat} {L : List Slot} {S : List Value} {H : AH} : R4 w vF (n + 1) (11, L, S, H, cs, ss) = (gI L 1).bind fun v => R4 w vF n (12, L, .int v :: S, H, cs, ss) := s_any k4_11
theorem s4_12 {n cs ss : Nat} {L : List Slot} {S : List Value} {H : AH} : R4 w vF (n + 1) (12, L, S, H, cs, ss) = (aCall 2 6 0 0 0 0 (F6 w vF) S H cs ss).bind fun r => R4 w vF n (15, L, r.1, r.2.1, r.2.2.1, r.2.2.2) := s_any k4_12
theorem s4_15 {n cs ss : Nat} {L : List Slot} {S : List Value} {H : AH} : R4 w vF (n + 1) (15, L, S, H, cs, ss) = pI S fun z _ => some (some (.int z.toUInt32.toUInt16.toUInt32.toInt32), H) := s_any k4_15
theorem t4_0 {go : GT} (hgo : go = R4 w vF) {n cs ss : Nat} {l1 : Slot} {S : List Value} {H : AH} {q : QT} {v : Value} (hv : isA v = true) (h : Rsq (go n (1, [.val v, l1], (v :: S), H, cs, ss)) q) : Rsq (go (n + 1) (0, [.val v, l1], S, H, cs, ss)) q := by
  subst hgo
  refine res_of s4_0 ?_
  rw [gA_isA (L := [.val v, l1]) (k := 0) (v := v) rfl hv]
  exact h
theorem u4_1 {go : GT} (hgo : go = R4 w vF) {n cs ss : Nat} {L : List Slot} {S : List Value} {H : AH} : go (n + 1) (1, L, S, H, cs, ss) = (aRecv 0 0 6 0 0 0 0 (F5 w vF) S H cs ss).bind fun r => go n (4, L, r.1, r.2.1, r.2.2.1, r.2.2.2) := by
  subst hgo
  exact s4_1
theorem t4_4f {go : GT} (hgo : go = R4 w vF) {n cs ss : Nat} {L : List Slot} {S : List Value} {H : AH} {q : QT} {x : Int32} (hc : ¬ x = 0) (h : Rsq (go n (7, L, S, H, cs, ss)) q) : Rsq (go (n + 1) (4, L, (.int x :: S), H, cs, ss)) q := by
  subst hgo
  exact res_of s4_4 (res_f hc h)
theorem t4_7 {go : GT} (hgo : go = R4 w vF) {n cs ss : Nat} {l1 : Slot} {S : List Value} {H : AH} {q : QT} {v : Value} (hv : isA v = true) (h : Rsq (go n (8, [.val v, l1], (v :: S), H, cs, ss)) q) : Rsq (go (n + 1) (7, [.val v, l1], S, H, cs, ss)) q := by
  subst hgo
  refine res_of s4_7 ?_
  rw [gA_isA (L := [.val v, l1]) (k := 0) (v := v) rfl hv]
  exact h
theorem u4_8 {go : GT} (hgo : go = R4 w vF) {n cs ss : Nat} {L : List Slot} {S : List Value} {H : AH} : go (n + 1) (8, L, S, H, cs, ss) = (aGet 0 0 S H cs ss).bind fun r => go n (11, L, r.1, r.2.1, r.2.2.1, r.2.2.2) := by
  subst hgo
  exact s4_8
theorem t4_11 {go : GT} (hgo : go = R4 w vF) {n cs ss : Nat} {l0 : Slot} {S : List Value} {H : AH} {q : QT} {v : Int32} (h : Rsq (go n (12, [l0, .val (.int v)], (.int v :: S), H, cs, ss)) q) : Rsq (go (n + 1) (11, [l0, .val (.int v)], S, H, cs, ss)) q := by
  subst hgo
  exact res_of s4_11 h
theorem u4_12 {go : GT} (hgo : go = R4 w vF) {n cs ss : Nat} {L : List Slot} {S : List Value} {H : AH} : go (n + 1) (12, L, S, H, cs, ss) = (aCall 2 6 0 0 0 0 (F6 w vF) S H cs ss).bind fun r => go n (15, L, r.1, r.2.1, r.2.2.1, r.2.2.2) := by
  subst hgo
  exact s4_12
theorem t4_15 {go : GT} (hgo : go = R4 w vF) {n cs ss : Nat} {L : List Slot} {S : List Value} {H : AH} {q : QT} {z : Int32} (h : q (some (some (.int z.toUInt32.toUInt16.toUInt32.toInt32), H))) : Rsq (go (n + 1) (15, L, (.int z :: S), H, cs, ss)) q := by
  subst hgo
  exact res_of s4_15 h
theorem f3_in {x0 : Nat} {x1 : Int32} {x2 : Int32} {x3 : Int32} {x4 : Int32} {H : AH} : (F3 w vF) [.ref x0, .int x1, .int x2, .int x3, .int x4] H = R3 w vF 124 (0, [.val (.ref x0), .val (.int x1), .val (.int x2), .val (.int x3), .val (.int x4), .unset, .unset], [], H, 0, 0) := rfl
theorem s3_0 {n cs ss : Nat} {L : List Slot} {S : List Value} {H : AH} : R3 w vF (n + 1) (0, L, S, H, cs, ss) = (gI L 1).bind fun v => R3 w vF n (1, L, .int v :: S, H, cs, ss) := s_any k3_0
theorem s3_1 {n cs ss : Nat} {L : List Slot} {S : List Value} {H : AH} : R3 w vF (n + 1) (1, L, S, H, cs, ss) = (gA L 0).bind fun v => R3 w vF n (2, L, v :: S, H, cs, ss) := s_any k3_1
theorem s3_2 {n cs ss : Nat} {L : List Slot} {S : List Value} {H : AH} : R3 w vF (n + 1) (2, L, S, H, cs, ss) = (aRecv 0 0 6 0 0 0 0 (F1 w vF) S H cs ss).bind fun r => R3 w vF n (5, L, r.1, r.2.1, r.2.2.1, r.2.2.2) := s_any k3_2
theorem s3_5 {n cs ss : Nat} {L : List Slot} {S : List Value} {H : AH} : R3 w vF (n + 1) (5, L, S, H, cs, ss) = pI S fun y S => pI S fun x r => if x < y then R3 w vF n (8, L, r, H, cs, ss) else R3 w vF n (14, L, r, H, cs, ss) := s_icmpN (Q := fun x y => x < y) (fun _ _ => h_ge) k3_5 (by decide) (by decide)
theorem s3_8 {n cs ss : Nat} {L : List Slot} {S : List Value} {H : AH} : R3 w vF (n + 1) (8, L, S, H, cs, ss) = (gA L 0).bind fun v => R3 w vF n (9, L, v :: S, H, cs, ss) := s_any k3_8
theorem s3_9 {n cs ss : Nat} {L : List Slot} {S : List Value} {H : AH} : R3 w vF (n + 1) (9, L, S, H, cs, ss) = (gI L 1).bind fun v => R3 w vF n (10, L, .int v :: S, H, cs, ss) := s_any k3_9
theorem s3_10 {n cs ss : Nat} {L : List Slot} {S : List Value} {H : AH} : R3 w vF (n + 1) (10, L, S, H, cs, ss) = (aRecv 1 0 6 0 0 0 0 (F4 w vF) S H cs ss).bind fun r => R3 w vF n (13, L, r.1, r.2.1, r.2.2.1, r.2.2.2) := s_any k3_10
theorem s3_13 {n cs ss : Nat} {L : List Slot} {S : List Value} {H : AH} : R3 w vF (n + 1) (13, L, S, H, cs, ss) = pI S fun z _ => some (some (.int z.toUInt32.toUInt16.toUInt32.toInt32), H) := s_any k3_13
theorem s3_14 {n cs ss : Nat} {L : List Slot} {S : List Value} {H : AH} : R3 w vF (n + 1) (14, L, S, H, cs, ss) = (gI L 1).bind fun v => R3 w vF n (15, L, .int v :: S, H, cs, ss) := s_any k3_14
theorem s3_15 {n cs ss : Nat} {L : List Slot} {S : List Value} {H : AH} : R3 w vF (n + 1) (15, L, S, H, cs, ss) = R3 w vF n (16, L, (.int 4 :: S), H, cs, ss) := s_any k3_15
theorem s3_16 {n cs ss : Nat} {L : List Slot} {S : List Value} {H : AH} : R3 w vF (n + 1) (16, L, S, H, cs, ss) = pI S fun y S => pI S fun x r => if x < y then R3 w vF n (19, L, r, H, cs, ss) else R3 w vF n (23, L, r, H, cs, ss) := s_icmpN (Q := fun x y => x < y) (fun _ _ => h_ge) k3_16 (by decide) (by decide)
theorem s3_19 {n cs ss : Nat} {L : List Slot} {S : List Value} {H : AH} : R3 w vF (n + 1) (19, L, S, H, cs, ss) = (gI L 3).bind fun v => R3 w vF n (20, L, .int v :: S, H, cs, ss) := s_any k3_19
theorem s3_20 {n cs ss : Nat} {L : List Slot} {S : List Value} {H : AH} : R3 w vF (n + 1) (20, L, S, H, cs, ss) = R3 w vF n (35, L, S, H, cs, ss) := s_goto k3_20 (by decide) (by decide)
theorem s3_23 {n cs ss : Nat} {L : List Slot} {S : List Value} {H : AH} : R3 w vF (n + 1) (23, L, S, H, cs, ss) = (gI L 1).bind fun v => R3 w vF n (24, L, .int v :: S, H, cs, ss) := s_any k3_23
theorem s3_24 {n cs ss : Nat} {L : List Slot} {S : List Value} {H : AH} : R3 w vF (n + 1) (24, L, S, H, cs, ss) = R3 w vF n (26, L, (.int 8 :: S), H, cs, ss) := s_any k3_24
theorem s3_26 {n cs ss : Nat} {L : List Slot} {S : List Value} {H : AH} : R3 w vF (n + 1) (26, L, S, H, cs, ss) = pI S fun y S => pI S fun x r => if x < y then R3 w vF n (29, L, r, H, cs, ss) else R3 w vF n (34, L, r, H, cs, ss) := s_icmpN (Q := fun x y => x < y) (fun _ _ => h_ge) k3_26 (by decide) (by decide)
theorem s3_29 {n cs ss : Nat} {L : List Slot} {S : List Value} {H : AH} : R3 w vF (n + 1) (29, L, S, H, cs, ss) = (gI L 4).bind fun v => R3 w vF n (31, L, .int v :: S, H, cs, ss) := s_any k3_29
theorem s3_31 {n cs ss : Nat} {L : List Slot} {S : List Value} {H : AH} : R3 w vF (n + 1) (31, L, S, H, cs, ss) = R3 w vF n (35, L, S, H, cs, ss) := s_goto k3_31 (by decide) (by decide)
theorem s3_34 {n cs ss : Nat} {L : List Slot} {S : List Value} {H : AH} : R3 w vF (n + 1) (34, L, S, H, cs, ss) = (gI L 2).bind fun v => R3 w vF n (35, L, .int v :: S, H, cs, ss) := s_any k3_34
theorem s3_35 {n cs ss : Nat} {L : List Slot} {S : List Value} {H : AH} : R3 w vF (n + 1) (35, L, S, H, cs, ss) = pI S fun x r => (st1 L 5 (.int x)).bind fun L' => R3 w vF n (37, L', r, H, cs, ss) := s_any k3_35
theorem s3_37 {n cs ss : Nat} {L : List Slot} {S : List Value} {H : AH} : R3 w vF (n + 1) (37, L, S, H, cs, ss) = (gI L 1).bind fun v => R3 w vF n (38, L, .int v :: S, H, cs, ss) := s_any k3_37
theorem s3_38 {n cs ss : Nat} {L : List Slot} {S : List Value} {H : AH} : R3 w vF (n + 1) (38, L, S, H, cs, ss) = R3 w vF n (40, L, (.int 8 :: S), H, cs, ss) := s_any k3_38
theorem s3_40 {n cs ss : Nat} {L : List Slot} {S : List Value} {H : AH} : R3 w vF (n + 1) (40, L, S, H, cs, ss) = pI S fun y S => pI S fun x r => if x < y then R3 w vF n (43, L, r, H, cs, ss) else R3 w vF n (52, L, r, H, cs, ss) := s_icmpN (Q := fun x y => x < y) (fun _ _ => h_ge) k3_40 (by decide) (by decide)
theorem s3_43 {n cs ss : Nat} {L : List Slot} {S : List Value} {H : AH} : R3 w vF (n + 1) (43, L, S, H, cs, ss) = R3 w vF n (45, L, (.int 8 :: S), H, cs, ss) := s_any k3_43
theorem s3_45 {n cs ss : Nat} {L : List Slot} {S : List Value} {H : AH} : R3 w vF (n + 1) (45, L, S, H, cs, ss) = (gI L 1).bind fun v => R3 w vF n (46, L, .int v :: S, H, cs, ss) := s_any k3_45
theorem s3_46 {n cs ss : Nat} {L : List Slot} {S : List Value} {H : AH} : R3 w vF (n + 1) (46, L, S, H, cs, ss) = R3 w vF n (47, L, (.int 3 :: S), H, cs, ss) := s_any k3_46
theorem s3_47 {n cs ss : Nat} {L : List Slot} {S : List Value} {H : AH} : R3 w vF (n + 1) (47, L, S, H, cs, ss) = pI S fun y S => pI S fun x r => R3 w vF n (48, L, .int (x &&& y) :: r, H, cs, ss) := s_any k3_47
theorem s3_48 {n cs ss : Nat} {L : List Slot} {S : List Value} {H : AH} : R3 w vF (n + 1) (48, L, S, H, cs, ss) = pI S fun y S => pI S fun x r => R3 w vF n (49, L, .int (x * y) :: r, H, cs, ss) := s_any k3_48
theorem s3_49 {n cs ss : Nat} {L : List Slot} {S : List Value} {H : AH} : R3 w vF (n + 1) (49, L, S, H, cs, ss) = R3 w vF n (59, L, S, H, cs, ss) := s_goto k3_49 (by decide) (by decide)
theorem s3_52 {n cs ss : Nat} {L : List Slot} {S : List Value} {H : AH} : R3 w vF (n + 1) (52, L, S, H, cs, ss) = R3 w vF n (54, L, (.int 8 :: S), H, cs, ss) := s_any k3_52
theorem s3_54 {n cs ss : Nat} {L : List Slot} {S : List Value} {H : AH} : R3 w vF (n + 1) (54, L, S, H, cs, ss) = (gI L 1).bind fun v => R3 w vF n (55, L, .int v :: S, H, cs, ss) := s_any k3_54
theorem s3_55 {n cs ss : Nat} {L : List Slot} {S : List Value} {H : AH} : R3 w vF (n + 1) (55, L, S, H, cs, ss) = R3 w vF n (57, L, (.int 7 :: S), H, cs, ss) := s_any k3_55
theorem s3_57 {n cs ss : Nat} {L : List Slot} {S : List Value} {H : AH} : R3 w vF (n + 1) (57, L, S, H, cs, ss) = pI S fun y S => pI S fun x r => R3 w vF n (58, L, .int (x - y) :: r, H, cs, ss) := s_any k3_57
theorem s3_58 {n cs ss : Nat} {L : List Slot} {S : List Value} {H : AH} : R3 w vF (n + 1) (58, L, S, H, cs, ss) = pI S fun y S => pI S fun x r => R3 w vF n (59, L, .int (x * y) :: r, H, cs, ss) := s_any k3_58
theorem s3_59 {n cs ss : Nat} {L : List Slot} {S : List Value} {H : AH} : R3 w vF (n + 1) (59, L, S, H, cs, ss) = pI S fun x r => (st1 L 6 (.int x)).bind fun L' => R3 w vF n (61, L', r, H, cs, ss) := s_any k3_59
theorem s3_61 {n cs ss : Nat} {L : List Slot} {S : List Value} {H : AH} : R3 w vF (n + 1) (61, L, S, H, cs, ss) = (gI L 5).bind fun v => R3 w vF n (63, L, .int v :: S, H, cs, ss) := s_any k3_61
theorem s3_63 {n cs ss : Nat} {L : List Slot} {S : List Value} {H : AH} : R3 w vF (n + 1) (63, L, S, H, cs, ss) = (gI L 6).bind fun v => R3 w vF n (65, L, .int v :: S, H, cs, ss) := s_any k3_63
theorem s3_65 {n cs ss : Nat} {L : List Slot} {S : List Value} {H : AH} : R3 w vF (n + 1) (65, L, S, H, cs, ss) = ex (Option.some Jvm.ClassFile.FieldType.char) (E3 w vF) 25 (R3 w vF n) (.iushr) 65 L S H cs ss := s_any k3_65
theorem s3_66 {n cs ss : Nat} {L : List Slot} {S : List Value} {H : AH} : R3 w vF (n + 1) (66, L, S, H, cs, ss) = R3 w vF n (69, L, (.int 255 :: S), H, cs, ss) := s_any k3_66
theorem s3_69 {n cs ss : Nat} {L : List Slot} {S : List Value} {H : AH} : R3 w vF (n + 1) (69, L, S, H, cs, ss) = pI S fun y S => pI S fun x r => R3 w vF n (70, L, .int (x &&& y) :: r, H, cs, ss) := s_any k3_69
theorem s3_70 {n cs ss : Nat} {L : List Slot} {S : List Value} {H : AH} : R3 w vF (n + 1) (70, L, S, H, cs, ss) = ex (Option.some Jvm.ClassFile.FieldType.char) (E3 w vF) 25 (R3 w vF n) (.i2c) 70 L S H cs ss := s_any k3_70
theorem s3_71 {n cs ss : Nat} {L : List Slot} {S : List Value} {H : AH} : R3 w vF (n + 1) (71, L, S, H, cs, ss) = pI S fun z _ => some (some (.int z.toUInt32.toUInt16.toUInt32.toInt32), H) := s_any k3_71
theorem t3_0 {go : GT} (hgo : go = R3 w vF) {n cs ss : Nat} {l0 l2 l3 l4 l5 l6 : Slot} {S : List Value} {H : AH} {q : QT} {v : Int32} (h : Rsq (go n (1, [l0, .val (.int v), l2, l3, l4, l5, l6], (.int v :: S), H, cs, ss)) q) : Rsq (go (n + 1) (0, [l0, .val (.int v), l2, l3, l4, l5, l6], S, H, cs, ss)) q := by
  subst hgo
  exact res_of s3_0 h
theorem t3_1 {go : GT} (hgo : go = R3 w vF) {n cs ss : Nat} {l1 l2 l3 l4 l5 l6 : Slot} {S : List Value} {H : AH} {q : QT} {v : Value} (hv : isA v = true) (h : Rsq (go n (2, [.val v, l1, l2, l3, l4, l5, l6], (v :: S), H, cs, ss)) q) : Rsq (go (n + 1) (1, [.val v, l1, l2, l3, l4, l5, l6], S, H, cs, ss)) q := by
  subst hgo
  refine res_of s3_1 ?_
  rw [gA_isA (L := [.val v, l1, l2, l3, l4, l5, l6]) (k := 0) (v := v) rfl hv]
  exact h
theorem u3_2 {go : GT} (hgo : go = R3 w vF) {n cs ss : Nat} {L : List Slot} {S : List Value} {H : AH} : go (n + 1) (2, L, S, H, cs, ss) = (aRecv 0 0 6 0 0 0 0 (F1 w vF) S H cs ss).bind fun r => go n (5, L, r.1, r.2.1, r.2.2.1, r.2.2.2) := by
  subst hgo
  exact s3_2
theorem t3_5t {go : GT} (hgo : go = R3 w vF) {n cs ss : Nat} {L : List Slot} {S : List Value} {H : AH} {q : QT} {x y : Int32} (hc : x < y) (h : Rsq (go n (8, L, S, H, cs, ss)) q) : Rsq (go (n + 1) (5, L, (.int y :: .int x :: S), H, cs, ss)) q := by
  subst hgo
  exact res_of s3_5 (res_t hc h)
theorem t3_5f {go : GT} (hgo : go = R3 w vF) {n cs ss : Nat} {L : List Slot} {S : List Value} {H : AH} {q : QT} {x y : Int32} (hc : ¬ x < y) (h : Rsq (go n (14, L, S, H, cs, ss)) q) : Rsq (go (n + 1) (5, L, (.int y :: .int x :: S), H, cs, ss)) q := by
  subst hgo
  exact res_of s3_5 (res_f hc h)
theorem t3_8 {go : GT} (hgo : go = R3 w vF) {n cs ss : Nat} {l1 l2 l3 l4 l5 l6 : Slot} {S : List Value} {H : AH} {q : QT} {v : Value} (hv : isA v = true) (h : Rsq (go n (9, [.val v, l1, l2, l3, l4, l5, l6], (v :: S), H, cs, ss)) q) : Rsq (go (n + 1) (8, [.val v, l1, l2, l3, l4, l5, l6], S, H, cs, ss)) q := by
  subst hgo
  refine res_of s3_8 ?_
  rw [gA_isA (L := [.val v, l1, l2, l3, l4, l5, l6]) (k := 0) (v := v) rfl hv]
  exact h
theorem t3_9 {go : GT} (hgo : go = R3 w vF) {n cs ss : Nat} {l0 l2 l3 l4 l5 l6 : Slot} {S : List Value} {H : AH} {q : QT} {v : Int32} (h : Rsq (go n (10, [l0, .val (.int v), l2, l3, l4, l5, l6], (.int v :: S), H, cs, ss)) q) : Rsq (go (n + 1) (9, [l0, .val (.int v), l2, l3, l4, l5, l6], S, H, cs, ss)) q := by
  subst hgo
  exact res_of s3_9 h
theorem u3_10 {go : GT} (hgo : go = R3 w vF) {n cs ss : Nat} {L : List Slot} {S : List Value} {H : AH} : go (n + 1) (10, L, S, H, cs, ss) = (aRecv 1 0 6 0 0 0 0 (F4 w vF) S H cs ss).bind fun r => go n (13, L, r.1, r.2.1, r.2.2.1, r.2.2.2) := by
  subst hgo
  exact s3_10
theorem t3_13 {go : GT} (hgo : go = R3 w vF) {n cs ss : Nat} {L : List Slot} {S : List Value} {H : AH} {q : QT} {z : Int32} (h : q (some (some (.int z.toUInt32.toUInt16.toUInt32.toInt32), H))) : Rsq (go (n + 1) (13, L, (.int z :: S), H, cs, ss)) q := by
  subst hgo
  exact res_of s3_13 h
theorem t3_14 {go : GT} (hgo : go = R3 w vF) {n cs ss : Nat} {l0 l2 l3 l4 l5 l6 : Slot} {S : List Value} {H : AH} {q : QT} {v : Int32} (h : Rsq (go n (15, [l0, .val (.int v), l2, l3, l4, l5, l6], (.int v :: S), H, cs, ss)) q) : Rsq (go (n + 1) (14, [l0, .val (.int v), l2, l3, l4, l5, l6], S, H, cs, ss)) q := by
  subst hgo
  exact res_of s3_14 h
theorem t3_15 {go : GT} (hgo : go = R3 w vF) {n cs ss : Nat} {L : List Slot} {S : List Value} {H : AH} {q : QT} (h : Rsq (go n (16, L, (.int 4 :: S), H, cs, ss)) q) : Rsq (go (n + 1) (15, L, S, H, cs, ss)) q := by
  subst hgo
  exact res_of s3_15 h
theorem t3_16t {go : GT} (hgo : go = R3 w vF) {n cs ss : Nat} {L : List Slot} {S : List Value} {H : AH} {q : QT} {x y : Int32} (hc : x < y) (h : Rsq (go n (19, L, S, H, cs, ss)) q) : Rsq (go (n + 1) (16, L, (.int y :: .int x :: S), H, cs, ss)) q := by
  subst hgo
  exact res_of s3_16 (res_t hc h)
theorem t3_16f {go : GT} (hgo : go = R3 w vF) {n cs ss : Nat} {L : List Slot} {S : List Value} {H : AH} {q : QT} {x y : Int32} (hc : ¬ x < y) (h : Rsq (go n (23, L, S, H, cs, ss)) q) : Rsq (go (n + 1) (16, L, (.int y :: .int x :: S), H, cs, ss)) q := by
  subst hgo
  exact res_of s3_16 (res_f hc h)
theorem t3_19 {go : GT} (hgo : go = R3 w vF) {n cs ss : Nat} {l0 l1 l2 l4 l5 l6 : Slot} {S : List Value} {H : AH} {q : QT} {v : Int32} (h : Rsq (go n (20, [l0, l1, l2, .val (.int v), l4, l5, l6], (.int v :: S), H, cs, ss)) q) : Rsq (go (n + 1) (19, [l0, l1, l2, .val (.int v), l4, l5, l6], S, H, cs, ss)) q := by
  subst hgo
  exact res_of s3_19 h
theorem t3_20 {go : GT} (hgo : go = R3 w vF) {n cs ss : Nat} {L : List Slot} {S : List Value} {H : AH} {q : QT} (h : Rsq (go n (35, L, S, H, cs, ss)) q) : Rsq (go (n + 1) (20, L, S, H, cs, ss)) q := by
  subst hgo
  exact res_of s3_20 h
theorem t3_23 {go : GT} (hgo : go = R3 w vF) {n cs ss : Nat} {l0 l2 l3 l4 l5 l6 : Slot} {S : List Value} {H : AH} {q : QT} {v : Int32} (h : Rsq (go n (24, [l0, .val (.int v), l2, l3, l4, l5, l6], (.int v :: S), H, cs, ss)) q) : Rsq (go (n + 1) (23, [l0, .val (.int v), l2, l3, l4, l5, l6], S, H, cs, ss)) q := by
  subst hgo
  exact res_of s3_23 h
theorem t3_24 {go : GT} (hgo : go = R3 w vF) {n cs ss : Nat} {L : List Slot} {S : List Value} {H : AH} {q : QT} (h : Rsq (go n (26, L, (.int 8 :: S), H, cs, ss)) q) : Rsq (go (n + 1) (24, L, S, H, cs, ss)) q := by
  subst hgo
  exact res_of s3_24 h
theorem t3_26t {go : GT} (hgo : go = R3 w vF) {n cs ss : Nat} {L : List Slot} {S : List Value} {H : AH} {q : QT} {x y : Int32} (hc : x < y) (h : Rsq (go n (29, L, S, H, cs, ss)) q) : Rsq (go (n + 1) (26, L, (.int y :: .int x :: S), H, cs, ss)) q := by
  subst hgo
  exact res_of s3_26 (res_t hc h)
theorem t3_26f {go : GT} (hgo : go = R3 w vF) {n cs ss : Nat} {L : List Slot} {S : List Value} {H : AH} {q : QT} {x y : Int32} (hc : ¬ x < y) (h : Rsq (go n (34, L, S, H, cs, ss)) q) : Rsq (go (n + 1) (26, L, (.int y :: .int x :: S), H, cs, ss)) q := by
  subst hgo
  exact res_of s3_26 (res_f hc h)
theorem t3_29 {go : GT} (hgo : go = R3 w vF) {n cs ss : Nat} {l0 l1 l2 l3 l5 l6 : Slot} {S : List Value} {H : AH} {q : QT} {v : Int32} (h : Rsq (go n (31, [l0, l1, l2, l3, .val (.int v), l5, l6], (.int v :: S), H, cs, ss)) q) : Rsq (go (n + 1) (29, [l0, l1, l2, l3, .val (.int v), l5, l6], S, H, cs, ss)) q := by
  subst hgo
  exact res_of s3_29 h
theorem t3_31 {go : GT} (hgo : go = R3 w vF) {n cs ss : Nat} {L : List Slot} {S : List Value} {H : AH} {q : QT} (h : Rsq (go n (35, L, S, H, cs, ss)) q) : Rsq (go (n + 1) (31, L, S, H, cs, ss)) q := by
  subst hgo
  exact res_of s3_31 h
theorem t3_34 {go : GT} (hgo : go = R3 w vF) {n cs ss : Nat} {l0 l1 l3 l4 l5 l6 : Slot} {S : List Value} {H : AH} {q : QT} {v : Int32} (h : Rsq (go n (35, [l0, l1, .val (.int v), l3, l4, l5, l6], (.int v :: S), H, cs, ss)) q) : Rsq (go (n + 1) (34, [l0, l1, .val (.int v), l3, l4, l5, l6], S, H, cs, ss)) q := by
  subst hgo
  exact res_of s3_34 h
theorem t3_35 {go : GT} (hgo : go = R3 w vF) {n cs ss : Nat} {l0 l1 l2 l3 l4 l5 l6 : Slot} {S : List Value} {H : AH} {q : QT} {x : Int32} (hk : so l5 = true) (h : Rsq (go n (37, [l0, l1, l2, l3, l4, .val (.int x), l6], S, H, cs, ss)) q) : Rsq (go (n + 1) (35, [l0, l1, l2, l3, l4, l5, l6], (.int x :: S), H, cs, ss)) q := by
  subst hgo
  refine res_of s3_35 ?_
  rw [pI_int, st1_so (L := [l0, l1, l2, l3, l4, l5, l6]) (k := 5) (l := l5) rfl hk]
  exact h
theorem t3_37 {go : GT} (hgo : go = R3 w vF) {n cs ss : Nat} {l0 l2 l3 l4 l5 l6 : Slot} {S : List Value} {H : AH} {q : QT} {v : Int32} (h : Rsq (go n (38, [l0, .val (.int v), l2, l3, l4, l5, l6], (.int v :: S), H, cs, ss)) q) : Rsq (go (n + 1) (37, [l0, .val (.int v), l2, l3, l4, l5, l6], S, H, cs, ss)) q := by
  subst hgo
  exact res_of s3_37 h
theorem t3_38 {go : GT} (hgo : go = R3 w vF) {n cs ss : Nat} {L : List Slot} {S : List Value} {H : AH} {q : QT} (h : Rsq (go n (40, L, (.int 8 :: S), H, cs, ss)) q) : Rsq (go (n + 1) (38, L, S, H, cs, ss)) q := by
  subst hgo
  exact res_of s3_38 h
theorem t3_40t {go : GT} (hgo : go = R3 w vF) {n cs ss : Nat} {L : List Slot} {S : List Value} {H : AH} {q : QT} {x y : Int32} (hc : x < y) (h : Rsq (go n (43, L, S, H, cs, ss)) q) : Rsq (go (n + 1) (40, L, (.int y :: .int x :: S), H, cs, ss)) q := by
  subst hgo
  exact res_of s3_40 (res_t hc h)
theorem t3_40f {go : GT} (hgo : go = R3 w vF) {n cs ss : Nat} {L : List Slot} {S : List Value} {H : AH} {q : QT} {x y : Int32} (hc : ¬ x < y) (h : Rsq (go n (52, L, S, H, cs, ss)) q) : Rsq (go (n + 1) (40, L, (.int y :: .int x :: S), H, cs, ss)) q := by
  subst hgo
  exact res_of s3_40 (res_f hc h)
theorem t3_43 {go : GT} (hgo : go = R3 w vF) {n cs ss : Nat} {L : List Slot} {S : List Value} {H : AH} {q : QT} (h : Rsq (go n (45, L, (.int 8 :: S), H, cs, ss)) q) : Rsq (go (n + 1) (43, L, S, H, cs, ss)) q := by
  subst hgo
  exact res_of s3_43 h
theorem t3_45 {go : GT} (hgo : go = R3 w vF) {n cs ss : Nat} {l0 l2 l3 l4 l5 l6 : Slot} {S : List Value} {H : AH} {q : QT} {v : Int32} (h : Rsq (go n (46, [l0, .val (.int v), l2, l3, l4, l5, l6], (.int v :: S), H, cs, ss)) q) : Rsq (go (n + 1) (45, [l0, .val (.int v), l2, l3, l4, l5, l6], S, H, cs, ss)) q := by
  subst hgo
  exact res_of s3_45 h
theorem t3_46 {go : GT} (hgo : go = R3 w vF) {n cs ss : Nat} {L : List Slot} {S : List Value} {H : AH} {q : QT} (h : Rsq (go n (47, L, (.int 3 :: S), H, cs, ss)) q) : Rsq (go (n + 1) (46, L, S, H, cs, ss)) q := by
  subst hgo
  exact res_of s3_46 h
theorem t3_47 {go : GT} (hgo : go = R3 w vF) {n cs ss : Nat} {L : List Slot} {S : List Value} {H : AH} {q : QT} {x y : Int32} (h : Rsq (go n (48, L, (.int (x &&& y) :: S), H, cs, ss)) q) : Rsq (go (n + 1) (47, L, (.int y :: .int x :: S), H, cs, ss)) q := by
  subst hgo
  exact res_of s3_47 h
theorem t3_48 {go : GT} (hgo : go = R3 w vF) {n cs ss : Nat} {L : List Slot} {S : List Value} {H : AH} {q : QT} {x y : Int32} (h : Rsq (go n (49, L, (.int (x * y) :: S), H, cs, ss)) q) : Rsq (go (n + 1) (48, L, (.int y :: .int x :: S), H, cs, ss)) q := by
  subst hgo
  exact res_of s3_48 h
theorem t3_49 {go : GT} (hgo : go = R3 w vF) {n cs ss : Nat} {L : List Slot} {S : List Value} {H : AH} {q : QT} (h : Rsq (go n (59, L, S, H, cs, ss)) q) : Rsq (go (n + 1) (49, L, S, H, cs, ss)) q := by
  subst hgo
  exact res_of s3_49 h
theorem t3_52 {go : GT} (hgo : go = R3 w vF) {n cs ss : Nat} {L : List Slot} {S : List Value} {H : AH} {q : QT} (h : Rsq (go n (54, L, (.int 8 :: S), H, cs, ss)) q) : Rsq (go (n + 1) (52, L, S, H, cs, ss)) q := by
  subst hgo
  exact res_of s3_52 h
theorem t3_54 {go : GT} (hgo : go = R3 w vF) {n cs ss : Nat} {l0 l2 l3 l4 l5 l6 : Slot} {S : List Value} {H : AH} {q : QT} {v : Int32} (h : Rsq (go n (55, [l0, .val (.int v), l2, l3, l4, l5, l6], (.int v :: S), H, cs, ss)) q) : Rsq (go (n + 1) (54, [l0, .val (.int v), l2, l3, l4, l5, l6], S, H, cs, ss)) q := by
  subst hgo
  exact res_of s3_54 h
theorem t3_55 {go : GT} (hgo : go = R3 w vF) {n cs ss : Nat} {L : List Slot} {S : List Value} {H : AH} {q : QT} (h : Rsq (go n (57, L, (.int 7 :: S), H, cs, ss)) q) : Rsq (go (n + 1) (55, L, S, H, cs, ss)) q := by
  subst hgo
  exact res_of s3_55 h
theorem t3_57 {go : GT} (hgo : go = R3 w vF) {n cs ss : Nat} {L : List Slot} {S : List Value} {H : AH} {q : QT} {x y : Int32} (h : Rsq (go n (58, L, (.int (x - y) :: S), H, cs, ss)) q) : Rsq (go (n + 1) (57, L, (.int y :: .int x :: S), H, cs, ss)) q := by
  subst hgo
  exact res_of s3_57 h
theorem t3_58 {go : GT} (hgo : go = R3 w vF) {n cs ss : Nat} {L : List Slot} {S : List Value} {H : AH} {q : QT} {x y : Int32} (h : Rsq (go n (59, L, (.int (x * y) :: S), H, cs, ss)) q) : Rsq (go (n + 1) (58, L, (.int y :: .int x :: S), H, cs, ss)) q := by
  subst hgo
  exact res_of s3_58 h
theorem t3_59 {go : GT} (hgo : go = R3 w vF) {n cs ss : Nat} {l0 l1 l2 l3 l4 l5 l6 : Slot} {S : List Value} {H : AH} {q : QT} {x : Int32} (hk : so l6 = true) (h : Rsq (go n (61, [l0, l1, l2, l3, l4, l5, .val (.int x)], S, H, cs, ss)) q) : Rsq (go (n + 1) (59, [l0, l1, l2, l3, l4, l5, l6], (.int x :: S), H, cs, ss)) q := by
  subst hgo
  refine res_of s3_59 ?_
  rw [pI_int, st1_so (L := [l0, l1, l2, l3, l4, l5, l6]) (k := 6) (l := l6) rfl hk]
  exact h
theorem t3_61 {go : GT} (hgo : go = R3 w vF) {n cs ss : Nat} {l0 l1 l2 l3 l4 l6 : Slot} {S : List Value} {H : AH} {q : QT} {v : Int32} (h : Rsq (go n (63, [l0, l1, l2, l3, l4, .val (.int v), l6], (.int v :: S), H, cs, ss)) q) : Rsq (go (n + 1) (61, [l0, l1, l2, l3, l4, .val (.int v), l6], S, H, cs, ss)) q := by
  subst hgo
  exact res_of s3_61 h
theorem t3_63 {go : GT} (hgo : go = R3 w vF) {n cs ss : Nat} {l0 l1 l2 l3 l4 l5 : Slot} {S : List Value} {H : AH} {q : QT} {v : Int32} (h : Rsq (go n (65, [l0, l1, l2, l3, l4, l5, .val (.int v)], (.int v :: S), H, cs, ss)) q) : Rsq (go (n + 1) (63, [l0, l1, l2, l3, l4, l5, .val (.int v)], S, H, cs, ss)) q := by
  subst hgo
  exact res_of s3_63 h
theorem t3_65 {go : GT} (hgo : go = R3 w vF) {n cs ss : Nat} {L : List Slot} {S : List Value} {H : AH} {q : QT} {x y : Int32} (h : Rsq (go n (66, L, (.int ((x.toUInt32 >>> (y &&& 31).toUInt32).toInt32) :: S), H, cs, ss)) q) : Rsq (go (n + 1) (65, L, (.int y :: .int x :: S), H, cs, ss)) q := by
  subst hgo
  exact res_of s3_65 h
theorem t3_66 {go : GT} (hgo : go = R3 w vF) {n cs ss : Nat} {L : List Slot} {S : List Value} {H : AH} {q : QT} (h : Rsq (go n (69, L, (.int 255 :: S), H, cs, ss)) q) : Rsq (go (n + 1) (66, L, S, H, cs, ss)) q := by
  subst hgo
  exact res_of s3_66 h
theorem t3_69 {go : GT} (hgo : go = R3 w vF) {n cs ss : Nat} {L : List Slot} {S : List Value} {H : AH} {q : QT} {x y : Int32} (h : Rsq (go n (70, L, (.int (x &&& y) :: S), H, cs, ss)) q) : Rsq (go (n + 1) (69, L, (.int y :: .int x :: S), H, cs, ss)) q := by
  subst hgo
  exact res_of s3_69 h
theorem t3_70 {go : GT} (hgo : go = R3 w vF) {n cs ss : Nat} {L : List Slot} {S : List Value} {H : AH} {q : QT} {x : Int32} (h : Rsq (go n (71, L, (.int (x.toUInt32.toUInt16.toUInt32.toInt32) :: S), H, cs, ss)) q) : Rsq (go (n + 1) (70, L, (.int x :: S), H, cs, ss)) q := by
  subst hgo
  exact res_of s3_70 h
theorem t3_71 {go : GT} (hgo : go = R3 w vF) {n cs ss : Nat} {L : List Slot} {S : List Value} {H : AH} {q : QT} {z : Int32} (h : q (some (some (.int z.toUInt32.toUInt16.toUInt32.toInt32), H))) : Rsq (go (n + 1) (71, L, (.int z :: S), H, cs, ss)) q := by
  subst hgo
  exact res_of s3_71 h
theorem f12_in {x0 : Nat} {x1 : Int32} {x2 : Nat} {x3 : Int32} {x4 : Int32} {H : AH} : (F12 w vF) [.ref x0, .int x1, .ref x2, .int x3, .int x4] H = R12 w vF 300 (0, [.val (.ref x0), .val (.int x1), .val (.ref x2), .val (.int x3), .val (.int x4), .unset, .unset], [], H, 0, 0) := rfl
theorem s12_0 {n cs ss : Nat} {L : List Slot} {S : List Value} {H : AH} : R12 w vF (n + 1) (0, L, S, H, cs, ss) = R12 w vF n (1, L, (.int 0 :: S), H, cs, ss) := s_any k12_0
theorem s12_1 {n cs ss : Nat} {L : List Slot} {S : List Value} {H : AH} : R12 w vF (n + 1) (1, L, S, H, cs, ss) = pI S fun x r => (st1 L 5 (.int x)).bind fun L' => R12 w vF n (3, L', r, H, cs, ss) := s_any k12_1
theorem s12_3 {n cs ss : Nat} {L : List Slot} {S : List Value} {H : AH} : R12 w vF (n + 1) (3, L, S, H, cs, ss) = (gI L 5).bind fun v => R12 w vF n (5, L, .int v :: S, H, cs, ss) := s_any k12_3
theorem s12_5 {n cs ss : Nat} {L : List Slot} {S : List Value} {H : AH} : R12 w vF (n + 1) (5, L, S, H, cs, ss) = (gI L 4).bind fun v => R12 w vF n (7, L, .int v :: S, H, cs, ss) := s_any k12_5
theorem s12_7 {n cs ss : Nat} {L : List Slot} {S : List Value} {H : AH} : R12 w vF (n + 1) (7, L, S, H, cs, ss) = pI S fun y S => pI S fun x r => if x < y then R12 w vF n (10, L, r, H, cs, ss) else R12 w vF n (44, L, r, H, cs, ss) := s_icmpN (Q := fun x y => x < y) (fun _ _ => h_ge) k12_7 (by decide) (by decide)
theorem s12_10 {n cs ss : Nat} {L : List Slot} {S : List Value} {H : AH} : R12 w vF (n + 1) (10, L, S, H, cs, ss) = (gA L 0).bind fun v => R12 w vF n (11, L, v :: S, H, cs, ss) := s_any k12_10
theorem s12_11 {n cs ss : Nat} {L : List Slot} {S : List Value} {H : AH} : R12 w vF (n + 1) (11, L, S, H, cs, ss) = (gI L 1).bind fun v => R12 w vF n (12, L, .int v :: S, H, cs, ss) := s_any k12_11
theorem s12_12 {n cs ss : Nat} {L : List Slot} {S : List Value} {H : AH} : R12 w vF (n + 1) (12, L, S, H, cs, ss) = ex (Option.some Jvm.ClassFile.FieldType.int) (E12 w vF) 25 (R12 w vF n) (.caload) 12 L S H cs ss := s_any k12_12
theorem s12_13 {n cs ss : Nat} {L : List Slot} {S : List Value} {H : AH} : R12 w vF (n + 1) (13, L, S, H, cs, ss) = pI S fun x r => (st1 L 6 (.int x)).bind fun L' => R12 w vF n (15, L', r, H, cs, ss) := s_any k12_13
theorem s12_15 {n cs ss : Nat} {L : List Slot} {S : List Value} {H : AH} : R12 w vF (n + 1) (15, L, S, H, cs, ss) = (gI L 6).bind fun v => R12 w vF n (17, L, .int v :: S, H, cs, ss) := s_any k12_15
theorem s12_17 {n cs ss : Nat} {L : List Slot} {S : List Value} {H : AH} : R12 w vF (n + 1) (17, L, S, H, cs, ss) = R12 w vF n (20, L, (.int 255 :: S), H, cs, ss) := s_any k12_17
theorem s12_20 {n cs ss : Nat} {L : List Slot} {S : List Value} {H : AH} : R12 w vF (n + 1) (20, L, S, H, cs, ss) = pI S fun y S => pI S fun x r => if y < x then R12 w vF n (23, L, r, H, cs, ss) else R12 w vF n (26, L, r, H, cs, ss) := s_icmpN (Q := fun x y => y < x) (fun _ _ => h_le) k12_20 (by decide) (by decide)
theorem s12_26 {n cs ss : Nat} {L : List Slot} {S : List Value} {H : AH} : R12 w vF (n + 1) (26, L, S, H, cs, ss) = (gA L 2).bind fun v => R12 w vF n (27, L, v :: S, H, cs, ss) := s_any k12_26
theorem s12_27 {n cs ss : Nat} {L : List Slot} {S : List Value} {H : AH} : R12 w vF (n + 1) (27, L, S, H, cs, ss) = (gI L 3).bind fun v => R12 w vF n (28, L, .int v :: S, H, cs, ss) := s_any k12_27
theorem s12_28 {n cs ss : Nat} {L : List Slot} {S : List Value} {H : AH} : R12 w vF (n + 1) (28, L, S, H, cs, ss) = (gI L 6).bind fun v => R12 w vF n (30, L, .int v :: S, H, cs, ss) := s_any k12_28
theorem s12_30 {n cs ss : Nat} {L : List Slot} {S : List Value} {H : AH} : R12 w vF (n + 1) (30, L, S, H, cs, ss) = ex (Option.some Jvm.ClassFile.FieldType.int) (E12 w vF) 25 (R12 w vF n) (.i2b) 30 L S H cs ss := s_any k12_30
theorem s12_31 {n cs ss : Nat} {L : List Slot} {S : List Value} {H : AH} : R12 w vF (n + 1) (31, L, S, H, cs, ss) = ex (Option.some Jvm.ClassFile.FieldType.int) (E12 w vF) 25 (R12 w vF n) (.bastore) 31 L S H cs ss := s_any k12_31
theorem s12_32 {n cs ss : Nat} {L : List Slot} {S : List Value} {H : AH} : R12 w vF (n + 1) (32, L, S, H, cs, ss) = (gI L 1).bind fun v => (st1 L 1 (.int (v + 1))).bind fun L' => R12 w vF n (35, L', S, H, cs, ss) := s_any k12_32
theorem s12_35 {n cs ss : Nat} {L : List Slot} {S : List Value} {H : AH} : R12 w vF (n + 1) (35, L, S, H, cs, ss) = (gI L 3).bind fun v => (st1 L 3 (.int (v + 1))).bind fun L' => R12 w vF n (38, L', S, H, cs, ss) := s_any k12_35
theorem s12_38 {n cs ss : Nat} {L : List Slot} {S : List Value} {H : AH} : R12 w vF (n + 1) (38, L, S, H, cs, ss) = (gI L 5).bind fun v => (st1 L 5 (.int (v + 1))).bind fun L' => R12 w vF n (41, L', S, H, cs, ss) := s_any k12_38
theorem s12_41 {n cs ss : Nat} {L : List Slot} {S : List Value} {H : AH} : R12 w vF (n + 1) (41, L, S, H, cs, ss) = R12 w vF n (3, L, S, H, cs, ss) := s_goto k12_41 (by decide) (by decide)
theorem s12_44 {n cs ss : Nat} {L : List Slot} {S : List Value} {H : AH} : R12 w vF (n + 1) (44, L, S, H, cs, ss) = (gI L 4).bind fun v => R12 w vF n (46, L, .int v :: S, H, cs, ss) := s_any k12_44
theorem s12_46 {n cs ss : Nat} {L : List Slot} {S : List Value} {H : AH} : R12 w vF (n + 1) (46, L, S, H, cs, ss) = pI S fun z _ => some (some (.int z), H) := s_any k12_46
theorem t12_0 {go : GT} (hgo : go = R12 w vF) {n cs ss : Nat} {L : List Slot} {S : List Value} {H : AH} {q : QT} (h : Rsq (go n (1, L, (.int 0 :: S), H, cs, ss)) q) : Rsq (go (n + 1) (0, L, S, H, cs, ss)) q := by
  subst hgo
  exact res_of s12_0 h
theorem t12_1 {go : GT} (hgo : go = R12 w vF) {n cs ss : Nat} {l0 l1 l2 l3 l4 l5 l6 : Slot} {S : List Value} {H : AH} {q : QT} {x : Int32} (hk : so l5 = true) (h : Rsq (go n (3, [l0, l1, l2, l3, l4, .val (.int x), l6], S, H, cs, ss)) q) : Rsq (go (n + 1) (1, [l0, l1, l2, l3, l4, l5, l6], (.int x :: S), H, cs, ss)) q := by
  subst hgo
  refine res_of s12_1 ?_
  rw [pI_int, st1_so (L := [l0, l1, l2, l3, l4, l5, l6]) (k := 5) (l := l5) rfl hk]
  exact h
theorem t12_3 {go : GT} (hgo : go = R12 w vF) {n cs ss : Nat} {l0 l1 l2 l3 l4 l6 : Slot} {S : List Value} {H : AH} {q : QT} {v : Int32} (h : Rsq (go n (5, [l0, l1, l2, l3, l4, .val (.int v), l6], (.int v :: S), H, cs, ss)) q) : Rsq (go (n + 1) (3, [l0, l1, l2, l3, l4, .val (.int v), l6], S, H, cs, ss)) q := by
  subst hgo
  exact res_of s12_3 h
theorem t12_5 {go : GT} (hgo : go = R12 w vF) {n cs ss : Nat} {l0 l1 l2 l3 l5 l6 : Slot} {S : List Value} {H : AH} {q : QT} {v : Int32} (h : Rsq (go n (7, [l0, l1, l2, l3, .val (.int v), l5, l6], (.int v :: S), H, cs, ss)) q) : Rsq (go (n + 1) (5, [l0, l1, l2, l3, .val (.int v), l5, l6], S, H, cs, ss)) q := by
  subst hgo
  exact res_of s12_5 h
theorem t12_7t {go : GT} (hgo : go = R12 w vF) {n cs ss : Nat} {L : List Slot} {S : List Value} {H : AH} {q : QT} {x y : Int32} (hc : x < y) (h : Rsq (go n (10, L, S, H, cs, ss)) q) : Rsq (go (n + 1) (7, L, (.int y :: .int x :: S), H, cs, ss)) q := by
  subst hgo
  exact res_of s12_7 (res_t hc h)
theorem t12_7f {go : GT} (hgo : go = R12 w vF) {n cs ss : Nat} {L : List Slot} {S : List Value} {H : AH} {q : QT} {x y : Int32} (hc : ¬ x < y) (h : Rsq (go n (44, L, S, H, cs, ss)) q) : Rsq (go (n + 1) (7, L, (.int y :: .int x :: S), H, cs, ss)) q := by
  subst hgo
  exact res_of s12_7 (res_f hc h)
theorem t12_10 {go : GT} (hgo : go = R12 w vF) {n cs ss : Nat} {l1 l2 l3 l4 l5 l6 : Slot} {S : List Value} {H : AH} {q : QT} {v : Value} (hv : isA v = true) (h : Rsq (go n (11, [.val v, l1, l2, l3, l4, l5, l6], (v :: S), H, cs, ss)) q) : Rsq (go (n + 1) (10, [.val v, l1, l2, l3, l4, l5, l6], S, H, cs, ss)) q := by
  subst hgo
  refine res_of s12_10 ?_
  rw [gA_isA (L := [.val v, l1, l2, l3, l4, l5, l6]) (k := 0) (v := v) rfl hv]
  exact h
theorem t12_11 {go : GT} (hgo : go = R12 w vF) {n cs ss : Nat} {l0 l2 l3 l4 l5 l6 : Slot} {S : List Value} {H : AH} {q : QT} {v : Int32} (h : Rsq (go n (12, [l0, .val (.int v), l2, l3, l4, l5, l6], (.int v :: S), H, cs, ss)) q) : Rsq (go (n + 1) (11, [l0, .val (.int v), l2, l3, l4, l5, l6], S, H, cs, ss)) q := by
  subst hgo
  exact res_of s12_11 h
theorem u12_12 {go : GT} (hgo : go = R12 w vF) {n cs ss : Nat} {L : List Slot} {S : List Value} {H : AH} : go (n + 1) (12, L, S, H, cs, ss) = ex (Option.some Jvm.ClassFile.FieldType.int) (E12 w vF) 25 (go n) (.caload) 12 L S H cs ss := by
  subst hgo
  exact s12_12
theorem t12_13 {go : GT} (hgo : go = R12 w vF) {n cs ss : Nat} {l0 l1 l2 l3 l4 l5 l6 : Slot} {S : List Value} {H : AH} {q : QT} {x : Int32} (hk : so l6 = true) (h : Rsq (go n (15, [l0, l1, l2, l3, l4, l5, .val (.int x)], S, H, cs, ss)) q) : Rsq (go (n + 1) (13, [l0, l1, l2, l3, l4, l5, l6], (.int x :: S), H, cs, ss)) q := by
  subst hgo
  refine res_of s12_13 ?_
  rw [pI_int, st1_so (L := [l0, l1, l2, l3, l4, l5, l6]) (k := 6) (l := l6) rfl hk]
  exact h
theorem t12_15 {go : GT} (hgo : go = R12 w vF) {n cs ss : Nat} {l0 l1 l2 l3 l4 l5 : Slot} {S : List Value} {H : AH} {q : QT} {v : Int32} (h : Rsq (go n (17, [l0, l1, l2, l3, l4, l5, .val (.int v)], (.int v :: S), H, cs, ss)) q) : Rsq (go (n + 1) (15, [l0, l1, l2, l3, l4, l5, .val (.int v)], S, H, cs, ss)) q := by
  subst hgo
  exact res_of s12_15 h
theorem t12_17 {go : GT} (hgo : go = R12 w vF) {n cs ss : Nat} {L : List Slot} {S : List Value} {H : AH} {q : QT} (h : Rsq (go n (20, L, (.int 255 :: S), H, cs, ss)) q) : Rsq (go (n + 1) (17, L, S, H, cs, ss)) q := by
  subst hgo
  exact res_of s12_17 h
theorem t12_20f {go : GT} (hgo : go = R12 w vF) {n cs ss : Nat} {L : List Slot} {S : List Value} {H : AH} {q : QT} {x y : Int32} (hc : ¬ y < x) (h : Rsq (go n (26, L, S, H, cs, ss)) q) : Rsq (go (n + 1) (20, L, (.int y :: .int x :: S), H, cs, ss)) q := by
  subst hgo
  exact res_of s12_20 (res_f hc h)
theorem t12_26 {go : GT} (hgo : go = R12 w vF) {n cs ss : Nat} {l0 l1 l3 l4 l5 l6 : Slot} {S : List Value} {H : AH} {q : QT} {v : Value} (hv : isA v = true) (h : Rsq (go n (27, [l0, l1, .val v, l3, l4, l5, l6], (v :: S), H, cs, ss)) q) : Rsq (go (n + 1) (26, [l0, l1, .val v, l3, l4, l5, l6], S, H, cs, ss)) q := by
  subst hgo
  refine res_of s12_26 ?_
  rw [gA_isA (L := [l0, l1, .val v, l3, l4, l5, l6]) (k := 2) (v := v) rfl hv]
  exact h
theorem t12_27 {go : GT} (hgo : go = R12 w vF) {n cs ss : Nat} {l0 l1 l2 l4 l5 l6 : Slot} {S : List Value} {H : AH} {q : QT} {v : Int32} (h : Rsq (go n (28, [l0, l1, l2, .val (.int v), l4, l5, l6], (.int v :: S), H, cs, ss)) q) : Rsq (go (n + 1) (27, [l0, l1, l2, .val (.int v), l4, l5, l6], S, H, cs, ss)) q := by
  subst hgo
  exact res_of s12_27 h
theorem t12_28 {go : GT} (hgo : go = R12 w vF) {n cs ss : Nat} {l0 l1 l2 l3 l4 l5 : Slot} {S : List Value} {H : AH} {q : QT} {v : Int32} (h : Rsq (go n (30, [l0, l1, l2, l3, l4, l5, .val (.int v)], (.int v :: S), H, cs, ss)) q) : Rsq (go (n + 1) (28, [l0, l1, l2, l3, l4, l5, .val (.int v)], S, H, cs, ss)) q := by
  subst hgo
  exact res_of s12_28 h
theorem t12_30 {go : GT} (hgo : go = R12 w vF) {n cs ss : Nat} {L : List Slot} {S : List Value} {H : AH} {q : QT} {x : Int32} (h : Rsq (go n (31, L, (.int (x.toInt8.toInt32) :: S), H, cs, ss)) q) : Rsq (go (n + 1) (30, L, (.int x :: S), H, cs, ss)) q := by
  subst hgo
  exact res_of s12_30 h
theorem u12_31 {go : GT} (hgo : go = R12 w vF) {n cs ss : Nat} {L : List Slot} {S : List Value} {H : AH} : go (n + 1) (31, L, S, H, cs, ss) = ex (Option.some Jvm.ClassFile.FieldType.int) (E12 w vF) 25 (go n) (.bastore) 31 L S H cs ss := by
  subst hgo
  exact s12_31
theorem t12_32 {go : GT} (hgo : go = R12 w vF) {n cs ss : Nat} {l0 l2 l3 l4 l5 l6 : Slot} {S : List Value} {H : AH} {q : QT} {v : Int32} (h : Rsq (go n (35, [l0, .val (.int (v + 1)), l2, l3, l4, l5, l6], S, H, cs, ss)) q) : Rsq (go (n + 1) (32, [l0, .val (.int v), l2, l3, l4, l5, l6], S, H, cs, ss)) q := by
  subst hgo
  exact res_of s12_32 h
theorem t12_35 {go : GT} (hgo : go = R12 w vF) {n cs ss : Nat} {l0 l1 l2 l4 l5 l6 : Slot} {S : List Value} {H : AH} {q : QT} {v : Int32} (h : Rsq (go n (38, [l0, l1, l2, .val (.int (v + 1)), l4, l5, l6], S, H, cs, ss)) q) : Rsq (go (n + 1) (35, [l0, l1, l2, .val (.int v), l4, l5, l6], S, H, cs, ss)) q := by
  subst hgo
  exact res_of s12_35 h
theorem t12_38 {go : GT} (hgo : go = R12 w vF) {n cs ss : Nat} {l0 l1 l2 l3 l4 l6 : Slot} {S : List Value} {H : AH} {q : QT} {v : Int32} (h : Rsq (go n (41, [l0, l1, l2, l3, l4, .val (.int (v + 1)), l6], S, H, cs, ss)) q) : Rsq (go (n + 1) (38, [l0, l1, l2, l3, l4, .val (.int v), l6], S, H, cs, ss)) q := by
  subst hgo
  exact res_of s12_38 h
theorem t12_41 {go : GT} (hgo : go = R12 w vF) {n cs ss : Nat} {L : List Slot} {S : List Value} {H : AH} {q : QT} (h : Rsq (go n (3, L, S, H, cs, ss)) q) : Rsq (go (n + 1) (41, L, S, H, cs, ss)) q := by
  subst hgo
  exact res_of s12_41 h
theorem t12_44 {go : GT} (hgo : go = R12 w vF) {n cs ss : Nat} {l0 l1 l2 l3 l5 l6 : Slot} {S : List Value} {H : AH} {q : QT} {v : Int32} (h : Rsq (go n (46, [l0, l1, l2, l3, .val (.int v), l5, l6], (.int v :: S), H, cs, ss)) q) : Rsq (go (n + 1) (44, [l0, l1, l2, l3, .val (.int v), l5, l6], S, H, cs, ss)) q := by
  subst hgo
  exact res_of s12_44 h
theorem t12_46 {go : GT} (hgo : go = R12 w vF) {n cs ss : Nat} {L : List Slot} {S : List Value} {H : AH} {q : QT} {z : Int32} (h : q (some (some (.int z), H))) : Rsq (go (n + 1) (46, L, (.int z :: S), H, cs, ss)) q := by
  subst hgo
  exact res_of s12_46 h
theorem f11_in {x0 : Nat} {x1 : Int32} {x2 : Int32} {H : AH} : (F11 w vF) [.ref x0, .int x1, .int x2] H = R11 w vF 110 (0, [.val (.ref x0), .val (.int x1), .val (.int x2), .unset, .unset, .unset], [], H, 0, 0) := rfl
theorem s11_0 {n cs ss : Nat} {L : List Slot} {S : List Value} {H : AH} : R11 w vF (n + 1) (0, L, S, H, cs, ss) = (gI L 2).bind fun v => R11 w vF n (1, L, .int v :: S, H, cs, ss) := s_any k11_0
theorem s11_1 {n cs ss : Nat} {L : List Slot} {S : List Value} {H : AH} : R11 w vF (n + 1) (1, L, S, H, cs, ss) = (aArr .byte 1 11 S H cs ss).bind fun r => R11 w vF n (3, L, r.1, r.2.1, r.2.2.1, r.2.2.2) := s_any k11_1
theorem s11_3 {n cs ss : Nat} {L : List Slot} {S : List Value} {H : AH} : R11 w vF (n + 1) (3, L, S, H, cs, ss) = pA S fun x r => (st1 L 3 x).bind fun L' => R11 w vF n (4, L', r, H, cs, ss) := s_any k11_3
theorem s11_4 {n cs ss : Nat} {L : List Slot} {S : List Value} {H : AH} : R11 w vF (n + 1) (4, L, S, H, cs, ss) = (gA L 0).bind fun v => R11 w vF n (5, L, v :: S, H, cs, ss) := s_any k11_4
theorem s11_5 {n cs ss : Nat} {L : List Slot} {S : List Value} {H : AH} : R11 w vF (n + 1) (5, L, S, H, cs, ss) = (gI L 1).bind fun v => R11 w vF n (6, L, .int v :: S, H, cs, ss) := s_any k11_5
theorem s11_6 {n cs ss : Nat} {L : List Slot} {S : List Value} {H : AH} : R11 w vF (n + 1) (6, L, S, H, cs, ss) = (gA L 3).bind fun v => R11 w vF n (7, L, v :: S, H, cs, ss) := s_any k11_6
theorem s11_7 {n cs ss : Nat} {L : List Slot} {S : List Value} {H : AH} : R11 w vF (n + 1) (7, L, S, H, cs, ss) = R11 w vF n (8, L, (.int 0 :: S), H, cs, ss) := s_any k11_7
theorem s11_8 {n cs ss : Nat} {L : List Slot} {S : List Value} {H : AH} : R11 w vF (n + 1) (8, L, S, H, cs, ss) = (gI L 2).bind fun v => R11 w vF n (9, L, .int v :: S, H, cs, ss) := s_any k11_8
theorem s11_9 {n cs ss : Nat} {L : List Slot} {S : List Value} {H : AH} : R11 w vF (n + 1) (9, L, S, H, cs, ss) = (aCall 5 6 1 11 0 0 (F12 w vF) S H cs ss).bind fun r => R11 w vF n (12, L, r.1, r.2.1, r.2.2.1, r.2.2.2) := s_any k11_9
theorem s11_12 {n cs ss : Nat} {L : List Slot} {S : List Value} {H : AH} : R11 w vF (n + 1) (12, L, S, H, cs, ss) = pI S fun x r => (st1 L 4 (.int x)).bind fun L' => R11 w vF n (14, L', r, H, cs, ss) := s_any k11_12
theorem s11_14 {n cs ss : Nat} {L : List Slot} {S : List Value} {H : AH} : R11 w vF (n + 1) (14, L, S, H, cs, ss) = (gI L 4).bind fun v => R11 w vF n (16, L, .int v :: S, H, cs, ss) := s_any k11_14
theorem s11_16 {n cs ss : Nat} {L : List Slot} {S : List Value} {H : AH} : R11 w vF (n + 1) (16, L, S, H, cs, ss) = (gI L 2).bind fun v => R11 w vF n (17, L, .int v :: S, H, cs, ss) := s_any k11_16
theorem s11_17 {n cs ss : Nat} {L : List Slot} {S : List Value} {H : AH} : R11 w vF (n + 1) (17, L, S, H, cs, ss) = pI S fun y S => pI S fun x r => if x = y then R11 w vF n (57, L, r, H, cs, ss) else R11 w vF n (20, L, r, H, cs, ss) := s_icmp (Q := fun x y => x = y) (fun _ _ => h_eq) k11_17 (by decide) (by decide)
theorem s11_57 {n cs ss : Nat} {L : List Slot} {S : List Value} {H : AH} : R11 w vF (n + 1) (57, L, S, H, cs, ss) = (gA L 3).bind fun v => R11 w vF n (58, L, v :: S, H, cs, ss) := s_any k11_57
theorem s11_58 {n cs ss : Nat} {L : List Slot} {S : List Value} {H : AH} : R11 w vF (n + 1) (58, L, S, H, cs, ss) = pA S fun z _ => some (some z, H) := s_any k11_58
theorem t11_0 {go : GT} (hgo : go = R11 w vF) {n cs ss : Nat} {l0 l1 l3 l4 l5 : Slot} {S : List Value} {H : AH} {q : QT} {v : Int32} (h : Rsq (go n (1, [l0, l1, .val (.int v), l3, l4, l5], (.int v :: S), H, cs, ss)) q) : Rsq (go (n + 1) (0, [l0, l1, .val (.int v), l3, l4, l5], S, H, cs, ss)) q := by
  subst hgo
  exact res_of s11_0 h
theorem u11_1 {go : GT} (hgo : go = R11 w vF) {n cs ss : Nat} {L : List Slot} {S : List Value} {H : AH} : go (n + 1) (1, L, S, H, cs, ss) = (aArr .byte 1 11 S H cs ss).bind fun r => go n (3, L, r.1, r.2.1, r.2.2.1, r.2.2.2) := by
  subst hgo
  exact s11_1
theorem t11_3 {go : GT} (hgo : go = R11 w vF) {n cs ss : Nat} {l0 l1 l2 l3 l4 l5 : Slot} {S : List Value} {H : AH} {q : QT} {v : Value} (hv : isA v = true) (hk : so l3 = true) (h : Rsq (go n (4, [l0, l1, l2, .val v, l4, l5], S, H, cs, ss)) q) : Rsq (go (n + 1) (3, [l0, l1, l2, l3, l4, l5], (v :: S), H, cs, ss)) q := by
  subst hgo
  refine res_of s11_3 ?_
  rw [pA_isA hv, st1_so (L := [l0, l1, l2, l3, l4, l5]) (k := 3) (l := l3) rfl hk]
  exact h
theorem t11_4 {go : GT} (hgo : go = R11 w vF) {n cs ss : Nat} {l1 l2 l3 l4 l5 : Slot} {S : List Value} {H : AH} {q : QT} {v : Value} (hv : isA v = true) (h : Rsq (go n (5, [.val v, l1, l2, l3, l4, l5], (v :: S), H, cs, ss)) q) : Rsq (go (n + 1) (4, [.val v, l1, l2, l3, l4, l5], S, H, cs, ss)) q := by
  subst hgo
  refine res_of s11_4 ?_
  rw [gA_isA (L := [.val v, l1, l2, l3, l4, l5]) (k := 0) (v := v) rfl hv]
  exact h
theorem t11_5 {go : GT} (hgo : go = R11 w vF) {n cs ss : Nat} {l0 l2 l3 l4 l5 : Slot} {S : List Value} {H : AH} {q : QT} {v : Int32} (h : Rsq (go n (6, [l0, .val (.int v), l2, l3, l4, l5], (.int v :: S), H, cs, ss)) q) : Rsq (go (n + 1) (5, [l0, .val (.int v), l2, l3, l4, l5], S, H, cs, ss)) q := by
  subst hgo
  exact res_of s11_5 h
theorem t11_6 {go : GT} (hgo : go = R11 w vF) {n cs ss : Nat} {l0 l1 l2 l4 l5 : Slot} {S : List Value} {H : AH} {q : QT} {v : Value} (hv : isA v = true) (h : Rsq (go n (7, [l0, l1, l2, .val v, l4, l5], (v :: S), H, cs, ss)) q) : Rsq (go (n + 1) (6, [l0, l1, l2, .val v, l4, l5], S, H, cs, ss)) q := by
  subst hgo
  refine res_of s11_6 ?_
  rw [gA_isA (L := [l0, l1, l2, .val v, l4, l5]) (k := 3) (v := v) rfl hv]
  exact h
theorem t11_7 {go : GT} (hgo : go = R11 w vF) {n cs ss : Nat} {L : List Slot} {S : List Value} {H : AH} {q : QT} (h : Rsq (go n (8, L, (.int 0 :: S), H, cs, ss)) q) : Rsq (go (n + 1) (7, L, S, H, cs, ss)) q := by
  subst hgo
  exact res_of s11_7 h
theorem t11_8 {go : GT} (hgo : go = R11 w vF) {n cs ss : Nat} {l0 l1 l3 l4 l5 : Slot} {S : List Value} {H : AH} {q : QT} {v : Int32} (h : Rsq (go n (9, [l0, l1, .val (.int v), l3, l4, l5], (.int v :: S), H, cs, ss)) q) : Rsq (go (n + 1) (8, [l0, l1, .val (.int v), l3, l4, l5], S, H, cs, ss)) q := by
  subst hgo
  exact res_of s11_8 h
theorem u11_9 {go : GT} (hgo : go = R11 w vF) {n cs ss : Nat} {L : List Slot} {S : List Value} {H : AH} : go (n + 1) (9, L, S, H, cs, ss) = (aCall 5 6 1 11 0 0 (F12 w vF) S H cs ss).bind fun r => go n (12, L, r.1, r.2.1, r.2.2.1, r.2.2.2) := by
  subst hgo
  exact s11_9
theorem t11_12 {go : GT} (hgo : go = R11 w vF) {n cs ss : Nat} {l0 l1 l2 l3 l4 l5 : Slot} {S : List Value} {H : AH} {q : QT} {x : Int32} (hk : so l4 = true) (h : Rsq (go n (14, [l0, l1, l2, l3, .val (.int x), l5], S, H, cs, ss)) q) : Rsq (go (n + 1) (12, [l0, l1, l2, l3, l4, l5], (.int x :: S), H, cs, ss)) q := by
  subst hgo
  refine res_of s11_12 ?_
  rw [pI_int, st1_so (L := [l0, l1, l2, l3, l4, l5]) (k := 4) (l := l4) rfl hk]
  exact h
theorem t11_14 {go : GT} (hgo : go = R11 w vF) {n cs ss : Nat} {l0 l1 l2 l3 l5 : Slot} {S : List Value} {H : AH} {q : QT} {v : Int32} (h : Rsq (go n (16, [l0, l1, l2, l3, .val (.int v), l5], (.int v :: S), H, cs, ss)) q) : Rsq (go (n + 1) (14, [l0, l1, l2, l3, .val (.int v), l5], S, H, cs, ss)) q := by
  subst hgo
  exact res_of s11_14 h
theorem t11_16 {go : GT} (hgo : go = R11 w vF) {n cs ss : Nat} {l0 l1 l3 l4 l5 : Slot} {S : List Value} {H : AH} {q : QT} {v : Int32} (h : Rsq (go n (17, [l0, l1, .val (.int v), l3, l4, l5], (.int v :: S), H, cs, ss)) q) : Rsq (go (n + 1) (16, [l0, l1, .val (.int v), l3, l4, l5], S, H, cs, ss)) q := by
  subst hgo
  exact res_of s11_16 h
theorem t11_17t {go : GT} (hgo : go = R11 w vF) {n cs ss : Nat} {L : List Slot} {S : List Value} {H : AH} {q : QT} {x y : Int32} (hc : x = y) (h : Rsq (go n (57, L, S, H, cs, ss)) q) : Rsq (go (n + 1) (17, L, (.int y :: .int x :: S), H, cs, ss)) q := by
  subst hgo
  exact res_of s11_17 (res_t hc h)
theorem t11_57 {go : GT} (hgo : go = R11 w vF) {n cs ss : Nat} {l0 l1 l2 l4 l5 : Slot} {S : List Value} {H : AH} {q : QT} {v : Value} (hv : isA v = true) (h : Rsq (go n (58, [l0, l1, l2, .val v, l4, l5], (v :: S), H, cs, ss)) q) : Rsq (go (n + 1) (57, [l0, l1, l2, .val v, l4, l5], S, H, cs, ss)) q := by
  subst hgo
  refine res_of s11_57 ?_
  rw [gA_isA (L := [l0, l1, l2, .val v, l4, l5]) (k := 3) (v := v) rfl hv]
  exact h
theorem t11_58 {go : GT} (hgo : go = R11 w vF) {n cs ss : Nat} {L : List Slot} {S : List Value} {H : AH} {q : QT} {z : Value} (hv : isA z = true) (h : q (some (some z, H))) : Rsq (go (n + 1) (58, L, (z :: S), H, cs, ss)) q := by
  subst hgo
  refine res_of s11_58 ?_
  rw [pA_isA hv]
  exact h
theorem f13_in {x0 : Nat} {x1 : Int32} {H : AH} : (F13 w vF) [.ref x0, .int x1] H = R13 w vF 56 (0, [.val (.ref x0), .val (.int x1)], [], H, 0, 0) := rfl
theorem s13_0 {n cs ss : Nat} {L : List Slot} {S : List Value} {H : AH} : R13 w vF (n + 1) (0, L, S, H, cs, ss) = (gI L 1).bind fun v => R13 w vF n (1, L, .int v :: S, H, cs, ss) := s_any k13_0
theorem s13_1 {n cs ss : Nat} {L : List Slot} {S : List Value} {H : AH} : R13 w vF (n + 1) (1, L, S, H, cs, ss) = (gA L 0).bind fun v => R13 w vF n (2, L, v :: S, H, cs, ss) := s_any k13_1
theorem s13_2 {n cs ss : Nat} {L : List Slot} {S : List Value} {H : AH} : R13 w vF (n + 1) (2, L, S, H, cs, ss) = pR S fun a r => (arr H a).bind fun q => R13 w vF n (3, L, .int (ln q.2) :: r, H, cs, ss) := s_any k13_2
theorem s13_3 {n cs ss : Nat} {L : List Slot} {S : List Value} {H : AH} : R13 w vF (n + 1) (3, L, S, H, cs, ss) = pI S fun y S => pI S fun x r => R13 w vF n (4, L, .int (x - y) :: r, H, cs, ss) := s_any k13_3
theorem s13_4 {n cs ss : Nat} {L : List Slot} {S : List Value} {H : AH} : R13 w vF (n + 1) (4, L, S, H, cs, ss) = R13 w vF n (6, L, (.int 31 :: S), H, cs, ss) := s_any k13_4
theorem s13_6 {n cs ss : Nat} {L : List Slot} {S : List Value} {H : AH} : R13 w vF (n + 1) (6, L, S, H, cs, ss) = ex (Option.some Jvm.ClassFile.FieldType.byte) (E13 w vF) 25 (R13 w vF n) (.iushr) 6 L S H cs ss := s_any k13_6
theorem s13_7 {n cs ss : Nat} {L : List Slot} {S : List Value} {H : AH} : R13 w vF (n + 1) (7, L, S, H, cs, ss) = ex (Option.some Jvm.ClassFile.FieldType.byte) (E13 w vF) 25 (R13 w vF n) (.i2b) 7 L S H cs ss := s_any k13_7
theorem s13_8 {n cs ss : Nat} {L : List Slot} {S : List Value} {H : AH} : R13 w vF (n + 1) (8, L, S, H, cs, ss) = pI S fun z _ => some (some (.int z.toInt8.toInt32), H) := s_any k13_8
theorem t13_0 {go : GT} (hgo : go = R13 w vF) {n cs ss : Nat} {l0 : Slot} {S : List Value} {H : AH} {q : QT} {v : Int32} (h : Rsq (go n (1, [l0, .val (.int v)], (.int v :: S), H, cs, ss)) q) : Rsq (go (n + 1) (0, [l0, .val (.int v)], S, H, cs, ss)) q := by
  subst hgo
  exact res_of s13_0 h
theorem t13_1 {go : GT} (hgo : go = R13 w vF) {n cs ss : Nat} {l1 : Slot} {S : List Value} {H : AH} {q : QT} {v : Value} (hv : isA v = true) (h : Rsq (go n (2, [.val v, l1], (v :: S), H, cs, ss)) q) : Rsq (go (n + 1) (1, [.val v, l1], S, H, cs, ss)) q := by
  subst hgo
  refine res_of s13_1 ?_
  rw [gA_isA (L := [.val v, l1]) (k := 0) (v := v) rfl hv]
  exact h
theorem u13_2 {go : GT} (hgo : go = R13 w vF) {n cs ss : Nat} {L : List Slot} {S : List Value} {H : AH} : go (n + 1) (2, L, S, H, cs, ss) = pR S fun a r => (arr H a).bind fun q => go n (3, L, .int (ln q.2) :: r, H, cs, ss) := by
  subst hgo
  exact s13_2
theorem t13_3 {go : GT} (hgo : go = R13 w vF) {n cs ss : Nat} {L : List Slot} {S : List Value} {H : AH} {q : QT} {x y : Int32} (h : Rsq (go n (4, L, (.int (x - y) :: S), H, cs, ss)) q) : Rsq (go (n + 1) (3, L, (.int y :: .int x :: S), H, cs, ss)) q := by
  subst hgo
  exact res_of s13_3 h
theorem t13_4 {go : GT} (hgo : go = R13 w vF) {n cs ss : Nat} {L : List Slot} {S : List Value} {H : AH} {q : QT} (h : Rsq (go n (6, L, (.int 31 :: S), H, cs, ss)) q) : Rsq (go (n + 1) (4, L, S, H, cs, ss)) q := by
  subst hgo
  exact res_of s13_4 h
theorem t13_6 {go : GT} (hgo : go = R13 w vF) {n cs ss : Nat} {L : List Slot} {S : List Value} {H : AH} {q : QT} {x y : Int32} (h : Rsq (go n (7, L, (.int ((x.toUInt32 >>> (y &&& 31).toUInt32).toInt32) :: S), H, cs, ss)) q) : Rsq (go (n + 1) (6, L, (.int y :: .int x :: S), H, cs, ss)) q := by
  subst hgo
  exact res_of s13_6 h
theorem t13_7 {go : GT} (hgo : go = R13 w vF) {n cs ss : Nat} {L : List Slot} {S : List Value} {H : AH} {q : QT} {x : Int32} (h : Rsq (go n (8, L, (.int (x.toInt8.toInt32) :: S), H, cs, ss)) q) : Rsq (go (n + 1) (7, L, (.int x :: S), H, cs, ss)) q := by
  subst hgo
  exact res_of s13_7 h
theorem t13_8 {go : GT} (hgo : go = R13 w vF) {n cs ss : Nat} {L : List Slot} {S : List Value} {H : AH} {q : QT} {z : Int32} (h : q (some (some (.int z.toInt8.toInt32), H))) : Rsq (go (n + 1) (8, L, (.int z :: S), H, cs, ss)) q := by
  subst hgo
  exact res_of s13_8 h
theorem f10_in {x0 : Nat} {x1 : Nat} {x2 : Int32} {x3 : Int32} {x4 : Nat} {H : AH} : (F10 w vF) [.ref x0, .ref x1, .int x2, .int x3, .ref x4] H = R10 w vF 118 (0, [.val (.ref x0), .val (.ref x1), .val (.int x2), .val (.int x3), .val (.ref x4), .unset], [], H, 0, 0) := rfl
theorem f10_inn {x0 : Nat} {x1 : Nat} {x2 : Int32} {x3 : Int32} {H : AH} : (F10 w vF) [.ref x0, .ref x1, .int x2, .int x3, .null] H = R10 w vF 118 (0, [.val (.ref x0), .val (.ref x1), .val (.int x2), .val (.int x3), .val .null, .unset], [], H, 0, 0) := rfl
theorem s10_0 {n cs ss : Nat} {L : List Slot} {S : List Value} {H : AH} : R10 w vF (n + 1) (0, L, S, H, cs, ss) = (gA L 0).bind fun v => R10 w vF n (1, L, v :: S, H, cs, ss) := s_any k10_0
theorem s10_1 {n cs ss : Nat} {L : List Slot} {S : List Value} {H : AH} : R10 w vF (n + 1) (1, L, S, H, cs, ss) = (aObj 6 S H cs ss).bind fun r => R10 w vF n (4, L, r.1, r.2.1, r.2.2.1, r.2.2.2) := s_any k10_1
theorem s10_4 {n cs ss : Nat} {L : List Slot} {S : List Value} {H : AH} : R10 w vF (n + 1) (4, L, S, H, cs, ss) = (gI L 3).bind fun v => R10 w vF n (5, L, .int v :: S, H, cs, ss) := s_any k10_4
theorem s10_5 {n cs ss : Nat} {L : List Slot} {S : List Value} {H : AH} : R10 w vF (n + 1) (5, L, S, H, cs, ss) = pI S fun x r => if x = 0 then R10 w vF n (8, L, r, H, cs, ss) else R10 w vF n (27, L, r, H, cs, ss) := s_ifN (Q := fun x => x = 0) (fun _ => z_ne) k10_5 (by decide) (by decide)
theorem s10_8 {n cs ss : Nat} {L : List Slot} {S : List Value} {H : AH} : R10 w vF (n + 1) (8, L, S, H, cs, ss) = (gA L 0).bind fun v => R10 w vF n (9, L, v :: S, H, cs, ss) := s_any k10_8
theorem s10_9 {n cs ss : Nat} {L : List Slot} {S : List Value} {H : AH} : R10 w vF (n + 1) (9, L, S, H, cs, ss) = if fr3 H.length (slt H 21) L S H = true then (aLit 21 0 0 6 40 [] S H cs ss).bind fun r => R10 w vF n (11, L, r.1, r.2.1, r.2.2.1, r.2.2.2) else none := s_any k10_9
theorem s10_11 {n cs ss : Nat} {L : List Slot} {S : List Value} {H : AH} : R10 w vF (n + 1) (11, L, S, H, cs, ss) = (aGet 0 0 S H cs ss).bind fun r => R10 w vF n (14, L, r.1, r.2.1, r.2.2.1, r.2.2.2) := s_any k10_11
theorem s10_14 {n cs ss : Nat} {L : List Slot} {S : List Value} {H : AH} : R10 w vF (n + 1) (14, L, S, H, cs, ss) = (aPut 25 0 0 (.array .byte) S H cs ss).bind fun r => R10 w vF n (17, L, r.1, r.2.1, r.2.2.1, r.2.2.2) := s_any k10_14
theorem s10_17 {n cs ss : Nat} {L : List Slot} {S : List Value} {H : AH} : R10 w vF (n + 1) (17, L, S, H, cs, ss) = (gA L 0).bind fun v => R10 w vF n (18, L, v :: S, H, cs, ss) := s_any k10_17
theorem s10_18 {n cs ss : Nat} {L : List Slot} {S : List Value} {H : AH} : R10 w vF (n + 1) (18, L, S, H, cs, ss) = if fr3 H.length (slt H 21) L S H = true then (aLit 21 0 0 6 40 [] S H cs ss).bind fun r => R10 w vF n (20, L, r.1, r.2.1, r.2.2.1, r.2.2.2) else none := s_any k10_18
theorem s10_20 {n cs ss : Nat} {L : List Slot} {S : List Value} {H : AH} : R10 w vF (n + 1) (20, L, S, H, cs, ss) = (aGet 0 1 S H cs ss).bind fun r => R10 w vF n (23, L, r.1, r.2.1, r.2.2.1, r.2.2.2) := s_any k10_20
theorem s10_23 {n cs ss : Nat} {L : List Slot} {S : List Value} {H : AH} : R10 w vF (n + 1) (23, L, S, H, cs, ss) = (aPut 25 0 1 .byte S H cs ss).bind fun r => R10 w vF n (26, L, r.1, r.2.1, r.2.2.1, r.2.2.2) := s_any k10_23
theorem s10_26 {n cs ss : Nat} {L : List Slot} {S : List Value} {H : AH} : R10 w vF (n + 1) (26, L, S, H, cs, ss) = rV none S H := s_any k10_26
theorem s10_27 {n cs ss : Nat} {L : List Slot} {S : List Value} {H : AH} : R10 w vF (n + 1) (27, L, S, H, cs, ss) = (aSta (.int w) S H cs ss).bind fun r => R10 w vF n (30, L, r.1, r.2.1, r.2.2.1, r.2.2.2) := s_any k10_27
theorem s10_30 {n cs ss : Nat} {L : List Slot} {S : List Value} {H : AH} : R10 w vF (n + 1) (30, L, S, H, cs, ss) = pI S fun x r => if x = 0 then R10 w vF n (58, L, r, H, cs, ss) else R10 w vF n (33, L, r, H, cs, ss) := s_if (Q := fun x => x = 0) (fun _ => z_eq) k10_30 (by decide) (by decide)
theorem s10_33 {n cs ss : Nat} {L : List Slot} {S : List Value} {H : AH} : R10 w vF (n + 1) (33, L, S, H, cs, ss) = (gA L 1).bind fun v => R10 w vF n (34, L, v :: S, H, cs, ss) := s_any k10_33
theorem s10_34 {n cs ss : Nat} {L : List Slot} {S : List Value} {H : AH} : R10 w vF (n + 1) (34, L, S, H, cs, ss) = (gI L 2).bind fun v => R10 w vF n (35, L, .int v :: S, H, cs, ss) := s_any k10_34
theorem s10_35 {n cs ss : Nat} {L : List Slot} {S : List Value} {H : AH} : R10 w vF (n + 1) (35, L, S, H, cs, ss) = (gI L 3).bind fun v => R10 w vF n (36, L, .int v :: S, H, cs, ss) := s_any k10_35
theorem s10_36 {n cs ss : Nat} {L : List Slot} {S : List Value} {H : AH} : R10 w vF (n + 1) (36, L, S, H, cs, ss) = (aCall 3 6 6 40 1 11 (F11 w vF) S H cs ss).bind fun r => R10 w vF n (39, L, r.1, r.2.1, r.2.2.1, r.2.2.2) := s_any k10_36
theorem s10_39 {n cs ss : Nat} {L : List Slot} {S : List Value} {H : AH} : R10 w vF (n + 1) (39, L, S, H, cs, ss) = pA S fun x r => (st1 L 5 x).bind fun L' => R10 w vF n (41, L', r, H, cs, ss) := s_any k10_39
theorem s10_41 {n cs ss : Nat} {L : List Slot} {S : List Value} {H : AH} : R10 w vF (n + 1) (41, L, S, H, cs, ss) = (gA L 0).bind fun v => R10 w vF n (42, L, v :: S, H, cs, ss) := s_any k10_41
theorem s10_42 {n cs ss : Nat} {L : List Slot} {S : List Value} {H : AH} : R10 w vF (n + 1) (42, L, S, H, cs, ss) = (gA L 5).bind fun v => R10 w vF n (44, L, v :: S, H, cs, ss) := s_any k10_42
theorem s10_44 {n cs ss : Nat} {L : List Slot} {S : List Value} {H : AH} : R10 w vF (n + 1) (44, L, S, H, cs, ss) = (gI L 3).bind fun v => R10 w vF n (45, L, .int v :: S, H, cs, ss) := s_any k10_44
theorem s10_45 {n cs ss : Nat} {L : List Slot} {S : List Value} {H : AH} : R10 w vF (n + 1) (45, L, S, H, cs, ss) = (aCall 2 6 6 40 0 0 (F13 w vF) S H cs ss).bind fun r => R10 w vF n (48, L, r.1, r.2.1, r.2.2.1, r.2.2.2) := s_any k10_45
theorem s10_48 {n cs ss : Nat} {L : List Slot} {S : List Value} {H : AH} : R10 w vF (n + 1) (48, L, S, H, cs, ss) = (aPut 25 0 1 .byte S H cs ss).bind fun r => R10 w vF n (51, L, r.1, r.2.1, r.2.2.1, r.2.2.2) := s_any k10_48
theorem s10_51 {n cs ss : Nat} {L : List Slot} {S : List Value} {H : AH} : R10 w vF (n + 1) (51, L, S, H, cs, ss) = (gA L 0).bind fun v => R10 w vF n (52, L, v :: S, H, cs, ss) := s_any k10_51
theorem s10_52 {n cs ss : Nat} {L : List Slot} {S : List Value} {H : AH} : R10 w vF (n + 1) (52, L, S, H, cs, ss) = (gA L 5).bind fun v => R10 w vF n (54, L, v :: S, H, cs, ss) := s_any k10_52
theorem s10_54 {n cs ss : Nat} {L : List Slot} {S : List Value} {H : AH} : R10 w vF (n + 1) (54, L, S, H, cs, ss) = (aPut 25 0 0 (.array .byte) S H cs ss).bind fun r => R10 w vF n (57, L, r.1, r.2.1, r.2.2.1, r.2.2.2) := s_any k10_54
theorem s10_57 {n cs ss : Nat} {L : List Slot} {S : List Value} {H : AH} : R10 w vF (n + 1) (57, L, S, H, cs, ss) = rV none S H := s_any k10_57
theorem t10_0 {go : GT} (hgo : go = R10 w vF) {n cs ss : Nat} {l1 l2 l3 l4 l5 : Slot} {S : List Value} {H : AH} {q : QT} {v : Value} (hv : isA v = true) (h : Rsq (go n (1, [.val v, l1, l2, l3, l4, l5], (v :: S), H, cs, ss)) q) : Rsq (go (n + 1) (0, [.val v, l1, l2, l3, l4, l5], S, H, cs, ss)) q := by
  subst hgo
  refine res_of s10_0 ?_
  rw [gA_isA (L := [.val v, l1, l2, l3, l4, l5]) (k := 0) (v := v) rfl hv]
  exact h
theorem u10_1 {go : GT} (hgo : go = R10 w vF) {n cs ss : Nat} {L : List Slot} {S : List Value} {H : AH} : go (n + 1) (1, L, S, H, cs, ss) = (aObj 6 S H cs ss).bind fun r => go n (4, L, r.1, r.2.1, r.2.2.1, r.2.2.2) := by
  subst hgo
  exact s10_1
theorem t10_4 {go : GT} (hgo : go = R10 w vF) {n cs ss : Nat} {l0 l1 l2 l4 l5 : Slot} {S : List Value} {H : AH} {q : QT} {v : Int32} (h : Rsq (go n (5, [l0, l1, l2, .val (.int v), l4, l5], (.int v :: S), H, cs, ss)) q) : Rsq (go (n + 1) (4, [l0, l1, l2, .val (.int v), l4, l5], S, H, cs, ss)) q := by
  subst hgo
  exact res_of s10_4 h
theorem t10_5t {go : GT} (hgo : go = R10 w vF) {n cs ss : Nat} {L : List Slot} {S : List Value} {H : AH} {q : QT} {x : Int32} (hc : x = 0) (h : Rsq (go n (8, L, S, H, cs, ss)) q) : Rsq (go (n + 1) (5, L, (.int x :: S), H, cs, ss)) q := by
  subst hgo
  exact res_of s10_5 (res_t hc h)
theorem t10_5f {go : GT} (hgo : go = R10 w vF) {n cs ss : Nat} {L : List Slot} {S : List Value} {H : AH} {q : QT} {x : Int32} (hc : ¬ x = 0) (h : Rsq (go n (27, L, S, H, cs, ss)) q) : Rsq (go (n + 1) (5, L, (.int x :: S), H, cs, ss)) q := by
  subst hgo
  exact res_of s10_5 (res_f hc h)
theorem t10_8 {go : GT} (hgo : go = R10 w vF) {n cs ss : Nat} {l1 l2 l3 l4 l5 : Slot} {S : List Value} {H : AH} {q : QT} {v : Value} (hv : isA v = true) (h : Rsq (go n (9, [.val v, l1, l2, l3, l4, l5], (v :: S), H, cs, ss)) q) : Rsq (go (n + 1) (8, [.val v, l1, l2, l3, l4, l5], S, H, cs, ss)) q := by
  subst hgo
  refine res_of s10_8 ?_
  rw [gA_isA (L := [.val v, l1, l2, l3, l4, l5]) (k := 0) (v := v) rfl hv]
  exact h
theorem u10_9 {go : GT} (hgo : go = R10 w vF) {n cs ss : Nat} {L : List Slot} {S : List Value} {H : AH} : go (n + 1) (9, L, S, H, cs, ss) = if fr3 H.length (slt H 21) L S H = true then (aLit 21 0 0 6 40 [] S H cs ss).bind fun r => go n (11, L, r.1, r.2.1, r.2.2.1, r.2.2.2) else none := by
  subst hgo
  exact s10_9
theorem u10_11 {go : GT} (hgo : go = R10 w vF) {n cs ss : Nat} {L : List Slot} {S : List Value} {H : AH} : go (n + 1) (11, L, S, H, cs, ss) = (aGet 0 0 S H cs ss).bind fun r => go n (14, L, r.1, r.2.1, r.2.2.1, r.2.2.2) := by
  subst hgo
  exact s10_11
theorem u10_14 {go : GT} (hgo : go = R10 w vF) {n cs ss : Nat} {L : List Slot} {S : List Value} {H : AH} : go (n + 1) (14, L, S, H, cs, ss) = (aPut 25 0 0 (.array .byte) S H cs ss).bind fun r => go n (17, L, r.1, r.2.1, r.2.2.1, r.2.2.2) := by
  subst hgo
  exact s10_14
theorem t10_17 {go : GT} (hgo : go = R10 w vF) {n cs ss : Nat} {l1 l2 l3 l4 l5 : Slot} {S : List Value} {H : AH} {q : QT} {v : Value} (hv : isA v = true) (h : Rsq (go n (18, [.val v, l1, l2, l3, l4, l5], (v :: S), H, cs, ss)) q) : Rsq (go (n + 1) (17, [.val v, l1, l2, l3, l4, l5], S, H, cs, ss)) q := by
  subst hgo
  refine res_of s10_17 ?_
  rw [gA_isA (L := [.val v, l1, l2, l3, l4, l5]) (k := 0) (v := v) rfl hv]
  exact h
theorem u10_18 {go : GT} (hgo : go = R10 w vF) {n cs ss : Nat} {L : List Slot} {S : List Value} {H : AH} : go (n + 1) (18, L, S, H, cs, ss) = if fr3 H.length (slt H 21) L S H = true then (aLit 21 0 0 6 40 [] S H cs ss).bind fun r => go n (20, L, r.1, r.2.1, r.2.2.1, r.2.2.2) else none := by
  subst hgo
  exact s10_18
theorem u10_20 {go : GT} (hgo : go = R10 w vF) {n cs ss : Nat} {L : List Slot} {S : List Value} {H : AH} : go (n + 1) (20, L, S, H, cs, ss) = (aGet 0 1 S H cs ss).bind fun r => go n (23, L, r.1, r.2.1, r.2.2.1, r.2.2.2) := by
  subst hgo
  exact s10_20
theorem u10_23 {go : GT} (hgo : go = R10 w vF) {n cs ss : Nat} {L : List Slot} {S : List Value} {H : AH} : go (n + 1) (23, L, S, H, cs, ss) = (aPut 25 0 1 .byte S H cs ss).bind fun r => go n (26, L, r.1, r.2.1, r.2.2.1, r.2.2.2) := by
  subst hgo
  exact s10_23
theorem t10_26 {go : GT} (hgo : go = R10 w vF) {n cs ss : Nat} {L : List Slot} {H : AH} {q : QT} (h : q (some (none, H))) : Rsq (go (n + 1) (26, L, [], H, cs, ss)) q := by
  subst hgo
  exact res_of s10_26 h
theorem u10_27 {go : GT} (hgo : go = R10 w vF) {n cs ss : Nat} {L : List Slot} {S : List Value} {H : AH} : go (n + 1) (27, L, S, H, cs, ss) = (aSta (.int w) S H cs ss).bind fun r => go n (30, L, r.1, r.2.1, r.2.2.1, r.2.2.2) := by
  subst hgo
  exact s10_27
theorem t10_30f {go : GT} (hgo : go = R10 w vF) {n cs ss : Nat} {L : List Slot} {S : List Value} {H : AH} {q : QT} {x : Int32} (hc : ¬ x = 0) (h : Rsq (go n (33, L, S, H, cs, ss)) q) : Rsq (go (n + 1) (30, L, (.int x :: S), H, cs, ss)) q := by
  subst hgo
  exact res_of s10_30 (res_f hc h)
theorem t10_33 {go : GT} (hgo : go = R10 w vF) {n cs ss : Nat} {l0 l2 l3 l4 l5 : Slot} {S : List Value} {H : AH} {q : QT} {v : Value} (hv : isA v = true) (h : Rsq (go n (34, [l0, .val v, l2, l3, l4, l5], (v :: S), H, cs, ss)) q) : Rsq (go (n + 1) (33, [l0, .val v, l2, l3, l4, l5], S, H, cs, ss)) q := by
  subst hgo
  refine res_of s10_33 ?_
  rw [gA_isA (L := [l0, .val v, l2, l3, l4, l5]) (k := 1) (v := v) rfl hv]
  exact h
theorem t10_34 {go : GT} (hgo : go = R10 w vF) {n cs ss : Nat} {l0 l1 l3 l4 l5 : Slot} {S : List Value} {H : AH} {q : QT} {v : Int32} (h : Rsq (go n (35, [l0, l1, .val (.int v), l3, l4, l5], (.int v :: S), H, cs, ss)) q) : Rsq (go (n + 1) (34, [l0, l1, .val (.int v), l3, l4, l5], S, H, cs, ss)) q := by
  subst hgo
  exact res_of s10_34 h
theorem t10_35 {go : GT} (hgo : go = R10 w vF) {n cs ss : Nat} {l0 l1 l2 l4 l5 : Slot} {S : List Value} {H : AH} {q : QT} {v : Int32} (h : Rsq (go n (36, [l0, l1, l2, .val (.int v), l4, l5], (.int v :: S), H, cs, ss)) q) : Rsq (go (n + 1) (35, [l0, l1, l2, .val (.int v), l4, l5], S, H, cs, ss)) q := by
  subst hgo
  exact res_of s10_35 h
theorem u10_36 {go : GT} (hgo : go = R10 w vF) {n cs ss : Nat} {L : List Slot} {S : List Value} {H : AH} : go (n + 1) (36, L, S, H, cs, ss) = (aCall 3 6 6 40 1 11 (F11 w vF) S H cs ss).bind fun r => go n (39, L, r.1, r.2.1, r.2.2.1, r.2.2.2) := by
  subst hgo
  exact s10_36
theorem t10_39 {go : GT} (hgo : go = R10 w vF) {n cs ss : Nat} {l0 l1 l2 l3 l4 l5 : Slot} {S : List Value} {H : AH} {q : QT} {v : Value} (hv : isA v = true) (hk : so l5 = true) (h : Rsq (go n (41, [l0, l1, l2, l3, l4, .val v], S, H, cs, ss)) q) : Rsq (go (n + 1) (39, [l0, l1, l2, l3, l4, l5], (v :: S), H, cs, ss)) q := by
  subst hgo
  refine res_of s10_39 ?_
  rw [pA_isA hv, st1_so (L := [l0, l1, l2, l3, l4, l5]) (k := 5) (l := l5) rfl hk]
  exact h
theorem t10_41 {go : GT} (hgo : go = R10 w vF) {n cs ss : Nat} {l1 l2 l3 l4 l5 : Slot} {S : List Value} {H : AH} {q : QT} {v : Value} (hv : isA v = true) (h : Rsq (go n (42, [.val v, l1, l2, l3, l4, l5], (v :: S), H, cs, ss)) q) : Rsq (go (n + 1) (41, [.val v, l1, l2, l3, l4, l5], S, H, cs, ss)) q := by
  subst hgo
  refine res_of s10_41 ?_
  rw [gA_isA (L := [.val v, l1, l2, l3, l4, l5]) (k := 0) (v := v) rfl hv]
  exact h
theorem t10_42 {go : GT} (hgo : go = R10 w vF) {n cs ss : Nat} {l0 l1 l2 l3 l4 : Slot} {S : List Value} {H : AH} {q : QT} {v : Value} (hv : isA v = true) (h : Rsq (go n (44, [l0, l1, l2, l3, l4, .val v], (v :: S), H, cs, ss)) q) : Rsq (go (n + 1) (42, [l0, l1, l2, l3, l4, .val v], S, H, cs, ss)) q := by
  subst hgo
  refine res_of s10_42 ?_
  rw [gA_isA (L := [l0, l1, l2, l3, l4, .val v]) (k := 5) (v := v) rfl hv]
  exact h
theorem t10_44 {go : GT} (hgo : go = R10 w vF) {n cs ss : Nat} {l0 l1 l2 l4 l5 : Slot} {S : List Value} {H : AH} {q : QT} {v : Int32} (h : Rsq (go n (45, [l0, l1, l2, .val (.int v), l4, l5], (.int v :: S), H, cs, ss)) q) : Rsq (go (n + 1) (44, [l0, l1, l2, .val (.int v), l4, l5], S, H, cs, ss)) q := by
  subst hgo
  exact res_of s10_44 h
theorem u10_45 {go : GT} (hgo : go = R10 w vF) {n cs ss : Nat} {L : List Slot} {S : List Value} {H : AH} : go (n + 1) (45, L, S, H, cs, ss) = (aCall 2 6 6 40 0 0 (F13 w vF) S H cs ss).bind fun r => go n (48, L, r.1, r.2.1, r.2.2.1, r.2.2.2) := by
  subst hgo
  exact s10_45
theorem u10_48 {go : GT} (hgo : go = R10 w vF) {n cs ss : Nat} {L : List Slot} {S : List Value} {H : AH} : go (n + 1) (48, L, S, H, cs, ss) = (aPut 25 0 1 .byte S H cs ss).bind fun r => go n (51, L, r.1, r.2.1, r.2.2.1, r.2.2.2) := by
  subst hgo
  exact s10_48
theorem t10_51 {go : GT} (hgo : go = R10 w vF) {n cs ss : Nat} {l1 l2 l3 l4 l5 : Slot} {S : List Value} {H : AH} {q : QT} {v : Value} (hv : isA v = true) (h : Rsq (go n (52, [.val v, l1, l2, l3, l4, l5], (v :: S), H, cs, ss)) q) : Rsq (go (n + 1) (51, [.val v, l1, l2, l3, l4, l5], S, H, cs, ss)) q := by
  subst hgo
  refine res_of s10_51 ?_
  rw [gA_isA (L := [.val v, l1, l2, l3, l4, l5]) (k := 0) (v := v) rfl hv]
  exact h
theorem t10_52 {go : GT} (hgo : go = R10 w vF) {n cs ss : Nat} {l0 l1 l2 l3 l4 : Slot} {S : List Value} {H : AH} {q : QT} {v : Value} (hv : isA v = true) (h : Rsq (go n (54, [l0, l1, l2, l3, l4, .val v], (v :: S), H, cs, ss)) q) : Rsq (go (n + 1) (52, [l0, l1, l2, l3, l4, .val v], S, H, cs, ss)) q := by
  subst hgo
  refine res_of s10_52 ?_
  rw [gA_isA (L := [l0, l1, l2, l3, l4, .val v]) (k := 5) (v := v) rfl hv]
  exact h
theorem u10_54 {go : GT} (hgo : go = R10 w vF) {n cs ss : Nat} {L : List Slot} {S : List Value} {H : AH} : go (n + 1) (54, L, S, H, cs, ss) = (aPut 25 0 0 (.array .byte) S H cs ss).bind fun r => go n (57, L, r.1, r.2.1, r.2.2.1, r.2.2.2) := by
  subst hgo
  exact s10_54
theorem t10_57 {go : GT} (hgo : go = R10 w vF) {n cs ss : Nat} {L : List Slot} {H : AH} {q : QT} (h : q (some (none, H))) : Rsq (go (n + 1) (57, L, [], H, cs, ss)) q := by
  subst hgo
  exact res_of s10_57 h
theorem f9_in {x0 : Nat} {x1 : Nat} {H : AH} : (F9 w vF) [.ref x0, .ref x1] H = R9 w vF 56 (0, [.val (.ref x0), .val (.ref x1)], [], H, 0, 0) := rfl
theorem f9_inn {x0 : Nat} {H : AH} : (F9 w vF) [.ref x0, .null] H = R9 w vF 56 (0, [.val (.ref x0), .val .null], [], H, 0, 0) := rfl
theorem s9_0 {n cs ss : Nat} {L : List Slot} {S : List Value} {H : AH} : R9 w vF (n + 1) (0, L, S, H, cs, ss) = (gA L 0).bind fun v => R9 w vF n (1, L, v :: S, H, cs, ss) := s_any k9_0
theorem s9_1 {n cs ss : Nat} {L : List Slot} {S : List Value} {H : AH} : R9 w vF (n + 1) (1, L, S, H, cs, ss) = (gA L 1).bind fun v => R9 w vF n (2, L, v :: S, H, cs, ss) := s_any k9_1
theorem s9_2 {n cs ss : Nat} {L : List Slot} {S : List Value} {H : AH} : R9 w vF (n + 1) (2, L, S, H, cs, ss) = R9 w vF n (3, L, (.int 0 :: S), H, cs, ss) := s_any k9_2
theorem s9_3 {n cs ss : Nat} {L : List Slot} {S : List Value} {H : AH} : R9 w vF (n + 1) (3, L, S, H, cs, ss) = (gA L 1).bind fun v => R9 w vF n (4, L, v :: S, H, cs, ss) := s_any k9_3
theorem s9_4 {n cs ss : Nat} {L : List Slot} {S : List Value} {H : AH} : R9 w vF (n + 1) (4, L, S, H, cs, ss) = pR S fun a r => (arr H a).bind fun q => R9 w vF n (5, L, .int (ln q.2) :: r, H, cs, ss) := s_any k9_4
theorem s9_5 {n cs ss : Nat} {L : List Slot} {S : List Value} {H : AH} : R9 w vF (n + 1) (5, L, S, H, cs, ss) = R9 w vF n (6, L, (.null :: S), H, cs, ss) := s_any k9_5
theorem s9_6 {n cs ss : Nat} {L : List Slot} {S : List Value} {H : AH} : R9 w vF (n + 1) (6, L, S, H, cs, ss) = if (fr3 H.length 21 L S [] && fr3 H.length 23 L S []) = true then (aRecv 4 0 6 6 40 6 40 (F10 w vF) S H cs ss).bind fun r => R9 w vF n (9, L, r.1, r.2.1, r.2.2.1, r.2.2.2) else none := s_any k9_6
theorem s9_9 {n cs ss : Nat} {L : List Slot} {S : List Value} {H : AH} : R9 w vF (n + 1) (9, L, S, H, cs, ss) = rV none S H := s_any k9_9
theorem t9_0 {go : GT} (hgo : go = R9 w vF) {n cs ss : Nat} {l1 : Slot} {S : List Value} {H : AH} {q : QT} {v : Value} (hv : isA v = true) (h : Rsq (go n (1, [.val v, l1], (v :: S), H, cs, ss)) q) : Rsq (go (n + 1) (0, [.val v, l1], S, H, cs, ss)) q := by
  subst hgo
  refine res_of s9_0 ?_
  rw [gA_isA (L := [.val v, l1]) (k := 0) (v := v) rfl hv]
  exact h
theorem t9_1 {go : GT} (hgo : go = R9 w vF) {n cs ss : Nat} {l0 : Slot} {S : List Value} {H : AH} {q : QT} {v : Value} (hv : isA v = true) (h : Rsq (go n (2, [l0, .val v], (v :: S), H, cs, ss)) q) : Rsq (go (n + 1) (1, [l0, .val v], S, H, cs, ss)) q := by
  subst hgo
  refine res_of s9_1 ?_
  rw [gA_isA (L := [l0, .val v]) (k := 1) (v := v) rfl hv]
  exact h
theorem t9_2 {go : GT} (hgo : go = R9 w vF) {n cs ss : Nat} {L : List Slot} {S : List Value} {H : AH} {q : QT} (h : Rsq (go n (3, L, (.int 0 :: S), H, cs, ss)) q) : Rsq (go (n + 1) (2, L, S, H, cs, ss)) q := by
  subst hgo
  exact res_of s9_2 h
theorem t9_3 {go : GT} (hgo : go = R9 w vF) {n cs ss : Nat} {l0 : Slot} {S : List Value} {H : AH} {q : QT} {v : Value} (hv : isA v = true) (h : Rsq (go n (4, [l0, .val v], (v :: S), H, cs, ss)) q) : Rsq (go (n + 1) (3, [l0, .val v], S, H, cs, ss)) q := by
  subst hgo
  refine res_of s9_3 ?_
  rw [gA_isA (L := [l0, .val v]) (k := 1) (v := v) rfl hv]
  exact h
theorem u9_4 {go : GT} (hgo : go = R9 w vF) {n cs ss : Nat} {L : List Slot} {S : List Value} {H : AH} : go (n + 1) (4, L, S, H, cs, ss) = pR S fun a r => (arr H a).bind fun q => go n (5, L, .int (ln q.2) :: r, H, cs, ss) := by
  subst hgo
  exact s9_4
theorem t9_5 {go : GT} (hgo : go = R9 w vF) {n cs ss : Nat} {L : List Slot} {S : List Value} {H : AH} {q : QT} (h : Rsq (go n (6, L, (.null :: S), H, cs, ss)) q) : Rsq (go (n + 1) (5, L, S, H, cs, ss)) q := by
  subst hgo
  exact res_of s9_5 h
theorem u9_6 {go : GT} (hgo : go = R9 w vF) {n cs ss : Nat} {L : List Slot} {S : List Value} {H : AH} : go (n + 1) (6, L, S, H, cs, ss) = if (fr3 H.length 21 L S [] && fr3 H.length 23 L S []) = true then (aRecv 4 0 6 6 40 6 40 (F10 w vF) S H cs ss).bind fun r => go n (9, L, r.1, r.2.1, r.2.2.1, r.2.2.2) else none := by
  subst hgo
  exact s9_6
theorem t9_9 {go : GT} (hgo : go = R9 w vF) {n cs ss : Nat} {L : List Slot} {H : AH} {q : QT} (h : q (some (none, H))) : Rsq (go (n + 1) (9, L, [], H, cs, ss)) q := by
  subst hgo
  exact res_of s9_9 h
theorem f15_in {x0 : Nat} {x1 : Nat} {H : AH} : (F15 w vF) [.ref x0, .ref x1] H = R15 w vF 300 (0, [.val (.ref x0), .val (.ref x1), .unset], [], H, 0, 0) := rfl
theorem f15_inn {x0 : Nat} {H : AH} : (F15 w vF) [.ref x0, .null] H = R15 w vF 300 (0, [.val (.ref x0), .val .null, .unset], [], H, 0, 0) := rfl
theorem s15_0 {n cs ss : Nat} {L : List Slot} {S : List Value} {H : AH} : R15 w vF (n + 1) (0, L, S, H, cs, ss) = (gA L 0).bind fun v => R15 w vF n (1, L, v :: S, H, cs, ss) := s_any k15_0
theorem s15_1 {n cs ss : Nat} {L : List Slot} {S : List Value} {H : AH} : R15 w vF (n + 1) (1, L, S, H, cs, ss) = pR S fun a r => (arr H a).bind fun q => R15 w vF n (2, L, .int (ln q.2) :: r, H, cs, ss) := s_any k15_1
theorem s15_2 {n cs ss : Nat} {L : List Slot} {S : List Value} {H : AH} : R15 w vF (n + 1) (2, L, S, H, cs, ss) = (gA L 1).bind fun v => R15 w vF n (3, L, v :: S, H, cs, ss) := s_any k15_2
theorem s15_3 {n cs ss : Nat} {L : List Slot} {S : List Value} {H : AH} : R15 w vF (n + 1) (3, L, S, H, cs, ss) = pR S fun a r => (arr H a).bind fun q => R15 w vF n (4, L, .int (ln q.2) :: r, H, cs, ss) := s_any k15_3
theorem s15_4 {n cs ss : Nat} {L : List Slot} {S : List Value} {H : AH} : R15 w vF (n + 1) (4, L, S, H, cs, ss) = pI S fun y S => pI S fun x r => if x = y then R15 w vF n (7, L, r, H, cs, ss) else R15 w vF n (34, L, r, H, cs, ss) := s_icmpN (Q := fun x y => x = y) (fun _ _ => h_ne) k15_4 (by decide) (by decide)
theorem s15_7 {n cs ss : Nat} {L : List Slot} {S : List Value} {H : AH} : R15 w vF (n + 1) (7, L, S, H, cs, ss) = R15 w vF n (8, L, (.int 0 :: S), H, cs, ss) := s_any k15_7
theorem s15_8 {n cs ss : Nat} {L : List Slot} {S : List Value} {H : AH} : R15 w vF (n + 1) (8, L, S, H, cs, ss) = pI S fun x r => (st1 L 2 (.int x)).bind fun L' => R15 w vF n (9, L', r, H, cs, ss) := s_any k15_8
theorem s15_9 {n cs ss : Nat} {L : List Slot} {S : List Value} {H : AH} : R15 w vF (n + 1) (9, L, S, H, cs, ss) = (gI L 2).bind fun v => R15 w vF n (10, L, .int v :: S, H, cs, ss) := s_any k15_9
theorem s15_10 {n cs ss : Nat} {L : List Slot} {S : List Value} {H : AH} : R15 w vF (n + 1) (10, L, S, H, cs, ss) = (gA L 0).bind fun v => R15 w vF n (11, L, v :: S, H, cs, ss) := s_any k15_10
theorem s15_11 {n cs ss : Nat} {L : List Slot} {S : List Value} {H : AH} : R15 w vF (n + 1) (11, L, S, H, cs, ss) = pR S fun a r => (arr H a).bind fun q => R15 w vF n (12, L, .int (ln q.2) :: r, H, cs, ss) := s_any k15_11
theorem s15_12 {n cs ss : Nat} {L : List Slot} {S : List Value} {H : AH} : R15 w vF (n + 1) (12, L, S, H, cs, ss) = pI S fun y S => pI S fun x r => if x < y then R15 w vF n (15, L, r, H, cs, ss) else R15 w vF n (32, L, r, H, cs, ss) := s_icmpN (Q := fun x y => x < y) (fun _ _ => h_ge) k15_12 (by decide) (by decide)
theorem s15_15 {n cs ss : Nat} {L : List Slot} {S : List Value} {H : AH} : R15 w vF (n + 1) (15, L, S, H, cs, ss) = (gA L 0).bind fun v => R15 w vF n (16, L, v :: S, H, cs, ss) := s_any k15_15
theorem s15_16 {n cs ss : Nat} {L : List Slot} {S : List Value} {H : AH} : R15 w vF (n + 1) (16, L, S, H, cs, ss) = (gI L 2).bind fun v => R15 w vF n (17, L, .int v :: S, H, cs, ss) := s_any k15_16
theorem s15_17 {n cs ss : Nat} {L : List Slot} {S : List Value} {H : AH} : R15 w vF (n + 1) (17, L, S, H, cs, ss) = ex (Option.some Jvm.ClassFile.FieldType.boolean) (E15 w vF) 25 (R15 w vF n) (.baload) 17 L S H cs ss := s_any k15_17
theorem s15_18 {n cs ss : Nat} {L : List Slot} {S : List Value} {H : AH} : R15 w vF (n + 1) (18, L, S, H, cs, ss) = (gA L 1).bind fun v => R15 w vF n (19, L, v :: S, H, cs, ss) := s_any k15_18
theorem s15_19 {n cs ss : Nat} {L : List Slot} {S : List Value} {H : AH} : R15 w vF (n + 1) (19, L, S, H, cs, ss) = (gI L 2).bind fun v => R15 w vF n (20, L, .int v :: S, H, cs, ss) := s_any k15_19
theorem s15_20 {n cs ss : Nat} {L : List Slot} {S : List Value} {H : AH} : R15 w vF (n + 1) (20, L, S, H, cs, ss) = ex (Option.some Jvm.ClassFile.FieldType.boolean) (E15 w vF) 25 (R15 w vF n) (.baload) 20 L S H cs ss := s_any k15_20
theorem s15_21 {n cs ss : Nat} {L : List Slot} {S : List Value} {H : AH} : R15 w vF (n + 1) (21, L, S, H, cs, ss) = pI S fun y S => pI S fun x r => if x = y then R15 w vF n (26, L, r, H, cs, ss) else R15 w vF n (24, L, r, H, cs, ss) := s_icmp (Q := fun x y => x = y) (fun _ _ => h_eq) k15_21 (by decide) (by decide)
theorem s15_24 {n cs ss : Nat} {L : List Slot} {S : List Value} {H : AH} : R15 w vF (n + 1) (24, L, S, H, cs, ss) = R15 w vF n (25, L, (.int 0 :: S), H, cs, ss) := s_any k15_24
theorem s15_25 {n cs ss : Nat} {L : List Slot} {S : List Value} {H : AH} : R15 w vF (n + 1) (25, L, S, H, cs, ss) = pI S fun z _ => some (some (.int (z &&& 1)), H) := s_any k15_25
theorem s15_26 {n cs ss : Nat} {L : List Slot} {S : List Value} {H : AH} : R15 w vF (n + 1) (26, L, S, H, cs, ss) = (gI L 2).bind fun v => (st1 L 2 (.int (v + 1))).bind fun L' => R15 w vF n (29, L', S, H, cs, ss) := s_any k15_26
theorem s15_29 {n cs ss : Nat} {L : List Slot} {S : List Value} {H : AH} : R15 w vF (n + 1) (29, L, S, H, cs, ss) = R15 w vF n (9, L, S, H, cs, ss) := s_goto k15_29 (by decide) (by decide)
theorem s15_32 {n cs ss : Nat} {L : List Slot} {S : List Value} {H : AH} : R15 w vF (n + 1) (32, L, S, H, cs, ss) = R15 w vF n (33, L, (.int 1 :: S), H, cs, ss) := s_any k15_32
theorem s15_33 {n cs ss : Nat} {L : List Slot} {S : List Value} {H : AH} : R15 w vF (n + 1) (33, L, S, H, cs, ss) = pI S fun z _ => some (some (.int (z &&& 1)), H) := s_any k15_33
theorem s15_34 {n cs ss : Nat} {L : List Slot} {S : List Value} {H : AH} : R15 w vF (n + 1) (34, L, S, H, cs, ss) = R15 w vF n (35, L, (.int 0 :: S), H, cs, ss) := s_any k15_34
theorem s15_35 {n cs ss : Nat} {L : List Slot} {S : List Value} {H : AH} : R15 w vF (n + 1) (35, L, S, H, cs, ss) = pI S fun z _ => some (some (.int (z &&& 1)), H) := s_any k15_35
theorem t15_0 {go : GT} (hgo : go = R15 w vF) {n cs ss : Nat} {l1 l2 : Slot} {S : List Value} {H : AH} {q : QT} {v : Value} (hv : isA v = true) (h : Rsq (go n (1, [.val v, l1, l2], (v :: S), H, cs, ss)) q) : Rsq (go (n + 1) (0, [.val v, l1, l2], S, H, cs, ss)) q := by
  subst hgo
  refine res_of s15_0 ?_
  rw [gA_isA (L := [.val v, l1, l2]) (k := 0) (v := v) rfl hv]
  exact h
theorem u15_1 {go : GT} (hgo : go = R15 w vF) {n cs ss : Nat} {L : List Slot} {S : List Value} {H : AH} : go (n + 1) (1, L, S, H, cs, ss) = pR S fun a r => (arr H a).bind fun q => go n (2, L, .int (ln q.2) :: r, H, cs, ss) := by
  subst hgo
  exact s15_1
theorem t15_2 {go : GT} (hgo : go = R15 w vF) {n cs ss : Nat} {l0 l2 : Slot} {S : List Value} {H : AH} {q : QT} {v : Value} (hv : isA v = true) (h : Rsq (go n (3, [l0, .val v, l2], (v :: S), H, cs, ss)) q) : Rsq (go (n + 1) (2, [l0, .val v, l2], S, H, cs, ss)) q := by
  subst hgo
  refine res_of s15_2 ?_
  rw [gA_isA (L := [l0, .val v, l2]) (k := 1) (v := v) rfl hv]
  exact h
theorem u15_3 {go : GT} (hgo : go = R15 w vF) {n cs ss : Nat} {L : List Slot} {S : List Value} {H : AH} : go (n + 1) (3, L, S, H, cs, ss) = pR S fun a r => (arr H a).bind fun q => go n (4, L, .int (ln q.2) :: r, H, cs, ss) := by
  subst hgo
  exact s15_3
theorem t15_4t {go : GT} (hgo : go = R15 w vF) {n cs ss : Nat} {L : List Slot} {S : List Value} {H : AH} {q : QT} {x y : Int32} (hc : x = y) (h : Rsq (go n (7, L, S, H, cs, ss)) q) : Rsq (go (n + 1) (4, L, (.int y :: .int x :: S), H, cs, ss)) q := by
  subst hgo
  exact res_of s15_4 (res_t hc h)
theorem t15_4f {go : GT} (hgo : go = R15 w vF) {n cs ss : Nat} {L : List Slot} {S : List Value} {H : AH} {q : QT} {x y : Int32} (hc : ¬ x = y) (h : Rsq (go n (34, L, S, H, cs, ss)) q) : Rsq (go (n + 1) (4, L, (.int y :: .int x :: S), H, cs, ss)) q := by
  subst hgo
  exact res_of s15_4 (res_f hc h)
theorem t15_7 {go : GT} (hgo : go = R15 w vF) {n cs ss : Nat} {L : List Slot} {S : List Value} {H : AH} {q : QT} (h : Rsq (go n (8, L, (.int 0 :: S), H, cs, ss)) q) : Rsq (go (n + 1) (7, L, S, H, cs, ss)) q := by
  subst hgo
  exact res_of s15_7 h
theorem t15_8 {go : GT} (hgo : go = R15 w vF) {n cs ss : Nat} {l0 l1 l2 : Slot} {S : List Value} {H : AH} {q : QT} {x : Int32} (hk : so l2 = true) (h : Rsq (go n (9, [l0, l1, .val (.int x)], S, H, cs, ss)) q) : Rsq (go (n + 1) (8, [l0, l1, l2], (.int x :: S), H, cs, ss)) q := by
  subst hgo
  refine res_of s15_8 ?_
  rw [pI_int, st1_so (L := [l0, l1, l2]) (k := 2) (l := l2) rfl hk]
  exact h
theorem t15_9 {go : GT} (hgo : go = R15 w vF) {n cs ss : Nat} {l0 l1 : Slot} {S : List Value} {H : AH} {q : QT} {v : Int32} (h : Rsq (go n (10, [l0, l1, .val (.int v)], (.int v :: S), H, cs, ss)) q) : Rsq (go (n + 1) (9, [l0, l1, .val (.int v)], S, H, cs, ss)) q := by
  subst hgo
  exact res_of s15_9 h
theorem t15_10 {go : GT} (hgo : go = R15 w vF) {n cs ss : Nat} {l1 l2 : Slot} {S : List Value} {H : AH} {q : QT} {v : Value} (hv : isA v = true) (h : Rsq (go n (11, [.val v, l1, l2], (v :: S), H, cs, ss)) q) : Rsq (go (n + 1) (10, [.val v, l1, l2], S, H, cs, ss)) q := by
  subst hgo
  refine res_of s15_10 ?_
  rw [gA_isA (L := [.val v, l1, l2]) (k := 0) (v := v) rfl hv]
  exact h
theorem u15_11 {go : GT} (hgo : go = R15 w vF) {n cs ss : Nat} {L : List Slot} {S : List Value} {H : AH} : go (n + 1) (11, L, S, H, cs, ss) = pR S fun a r => (arr H a).bind fun q => go n (12, L, .int (ln q.2) :: r, H, cs, ss) := by
  subst hgo
  exact s15_11
theorem t15_12t {go : GT} (hgo : go = R15 w vF) {n cs ss : Nat} {L : List Slot} {S : List Value} {H : AH} {q : QT} {x y : Int32} (hc : x < y) (h : Rsq (go n (15, L, S, H, cs, ss)) q) : Rsq (go (n + 1) (12, L, (.int y :: .int x :: S), H, cs, ss)) q := by
  subst hgo
  exact res_of s15_12 (res_t hc h)
theorem t15_12f {go : GT} (hgo : go = R15 w vF) {n cs ss : Nat} {L : List Slot} {S : List Value} {H : AH} {q : QT} {x y : Int32} (hc : ¬ x < y) (h : Rsq (go n (32, L, S, H, cs, ss)) q) : Rsq (go (n + 1) (12, L, (.int y :: .int x :: S), H, cs, ss)) q := by
  subst hgo
  exact res_of s15_12 (res_f hc h)
theorem t15_15 {go : GT} (hgo : go = R15 w vF) {n cs ss : Nat} {l1 l2 : Slot} {S : List Value} {H : AH} {q : QT} {v : Value} (hv : isA v = true) (h : Rsq (go n (16, [.val v, l1, l2], (v :: S), H, cs, ss)) q) : Rsq (go (n + 1) (15, [.val v, l1, l2], S, H, cs, ss)) q := by
  subst hgo
  refine res_of s15_15 ?_
  rw [gA_isA (L := [.val v, l1, l2]) (k := 0) (v := v) rfl hv]
  exact h
theorem t15_16 {go : GT} (hgo : go = R15 w vF) {n cs ss : Nat} {l0 l1 : Slot} {S : List Value} {H : AH} {q : QT} {v : Int32} (h : Rsq (go n (17, [l0, l1, .val (.int v)], (.int v :: S), H, cs, ss)) q) : Rsq (go (n + 1) (16, [l0, l1, .val (.int v)], S, H, cs, ss)) q := by
  subst hgo
  exact res_of s15_16 h
theorem u15_17 {go : GT} (hgo : go = R15 w vF) {n cs ss : Nat} {L : List Slot} {S : List Value} {H : AH} : go (n + 1) (17, L, S, H, cs, ss) = ex (Option.some Jvm.ClassFile.FieldType.boolean) (E15 w vF) 25 (go n) (.baload) 17 L S H cs ss := by
  subst hgo
  exact s15_17
theorem t15_18 {go : GT} (hgo : go = R15 w vF) {n cs ss : Nat} {l0 l2 : Slot} {S : List Value} {H : AH} {q : QT} {v : Value} (hv : isA v = true) (h : Rsq (go n (19, [l0, .val v, l2], (v :: S), H, cs, ss)) q) : Rsq (go (n + 1) (18, [l0, .val v, l2], S, H, cs, ss)) q := by
  subst hgo
  refine res_of s15_18 ?_
  rw [gA_isA (L := [l0, .val v, l2]) (k := 1) (v := v) rfl hv]
  exact h
theorem t15_19 {go : GT} (hgo : go = R15 w vF) {n cs ss : Nat} {l0 l1 : Slot} {S : List Value} {H : AH} {q : QT} {v : Int32} (h : Rsq (go n (20, [l0, l1, .val (.int v)], (.int v :: S), H, cs, ss)) q) : Rsq (go (n + 1) (19, [l0, l1, .val (.int v)], S, H, cs, ss)) q := by
  subst hgo
  exact res_of s15_19 h
theorem u15_20 {go : GT} (hgo : go = R15 w vF) {n cs ss : Nat} {L : List Slot} {S : List Value} {H : AH} : go (n + 1) (20, L, S, H, cs, ss) = ex (Option.some Jvm.ClassFile.FieldType.boolean) (E15 w vF) 25 (go n) (.baload) 20 L S H cs ss := by
  subst hgo
  exact s15_20
theorem t15_21t {go : GT} (hgo : go = R15 w vF) {n cs ss : Nat} {L : List Slot} {S : List Value} {H : AH} {q : QT} {x y : Int32} (hc : x = y) (h : Rsq (go n (26, L, S, H, cs, ss)) q) : Rsq (go (n + 1) (21, L, (.int y :: .int x :: S), H, cs, ss)) q := by
  subst hgo
  exact res_of s15_21 (res_t hc h)
theorem t15_21f {go : GT} (hgo : go = R15 w vF) {n cs ss : Nat} {L : List Slot} {S : List Value} {H : AH} {q : QT} {x y : Int32} (hc : ¬ x = y) (h : Rsq (go n (24, L, S, H, cs, ss)) q) : Rsq (go (n + 1) (21, L, (.int y :: .int x :: S), H, cs, ss)) q := by
  subst hgo
  exact res_of s15_21 (res_f hc h)
theorem t15_24 {go : GT} (hgo : go = R15 w vF) {n cs ss : Nat} {L : List Slot} {S : List Value} {H : AH} {q : QT} (h : Rsq (go n (25, L, (.int 0 :: S), H, cs, ss)) q) : Rsq (go (n + 1) (24, L, S, H, cs, ss)) q := by
  subst hgo
  exact res_of s15_24 h
theorem t15_25 {go : GT} (hgo : go = R15 w vF) {n cs ss : Nat} {L : List Slot} {S : List Value} {H : AH} {q : QT} {z : Int32} (h : q (some (some (.int (z &&& 1)), H))) : Rsq (go (n + 1) (25, L, (.int z :: S), H, cs, ss)) q := by
  subst hgo
  exact res_of s15_25 h
theorem t15_26 {go : GT} (hgo : go = R15 w vF) {n cs ss : Nat} {l0 l1 : Slot} {S : List Value} {H : AH} {q : QT} {v : Int32} (h : Rsq (go n (29, [l0, l1, .val (.int (v + 1))], S, H, cs, ss)) q) : Rsq (go (n + 1) (26, [l0, l1, .val (.int v)], S, H, cs, ss)) q := by
  subst hgo
  exact res_of s15_26 h
theorem t15_29 {go : GT} (hgo : go = R15 w vF) {n cs ss : Nat} {L : List Slot} {S : List Value} {H : AH} {q : QT} (h : Rsq (go n (9, L, S, H, cs, ss)) q) : Rsq (go (n + 1) (29, L, S, H, cs, ss)) q := by
  subst hgo
  exact res_of s15_29 h
theorem t15_32 {go : GT} (hgo : go = R15 w vF) {n cs ss : Nat} {L : List Slot} {S : List Value} {H : AH} {q : QT} (h : Rsq (go n (33, L, (.int 1 :: S), H, cs, ss)) q) : Rsq (go (n + 1) (32, L, S, H, cs, ss)) q := by
  subst hgo
  exact res_of s15_32 h
theorem t15_33 {go : GT} (hgo : go = R15 w vF) {n cs ss : Nat} {L : List Slot} {S : List Value} {H : AH} {q : QT} {z : Int32} (h : q (some (some (.int (z &&& 1)), H))) : Rsq (go (n + 1) (33, L, (.int z :: S), H, cs, ss)) q := by
  subst hgo
  exact res_of s15_33 h
theorem t15_34 {go : GT} (hgo : go = R15 w vF) {n cs ss : Nat} {L : List Slot} {S : List Value} {H : AH} {q : QT} (h : Rsq (go n (35, L, (.int 0 :: S), H, cs, ss)) q) : Rsq (go (n + 1) (34, L, S, H, cs, ss)) q := by
  subst hgo
  exact res_of s15_34 h
theorem t15_35 {go : GT} (hgo : go = R15 w vF) {n cs ss : Nat} {L : List Slot} {S : List Value} {H : AH} {q : QT} {z : Int32} (h : q (some (some (.int (z &&& 1)), H))) : Rsq (go (n + 1) (35, L, (.int z :: S), H, cs, ss)) q := by
  subst hgo
  exact res_of s15_35 h
theorem f14_in {x0 : Nat} {x1 : Nat} {H : AH} : (F14 w vF) [.ref x0, .ref x1] H = R14 w vF 96 (0, [.val (.ref x0), .val (.ref x1), .unset], [], H, 0, 0) := rfl
theorem f14_inn {x0 : Nat} {H : AH} : (F14 w vF) [.ref x0, .null] H = R14 w vF 96 (0, [.val (.ref x0), .val .null, .unset], [], H, 0, 0) := rfl
theorem s14_0 {n cs ss : Nat} {L : List Slot} {S : List Value} {H : AH} : R14 w vF (n + 1) (0, L, S, H, cs, ss) = (gA L 0).bind fun v => R14 w vF n (1, L, v :: S, H, cs, ss) := s_any k14_0
theorem s14_1 {n cs ss : Nat} {L : List Slot} {S : List Value} {H : AH} : R14 w vF (n + 1) (1, L, S, H, cs, ss) = (gA L 1).bind fun v => R14 w vF n (2, L, v :: S, H, cs, ss) := s_any k14_1
theorem s14_2 {n cs ss : Nat} {L : List Slot} {S : List Value} {H : AH} : R14 w vF (n + 1) (2, L, S, H, cs, ss) = ex (Option.some Jvm.ClassFile.FieldType.boolean) (E14 w vF) 25 (R14 w vF n) (.if_acmp .ne 5) 2 L S H cs ss := s_any k14_2
theorem s14_7 {n cs ss : Nat} {L : List Slot} {S : List Value} {H : AH} : R14 w vF (n + 1) (7, L, S, H, cs, ss) = (gA L 1).bind fun v => R14 w vF n (8, L, v :: S, H, cs, ss) := s_any k14_7
theorem s14_8 {n cs ss : Nat} {L : List Slot} {S : List Value} {H : AH} : R14 w vF (n + 1) (8, L, S, H, cs, ss) = (aInst 0 S H cs ss).bind fun r => R14 w vF n (11, L, r.1, r.2.1, r.2.2.1, r.2.2.2) := s_any k14_8
theorem s14_11 {n cs ss : Nat} {L : List Slot} {S : List Value} {H : AH} : R14 w vF (n + 1) (11, L, S, H, cs, ss) = pI S fun x r => if x = 0 then R14 w vF n (54, L, r, H, cs, ss) else R14 w vF n (14, L, r, H, cs, ss) := s_if (Q := fun x => x = 0) (fun _ => z_eq) k14_11 (by decide) (by decide)
theorem s14_14 {n cs ss : Nat} {L : List Slot} {S : List Value} {H : AH} : R14 w vF (n + 1) (14, L, S, H, cs, ss) = (gA L 1).bind fun v => R14 w vF n (15, L, v :: S, H, cs, ss) := s_any k14_14
theorem s14_15 {n cs ss : Nat} {L : List Slot} {S : List Value} {H : AH} : R14 w vF (n + 1) (15, L, S, H, cs, ss) = (aCastO 0 S H cs ss).bind fun r => R14 w vF n (18, L, r.1, r.2.1, r.2.2.1, r.2.2.2) := s_any k14_15
theorem s14_18 {n cs ss : Nat} {L : List Slot} {S : List Value} {H : AH} : R14 w vF (n + 1) (18, L, S, H, cs, ss) = pA S fun x r => (st1 L 2 x).bind fun L' => R14 w vF n (19, L', r, H, cs, ss) := s_any k14_18
theorem s14_19 {n cs ss : Nat} {L : List Slot} {S : List Value} {H : AH} : R14 w vF (n + 1) (19, L, S, H, cs, ss) = (aSta (.int w) S H cs ss).bind fun r => R14 w vF n (22, L, r.1, r.2.1, r.2.2.1, r.2.2.2) := s_any k14_19
theorem s14_22 {n cs ss : Nat} {L : List Slot} {S : List Value} {H : AH} : R14 w vF (n + 1) (22, L, S, H, cs, ss) = pI S fun x r => if x = 0 then R14 w vF n (36, L, r, H, cs, ss) else R14 w vF n (25, L, r, H, cs, ss) := s_if (Q := fun x => x = 0) (fun _ => z_eq) k14_22 (by decide) (by decide)
theorem s14_25 {n cs ss : Nat} {L : List Slot} {S : List Value} {H : AH} : R14 w vF (n + 1) (25, L, S, H, cs, ss) = (gA L 0).bind fun v => R14 w vF n (26, L, v :: S, H, cs, ss) := s_any k14_25
theorem s14_26 {n cs ss : Nat} {L : List Slot} {S : List Value} {H : AH} : R14 w vF (n + 1) (26, L, S, H, cs, ss) = (aGet 0 1 S H cs ss).bind fun r => R14 w vF n (29, L, r.1, r.2.1, r.2.2.1, r.2.2.2) := s_any k14_26
theorem s14_29 {n cs ss : Nat} {L : List Slot} {S : List Value} {H : AH} : R14 w vF (n + 1) (29, L, S, H, cs, ss) = (gA L 2).bind fun v => R14 w vF n (30, L, v :: S, H, cs, ss) := s_any k14_29
theorem s14_30 {n cs ss : Nat} {L : List Slot} {S : List Value} {H : AH} : R14 w vF (n + 1) (30, L, S, H, cs, ss) = (aGet 0 1 S H cs ss).bind fun r => R14 w vF n (33, L, r.1, r.2.1, r.2.2.1, r.2.2.2) := s_any k14_30
theorem s14_33 {n cs ss : Nat} {L : List Slot} {S : List Value} {H : AH} : R14 w vF (n + 1) (33, L, S, H, cs, ss) = pI S fun y S => pI S fun x r => if x = y then R14 w vF n (36, L, r, H, cs, ss) else R14 w vF n (54, L, r, H, cs, ss) := s_icmpN (Q := fun x y => x = y) (fun _ _ => h_ne) k14_33 (by decide) (by decide)
theorem s14_36 {n cs ss : Nat} {L : List Slot} {S : List Value} {H : AH} : R14 w vF (n + 1) (36, L, S, H, cs, ss) = (gA L 0).bind fun v => R14 w vF n (37, L, v :: S, H, cs, ss) := s_any k14_36
theorem s14_37 {n cs ss : Nat} {L : List Slot} {S : List Value} {H : AH} : R14 w vF (n + 1) (37, L, S, H, cs, ss) = (aGet 0 0 S H cs ss).bind fun r => R14 w vF n (40, L, r.1, r.2.1, r.2.2.1, r.2.2.2) := s_any k14_37
theorem s14_40 {n cs ss : Nat} {L : List Slot} {S : List Value} {H : AH} : R14 w vF (n + 1) (40, L, S, H, cs, ss) = (gA L 2).bind fun v => R14 w vF n (41, L, v :: S, H, cs, ss) := s_any k14_40
theorem s14_41 {n cs ss : Nat} {L : List Slot} {S : List Value} {H : AH} : R14 w vF (n + 1) (41, L, S, H, cs, ss) = (aGet 0 0 S H cs ss).bind fun r => R14 w vF n (44, L, r.1, r.2.1, r.2.2.1, r.2.2.2) := s_any k14_41
theorem s14_44 {n cs ss : Nat} {L : List Slot} {S : List Value} {H : AH} : R14 w vF (n + 1) (44, L, S, H, cs, ss) = (aCall 2 6 0 0 0 0 (F15 w vF) S H cs ss).bind fun r => R14 w vF n (47, L, r.1, r.2.1, r.2.2.1, r.2.2.2) := s_any k14_44
theorem s14_47 {n cs ss : Nat} {L : List Slot} {S : List Value} {H : AH} : R14 w vF (n + 1) (47, L, S, H, cs, ss) = pI S fun x r => if x = 0 then R14 w vF n (54, L, r, H, cs, ss) else R14 w vF n (50, L, r, H, cs, ss) := s_if (Q := fun x => x = 0) (fun _ => z_eq) k14_47 (by decide) (by decide)
theorem s14_50 {n cs ss : Nat} {L : List Slot} {S : List Value} {H : AH} : R14 w vF (n + 1) (50, L, S, H, cs, ss) = R14 w vF n (51, L, (.int 1 :: S), H, cs, ss) := s_any k14_50
theorem s14_51 {n cs ss : Nat} {L : List Slot} {S : List Value} {H : AH} : R14 w vF (n + 1) (51, L, S, H, cs, ss) = R14 w vF n (55, L, S, H, cs, ss) := s_goto k14_51 (by decide) (by decide)
theorem s14_54 {n cs ss : Nat} {L : List Slot} {S : List Value} {H : AH} : R14 w vF (n + 1) (54, L, S, H, cs, ss) = R14 w vF n (55, L, (.int 0 :: S), H, cs, ss) := s_any k14_54
theorem s14_55 {n cs ss : Nat} {L : List Slot} {S : List Value} {H : AH} : R14 w vF (n + 1) (55, L, S, H, cs, ss) = pI S fun z _ => some (some (.int (z &&& 1)), H) := s_any k14_55
theorem t14_0 {go : GT} (hgo : go = R14 w vF) {n cs ss : Nat} {l1 l2 : Slot} {S : List Value} {H : AH} {q : QT} {v : Value} (hv : isA v = true) (h : Rsq (go n (1, [.val v, l1, l2], (v :: S), H, cs, ss)) q) : Rsq (go (n + 1) (0, [.val v, l1, l2], S, H, cs, ss)) q := by
  subst hgo
  refine res_of s14_0 ?_
  rw [gA_isA (L := [.val v, l1, l2]) (k := 0) (v := v) rfl hv]
  exact h
theorem t14_1 {go : GT} (hgo : go = R14 w vF) {n cs ss : Nat} {l0 l2 : Slot} {S : List Value} {H : AH} {q : QT} {v : Value} (hv : isA v = true) (h : Rsq (go n (2, [l0, .val v, l2], (v :: S), H, cs, ss)) q) : Rsq (go (n + 1) (1, [l0, .val v, l2], S, H, cs, ss)) q := by
  subst hgo
  refine res_of s14_1 ?_
  rw [gA_isA (L := [l0, .val v, l2]) (k := 1) (v := v) rfl hv]
  exact h
theorem t14_2f {go : GT} (hgo : go = R14 w vF) {n cs ss : Nat} {L : List Slot} {S : List Value} {H : AH} {q : QT} {a b : Nat} (hc : ¬ a = b) (ho : okc 25 (.ref a) (.ref b) = true) (h : Rsq (go n (7, L, S, H, cs, ss)) q) : Rsq (go (n + 1) (2, L, (.ref b :: .ref a :: S), H, cs, ss)) q := by
  subst hgo
  refine res_of s14_2 ?_
  simp only [nr_i, nr_j, nr_a, nr_o, nr_b, nr_b1, nr_b0, ft_i, ft_j, ft_a, ft_o, ft_b, ft_b1, ft_b0, rV_nil, b_1, b_0, b_1r, b_0r, b_bb, b_and, i_10, i_01, eq_self, iff_self, not_true_eq_false, not_false_eq_true, ite_not, cat_int, cat_long, cat_ref, cat_null, and11, and01, Nat.reduceAdd, Nat.reduceSub, Nat.reduceMul, Nat.reduceLT, Nat.reduceLeDiff, Nat.reduceEqDiff, Int32.reduceAdd, Int32.reduceSub, Int32.reduceMul, Int32.reduceMod, Int32.reduceLT, Int32.reduceLE, Int32.reduceToNatClampNeg, Int64.reduceAdd, Int64.reduceSub, Int64.reduceLT, Nat.le_refl, Nat.zero_add, Nat.add_zero, and_self, Option.bind_some, Option.bind_none, gI, gL, gA, st1, st2, pI_int, pL_long, pA_ref, pA_null, pR_ref, p1_int, p1_ref, p1_null, ex_ishl, ex_ishr, ex_iushr, ex_idiv, ex_irem, ex_ineg, ex_i2b, ex_i2c, ex_i2s, ex_i2l, ex_l2i, ex_lneg, ex_lshl, ex_lshr, ex_lushr, ex_ldiv, ex_lrem, ex_lcmp, ex_dup, ex_pop, ex_dup_x1, ex_dup2, ex_ifnull, ex_ifnonnull, ex_if_acmp, ex_arraylength, ex_iaload, ex_baload, ex_caload, ex_laload, ex_aaload, ex_iastore, ex_bastore, ex_castore, ex_lastore, ex_ldc, ex_ldc_w, ex_ldc2_w, ex_getfield, ex_putfield, ex_getstatic, ex_new, ex_invokestatic, ex_invokespecial, ex_invokevirtual, ex_checkcast, ex_instanceof, ex_anewarray, ex_newarray, ex_ireturn, ex_lreturn, ex_areturn, ex_return, br_d, br_n, br_t, br_f, spc, look, aI, aJ, aGet, aPut, aNew, aArr, aObj, aCall, aRecv, obj, arr, ald, ast, astL, isT, isBZ, atn, refEq, acV, List.getElem?_cons_zero, List.getElem?_cons_succ, List.set_cons_zero, List.set_cons_succ, List.take_succ_cons, List.take_zero, List.drop_succ_cons, List.drop_zero, List.reverse_cons, List.reverse_nil, List.nil_append, List.cons_append, List.map_cons, List.map_nil, List.sum_cons, List.sum_nil, List.length_cons, List.length_nil, Option.toList_some, Option.toList_none, List.append_nil, true_and, and_true, not_false_eq_true, decide_true, decide_false, Bool.not_true, Bool.not_false, if_true, if_false, reduceIte, Option.map_some, nar, defaultValue, List.replicate_zero, List.replicate_succ, ln0, ln1, ln2, ln3, ln4, ln5, ln6, ln7, ln8, ln9, ln10, ln11, ln12, ln13, ln14, ln15, ln16, ln17, ln18, ln19, ln20, ln21, ln22, ln23, ln24, ln25, ln26, ln27, ln28, ln29, ln30, ln31, ln32, ln33, ln34, ln35, ln36, aSta, hc, ho]
  exact h
theorem t14_7 {go : GT} (hgo : go = R14 w vF) {n cs ss : Nat} {l0 l2 : Slot} {S : List Value} {H : AH} {q : QT} {v : Value} (hv : isA v = true) (h : Rsq (go n (8, [l0, .val v, l2], (v :: S), H, cs, ss)) q) : Rsq (go (n + 1) (7, [l0, .val v, l2], S, H, cs, ss)) q := by
  subst hgo
  refine res_of s14_7 ?_
  rw [gA_isA (L := [l0, .val v, l2]) (k := 1) (v := v) rfl hv]
  exact h
theorem u14_8 {go : GT} (hgo : go = R14 w vF) {n cs ss : Nat} {L : List Slot} {S : List Value} {H : AH} : go (n + 1) (8, L, S, H, cs, ss) = (aInst 0 S H cs ss).bind fun r => go n (11, L, r.1, r.2.1, r.2.2.1, r.2.2.2) := by
  subst hgo
  exact s14_8
theorem t14_11f {go : GT} (hgo : go = R14 w vF) {n cs ss : Nat} {L : List Slot} {S : List Value} {H : AH} {q : QT} {x : Int32} (hc : ¬ x = 0) (h : Rsq (go n (14, L, S, H, cs, ss)) q) : Rsq (go (n + 1) (11, L, (.int x :: S), H, cs, ss)) q := by
  subst hgo
  exact res_of s14_11 (res_f hc h)
theorem t14_14 {go : GT} (hgo : go = R14 w vF) {n cs ss : Nat} {l0 l2 : Slot} {S : List Value} {H : AH} {q : QT} {v : Value} (hv : isA v = true) (h : Rsq (go n (15, [l0, .val v, l2], (v :: S), H, cs, ss)) q) : Rsq (go (n + 1) (14, [l0, .val v, l2], S, H, cs, ss)) q := by
  subst hgo
  refine res_of s14_14 ?_
  rw [gA_isA (L := [l0, .val v, l2]) (k := 1) (v := v) rfl hv]
  exact h
theorem u14_15 {go : GT} (hgo : go = R14 w vF) {n cs ss : Nat} {L : List Slot} {S : List Value} {H : AH} : go (n + 1) (15, L, S, H, cs, ss) = (aCastO 0 S H cs ss).bind fun r => go n (18, L, r.1, r.2.1, r.2.2.1, r.2.2.2) := by
  subst hgo
  exact s14_15
theorem t14_18 {go : GT} (hgo : go = R14 w vF) {n cs ss : Nat} {l0 l1 l2 : Slot} {S : List Value} {H : AH} {q : QT} {v : Value} (hv : isA v = true) (hk : so l2 = true) (h : Rsq (go n (19, [l0, l1, .val v], S, H, cs, ss)) q) : Rsq (go (n + 1) (18, [l0, l1, l2], (v :: S), H, cs, ss)) q := by
  subst hgo
  refine res_of s14_18 ?_
  rw [pA_isA hv, st1_so (L := [l0, l1, l2]) (k := 2) (l := l2) rfl hk]
  exact h
theorem u14_19 {go : GT} (hgo : go = R14 w vF) {n cs ss : Nat} {L : List Slot} {S : List Value} {H : AH} : go (n + 1) (19, L, S, H, cs, ss) = (aSta (.int w) S H cs ss).bind fun r => go n (22, L, r.1, r.2.1, r.2.2.1, r.2.2.2) := by
  subst hgo
  exact s14_19
theorem t14_22f {go : GT} (hgo : go = R14 w vF) {n cs ss : Nat} {L : List Slot} {S : List Value} {H : AH} {q : QT} {x : Int32} (hc : ¬ x = 0) (h : Rsq (go n (25, L, S, H, cs, ss)) q) : Rsq (go (n + 1) (22, L, (.int x :: S), H, cs, ss)) q := by
  subst hgo
  exact res_of s14_22 (res_f hc h)
theorem t14_25 {go : GT} (hgo : go = R14 w vF) {n cs ss : Nat} {l1 l2 : Slot} {S : List Value} {H : AH} {q : QT} {v : Value} (hv : isA v = true) (h : Rsq (go n (26, [.val v, l1, l2], (v :: S), H, cs, ss)) q) : Rsq (go (n + 1) (25, [.val v, l1, l2], S, H, cs, ss)) q := by
  subst hgo
  refine res_of s14_25 ?_
  rw [gA_isA (L := [.val v, l1, l2]) (k := 0) (v := v) rfl hv]
  exact h
theorem u14_26 {go : GT} (hgo : go = R14 w vF) {n cs ss : Nat} {L : List Slot} {S : List Value} {H : AH} : go (n + 1) (26, L, S, H, cs, ss) = (aGet 0 1 S H cs ss).bind fun r => go n (29, L, r.1, r.2.1, r.2.2.1, r.2.2.2) := by
  subst hgo
  exact s14_26
theorem t14_29 {go : GT} (hgo : go = R14 w vF) {n cs ss : Nat} {l0 l1 : Slot} {S : List Value} {H : AH} {q : QT} {v : Value} (hv : isA v = true) (h : Rsq (go n (30, [l0, l1, .val v], (v :: S), H, cs, ss)) q) : Rsq (go (n + 1) (29, [l0, l1, .val v], S, H, cs, ss)) q := by
  subst hgo
  refine res_of s14_29 ?_
  rw [gA_isA (L := [l0, l1, .val v]) (k := 2) (v := v) rfl hv]
  exact h
theorem u14_30 {go : GT} (hgo : go = R14 w vF) {n cs ss : Nat} {L : List Slot} {S : List Value} {H : AH} : go (n + 1) (30, L, S, H, cs, ss) = (aGet 0 1 S H cs ss).bind fun r => go n (33, L, r.1, r.2.1, r.2.2.1, r.2.2.2) := by
  subst hgo
  exact s14_30
theorem t14_33t {go : GT} (hgo : go = R14 w vF) {n cs ss : Nat} {L : List Slot} {S : List Value} {H : AH} {q : QT} {x y : Int32} (hc : x = y) (h : Rsq (go n (36, L, S, H, cs, ss)) q) : Rsq (go (n + 1) (33, L, (.int y :: .int x :: S), H, cs, ss)) q := by
  subst hgo
  exact res_of s14_33 (res_t hc h)
theorem t14_36 {go : GT} (hgo : go = R14 w vF) {n cs ss : Nat} {l1 l2 : Slot} {S : List Value} {H : AH} {q : QT} {v : Value} (hv : isA v = true) (h : Rsq (go n (37, [.val v, l1, l2], (v :: S), H, cs, ss)) q) : Rsq (go (n + 1) (36, [.val v, l1, l2], S, H, cs, ss)) q := by
  subst hgo
  refine res_of s14_36 ?_
  rw [gA_isA (L := [.val v, l1, l2]) (k := 0) (v := v) rfl hv]
  exact h
theorem u14_37 {go : GT} (hgo : go = R14 w vF) {n cs ss : Nat} {L : List Slot} {S : List Value} {H : AH} : go (n + 1) (37, L, S, H, cs, ss) = (aGet 0 0 S H cs ss).bind fun r => go n (40, L, r.1, r.2.1, r.2.2.1, r.2.2.2) := by
  subst hgo
  exact s14_37
theorem t14_40 {go : GT} (hgo : go = R14 w vF) {n cs ss : Nat} {l0 l1 : Slot} {S : List Value} {H : AH} {q : QT} {v : Value} (hv : isA v = true) (h : Rsq (go n (41, [l0, l1, .val v], (v :: S), H, cs, ss)) q) : Rsq (go (n + 1) (40, [l0, l1, .val v], S, H, cs, ss)) q := by
  subst hgo
  refine res_of s14_40 ?_
  rw [gA_isA (L := [l0, l1, .val v]) (k := 2) (v := v) rfl hv]
  exact h
theorem u14_41 {go : GT} (hgo : go = R14 w vF) {n cs ss : Nat} {L : List Slot} {S : List Value} {H : AH} : go (n + 1) (41, L, S, H, cs, ss) = (aGet 0 0 S H cs ss).bind fun r => go n (44, L, r.1, r.2.1, r.2.2.1, r.2.2.2) := by
  subst hgo
  exact s14_41
theorem u14_44 {go : GT} (hgo : go = R14 w vF) {n cs ss : Nat} {L : List Slot} {S : List Value} {H : AH} : go (n + 1) (44, L, S, H, cs, ss) = (aCall 2 6 0 0 0 0 (F15 w vF) S H cs ss).bind fun r => go n (47, L, r.1, r.2.1, r.2.2.1, r.2.2.2) := by
  subst hgo
  exact s14_44
theorem t14_47t {go : GT} (hgo : go = R14 w vF) {n cs ss : Nat} {L : List Slot} {S : List Value} {H : AH} {q : QT} {x : Int32} (hc : x = 0) (h : Rsq (go n (54, L, S, H, cs, ss)) q) : Rsq (go (n + 1) (47, L, (.int x :: S), H, cs, ss)) q := by
  subst hgo
  exact res_of s14_47 (res_t hc h)
theorem t14_47f {go : GT} (hgo : go = R14 w vF) {n cs ss : Nat} {L : List Slot} {S : List Value} {H : AH} {q : QT} {x : Int32} (hc : ¬ x = 0) (h : Rsq (go n (50, L, S, H, cs, ss)) q) : Rsq (go (n + 1) (47, L, (.int x :: S), H, cs, ss)) q := by
  subst hgo
  exact res_of s14_47 (res_f hc h)
theorem t14_50 {go : GT} (hgo : go = R14 w vF) {n cs ss : Nat} {L : List Slot} {S : List Value} {H : AH} {q : QT} (h : Rsq (go n (51, L, (.int 1 :: S), H, cs, ss)) q) : Rsq (go (n + 1) (50, L, S, H, cs, ss)) q := by
  subst hgo
  exact res_of s14_50 h
theorem t14_51 {go : GT} (hgo : go = R14 w vF) {n cs ss : Nat} {L : List Slot} {S : List Value} {H : AH} {q : QT} (h : Rsq (go n (55, L, S, H, cs, ss)) q) : Rsq (go (n + 1) (51, L, S, H, cs, ss)) q := by
  subst hgo
  exact res_of s14_51 h
theorem t14_54 {go : GT} (hgo : go = R14 w vF) {n cs ss : Nat} {L : List Slot} {S : List Value} {H : AH} {q : QT} (h : Rsq (go n (55, L, (.int 0 :: S), H, cs, ss)) q) : Rsq (go (n + 1) (54, L, S, H, cs, ss)) q := by
  subst hgo
  exact res_of s14_54 h
theorem t14_55 {go : GT} (hgo : go = R14 w vF) {n cs ss : Nat} {L : List Slot} {S : List Value} {H : AH} {q : QT} {z : Int32} (h : q (some (some (.int (z &&& 1)), H))) : Rsq (go (n + 1) (55, L, (.int z :: S), H, cs, ss)) q := by
  subst hgo
  exact res_of s14_55 h
theorem f17_in  {H : AH} : (F17 w vF) [] H = R17 w vF 48 (0, [], [], H, 0, 0) := rfl
theorem s17_0 {n cs ss : Nat} {L : List Slot} {S : List Value} {H : AH} : R17 w vF (n + 1) (0, L, S, H, cs, ss) = (aSta (.ref 2) S H cs ss).bind fun r => R17 w vF n (3, L, r.1, r.2.1, r.2.2.1, r.2.2.2) := s_any k17_0
theorem s17_3 {n cs ss : Nat} {L : List Slot} {S : List Value} {H : AH} : R17 w vF (n + 1) (3, L, S, H, cs, ss) = (aCloneR (.object "com/example/mithi/mithi/importer/EdgeWeighting$Scheme") 6 1 2 S H cs ss).bind fun r => R17 w vF n (6, L, r.1, r.2.1, r.2.2.1, r.2.2.2) := s_any k17_3
theorem s17_6 {n cs ss : Nat} {L : List Slot} {S : List Value} {H : AH} : R17 w vF (n + 1) (6, L, S, H, cs, ss) = (aCastR (.object "com/example/mithi/mithi/importer/EdgeWeighting$Scheme") S H cs ss).bind fun r => R17 w vF n (9, L, r.1, r.2.1, r.2.2.1, r.2.2.2) := s_any k17_6
theorem s17_9 {n cs ss : Nat} {L : List Slot} {S : List Value} {H : AH} : R17 w vF (n + 1) (9, L, S, H, cs, ss) = pA S fun z _ => some (some z, H) := s_any k17_9
theorem u17_0 {go : GT} (hgo : go = R17 w vF) {n cs ss : Nat} {L : List Slot} {S : List Value} {H : AH} : go (n + 1) (0, L, S, H, cs, ss) = (aSta (.ref 2) S H cs ss).bind fun r => go n (3, L, r.1, r.2.1, r.2.2.1, r.2.2.2) := by
  subst hgo
  exact s17_0
theorem u17_3 {go : GT} (hgo : go = R17 w vF) {n cs ss : Nat} {L : List Slot} {S : List Value} {H : AH} : go (n + 1) (3, L, S, H, cs, ss) = (aCloneR (.object "com/example/mithi/mithi/importer/EdgeWeighting$Scheme") 6 1 2 S H cs ss).bind fun r => go n (6, L, r.1, r.2.1, r.2.2.1, r.2.2.2) := by
  subst hgo
  exact s17_3
theorem u17_6 {go : GT} (hgo : go = R17 w vF) {n cs ss : Nat} {L : List Slot} {S : List Value} {H : AH} : go (n + 1) (6, L, S, H, cs, ss) = (aCastR (.object "com/example/mithi/mithi/importer/EdgeWeighting$Scheme") S H cs ss).bind fun r => go n (9, L, r.1, r.2.1, r.2.2.1, r.2.2.2) := by
  subst hgo
  exact s17_6
theorem t17_9 {go : GT} (hgo : go = R17 w vF) {n cs ss : Nat} {L : List Slot} {S : List Value} {H : AH} {q : QT} {z : Value} (hv : isA z = true) (h : q (some (some z, H))) : Rsq (go (n + 1) (9, L, (z :: S), H, cs, ss)) q := by
  subst hgo
  refine res_of s17_9 ?_
  rw [pA_isA hv]
  exact h
theorem f21_in {x0 : Nat} {H : AH} : (F21 w vF) [.ref x0] H = R21 w vF 56 (0, [.val (.ref x0)], [], H, 0, 0) := rfl
theorem f21_inn  {H : AH} : (F21 w vF) [.null] H = R21 w vF 56 (0, [.val .null], [], H, 0, 0) := rfl
theorem s21_0 {n cs ss : Nat} {L : List Slot} {S : List Value} {H : AH} : R21 w vF (n + 1) (0, L, S, H, cs, ss) = (gA L 0).bind fun v => R21 w vF n (1, L, v :: S, H, cs, ss) := s_any k21_0
theorem s21_1 {n cs ss : Nat} {L : List Slot} {S : List Value} {H : AH} : R21 w vF (n + 1) (1, L, S, H, cs, ss) = ex (Option.some (Jvm.ClassFile.FieldType.object "java/lang/Object")) (E21 w vF) 25 (R21 w vF n) (.ifnonnull 11) 1 L S H cs ss := s_any k21_1
theorem s21_12 {n cs ss : Nat} {L : List Slot} {S : List Value} {H : AH} : R21 w vF (n + 1) (12, L, S, H, cs, ss) = (gA L 0).bind fun v => R21 w vF n (13, L, v :: S, H, cs, ss) := s_any k21_12
theorem s21_13 {n cs ss : Nat} {L : List Slot} {S : List Value} {H : AH} : R21 w vF (n + 1) (13, L, S, H, cs, ss) = pA S fun z _ => some (some z, H) := s_any k21_13
theorem t21_0 {go : GT} (hgo : go = R21 w vF) {n cs ss : Nat} {S : List Value} {H : AH} {q : QT} {v : Value} (hv : isA v = true) (h : Rsq (go n (1, [.val v], (v :: S), H, cs, ss)) q) : Rsq (go (n + 1) (0, [.val v], S, H, cs, ss)) q := by
  subst hgo
  refine res_of s21_0 ?_
  rw [gA_isA (L := [.val v]) (k := 0) (v := v) rfl hv]
  exact h
theorem t21_1f {go : GT} (hgo : go = R21 w vF) {n cs ss : Nat} {L : List Slot} {S : List Value} {H : AH} {q : QT} {a : Nat} (h : Rsq (go n (12, L, S, H, cs, ss)) q) : Rsq (go (n + 1) (1, L, (.ref a :: S), H, cs, ss)) q := by
  subst hgo
  refine res_of s21_1 ?_
  simp only [nr_i, nr_j, nr_a, nr_o, nr_b, nr_b1, nr_b0, ft_i, ft_j, ft_a, ft_o, ft_b, ft_b1, ft_b0, rV_nil, b_1, b_0, b_1r, b_0r, b_bb, b_and, i_10, i_01, eq_self, iff_self, not_true_eq_false, not_false_eq_true, ite_not, cat_int, cat_long, cat_ref, cat_null, and11, and01, Nat.reduceAdd, Nat.reduceSub, Nat.reduceMul, Nat.reduceLT, Nat.reduceLeDiff, Nat.reduceEqDiff, Int32.reduceAdd, Int32.reduceSub, Int32.reduceMul, Int32.reduceMod, Int32.reduceLT, Int32.reduceLE, Int32.reduceToNatClampNeg, Int64.reduceAdd, Int64.reduceSub, Int64.reduceLT, Nat.le_refl, Nat.zero_add, Nat.add_zero, and_self, Option.bind_some, Option.bind_none, gI, gL, gA, st1, st2, pI_int, pL_long, pA_ref, pA_null, pR_ref, p1_int, p1_ref, p1_null, ex_ishl, ex_ishr, ex_iushr, ex_idiv, ex_irem, ex_ineg, ex_i2b, ex_i2c, ex_i2s, ex_i2l, ex_l2i, ex_lneg, ex_lshl, ex_lshr, ex_lushr, ex_ldiv, ex_lrem, ex_lcmp, ex_dup, ex_pop, ex_dup_x1, ex_dup2, ex_ifnull, ex_ifnonnull, ex_if_acmp, ex_arraylength, ex_iaload, ex_baload, ex_caload, ex_laload, ex_aaload, ex_iastore, ex_bastore, ex_castore, ex_lastore, ex_ldc, ex_ldc_w, ex_ldc2_w, ex_getfield, ex_putfield, ex_getstatic, ex_new, ex_invokestatic, ex_invokespecial, ex_invokevirtual, ex_checkcast, ex_instanceof, ex_anewarray, ex_newarray, ex_ireturn, ex_lreturn, ex_areturn, ex_return, br_d, br_n, br_t, br_f, spc, look, aI, aJ, aGet, aPut, aNew, aArr, aObj, aCall, aRecv, obj, arr, ald, ast, astL, isT, isBZ, atn, refEq, acV, List.getElem?_cons_zero, List.getElem?_cons_succ, List.set_cons_zero, List.set_cons_succ, List.take_succ_cons, List.take_zero, List.drop_succ_cons, List.drop_zero, List.reverse_cons, List.reverse_nil, List.nil_append, List.cons_append, List.map_cons, List.map_nil, List.sum_cons, List.sum_nil, List.length_cons, List.length_nil, Option.toList_some, Option.toList_none, List.append_nil, true_and, and_true, not_false_eq_true, decide_true, decide_false, Bool.not_true, Bool.not_false, if_true, if_false, reduceIte, Option.map_some, nar, defaultValue, List.replicate_zero, List.replicate_succ, ln0, ln1, ln2, ln3, ln4, ln5, ln6, ln7, ln8, ln9, ln10, ln11, ln12, ln13, ln14, ln15, ln16, ln17, ln18, ln19, ln20, ln21, ln22, ln23, ln24, ln25, ln26, ln27, ln28, ln29, ln30, ln31, ln32, ln33, ln34, ln35, ln36, aSta]
  exact h
theorem t21_12 {go : GT} (hgo : go = R21 w vF) {n cs ss : Nat} {S : List Value} {H : AH} {q : QT} {v : Value} (hv : isA v = true) (h : Rsq (go n (13, [.val v], (v :: S), H, cs, ss)) q) : Rsq (go (n + 1) (12, [.val v], S, H, cs, ss)) q := by
  subst hgo
  refine res_of s21_12 ?_
  rw [gA_isA (L := [.val v]) (k := 0) (v := v) rfl hv]
  exact h
theorem t21_13 {go : GT} (hgo : go = R21 w vF) {n cs ss : Nat} {L : List Slot} {S : List Value} {H : AH} {q : QT} {z : Value} (hv : isA z = true) (h : q (some (some z, H))) : Rsq (go (n + 1) (13, L, (z :: S), H, cs, ss)) q := by
  subst hgo
  refine res_of s21_13 ?_
  rw [pA_isA hv]
  exact h
theorem f22_in {x0 : Nat} {x1 : Nat} {H : AH} : (F22 w vF) [.ref x0, .ref x1] H = R22 w vF 52 (0, [.val (.ref x0), .val (.ref x1)], [], H, 0, 0) := rfl
theorem f22_inn {x0 : Nat} {H : AH} : (F22 w vF) [.ref x0, .null] H = R22 w vF 52 (0, [.val (.ref x0), .val .null], [], H, 0, 0) := rfl
theorem s22_0 {n cs ss : Nat} {L : List Slot} {S : List Value} {H : AH} : R22 w vF (n + 1) (0, L, S, H, cs, ss) = (gA L 0).bind fun v => R22 w vF n (1, L, v :: S, H, cs, ss) := s_any k22_0
theorem s22_1 {n cs ss : Nat} {L : List Slot} {S : List Value} {H : AH} : R22 w vF (n + 1) (1, L, S, H, cs, ss) = (aObj 6 S H cs ss).bind fun r => R22 w vF n (4, L, r.1, r.2.1, r.2.2.1, r.2.2.2) := s_any k22_1
theorem s22_4 {n cs ss : Nat} {L : List Slot} {S : List Value} {H : AH} : R22 w vF (n + 1) (4, L, S, H, cs, ss) = (gA L 0).bind fun v => R22 w vF n (5, L, v :: S, H, cs, ss) := s_any k22_4
theorem s22_5 {n cs ss : Nat} {L : List Slot} {S : List Value} {H : AH} : R22 w vF (n + 1) (5, L, S, H, cs, ss) = (gA L 1).bind fun v => R22 w vF n (6, L, v :: S, H, cs, ss) := s_any k22_5
theorem s22_6 {n cs ss : Nat} {L : List Slot} {S : List Value} {H : AH} : R22 w vF (n + 1) (6, L, S, H, cs, ss) = (aPut 25 1 0 (.object "java/lang/Object") S H cs ss).bind fun r => R22 w vF n (9, L, r.1, r.2.1, r.2.2.1, r.2.2.2) := s_any k22_6
theorem s22_9 {n cs ss : Nat} {L : List Slot} {S : List Value} {H : AH} : R22 w vF (n + 1) (9, L, S, H, cs, ss) = rV none S H := s_any k22_9
theorem t22_0 {go : GT} (hgo : go = R22 w vF) {n cs ss : Nat} {l1 : Slot} {S : List Value} {H : AH} {q : QT} {v : Value} (hv : isA v = true) (h : Rsq (go n (1, [.val v, l1], (v :: S), H, cs, ss)) q) : Rsq (go (n + 1) (0, [.val v, l1], S, H, cs, ss)) q := by
  subst hgo
  refine res_of s22_0 ?_
  rw [gA_isA (L := [.val v, l1]) (k := 0) (v := v) rfl hv]
  exact h
theorem u22_1 {go : GT} (hgo : go = R22 w vF) {n cs ss : Nat} {L : List Slot} {S : List Value} {H : AH} : go (n + 1) (1, L, S, H, cs, ss) = (aObj 6 S H cs ss).bind fun r => go n (4, L, r.1, r.2.1, r.2.2.1, r.2.2.2) := by
  subst hgo
  exact s22_1
theorem t22_4 {go : GT} (hgo : go = R22 w vF) {n cs ss : Nat} {l1 : Slot} {S : List Value} {H : AH} {q : QT} {v : Value} (hv : isA v = true) (h : Rsq (go n (5, [.val v, l1], (v :: S), H, cs, ss)) q) : Rsq (go (n + 1) (4, [.val v, l1], S, H, cs, ss)) q := by
  subst hgo
  refine res_of s22_4 ?_
  rw [gA_isA (L := [.val v, l1]) (k := 0) (v := v) rfl hv]
  exact h
theorem t22_5 {go : GT} (hgo : go = R22 w vF) {n cs ss : Nat} {l0 : Slot} {S : List Value} {H : AH} {q : QT} {v : Value} (hv : isA v = true) (h : Rsq (go n (6, [l0, .val v], (v :: S), H, cs, ss)) q) : Rsq (go (n + 1) (5, [l0, .val v], S, H, cs, ss)) q := by
  subst hgo
  refine res_of s22_5 ?_
  rw [gA_isA (L := [l0, .val v]) (k := 1) (v := v) rfl hv]
  exact h
theorem u22_6 {go : GT} (hgo : go = R22 w vF) {n cs ss : Nat} {L : List Slot} {S : List Value} {H : AH} : go (n + 1) (6, L, S, H, cs, ss) = (aPut 25 1 0 (.object "java/lang/Object") S H cs ss).bind fun r => go n (9, L, r.1, r.2.1, r.2.2.1, r.2.2.2) := by
  subst hgo
  exact s22_6
theorem t22_9 {go : GT} (hgo : go = R22 w vF) {n cs ss : Nat} {L : List Slot} {H : AH} {q : QT} (h : q (some (none, H))) : Rsq (go (n + 1) (9, L, [], H, cs, ss)) q := by
  subst hgo
  exact res_of s22_9 h
theorem f20_in {x0 : Nat} {H : AH} : (F20 w vF) [.ref x0] H = R20 w vF 52 (0, [.val (.ref x0)], [], H, 0, 0) := rfl
theorem f20_inn  {H : AH} : (F20 w vF) [.null] H = R20 w vF 52 (0, [.val .null], [], H, 0, 0) := rfl
theorem s20_0 {n cs ss : Nat} {L : List Slot} {S : List Value} {H : AH} : R20 w vF (n + 1) (0, L, S, H, cs, ss) = (aNew 1 1 1 4 [.null] S H cs ss).bind fun r => R20 w vF n (3, L, r.1, r.2.1, r.2.2.1, r.2.2.2) := s_any k20_0
theorem s20_3 {n cs ss : Nat} {L : List Slot} {S : List Value} {H : AH} : R20 w vF (n + 1) (3, L, S, H, cs, ss) = ex (Option.some (Jvm.ClassFile.FieldType.object "java/util/Optional")) (E20 w vF) 25 (R20 w vF n) (.dup) 3 L S H cs ss := s_any k20_3
theorem s20_4 {n cs ss : Nat} {L : List Slot} {S : List Value} {H : AH} : R20 w vF (n + 1) (4, L, S, H, cs, ss) = (gA L 0).bind fun v => R20 w vF n (5, L, v :: S, H, cs, ss) := s_any k20_4
theorem s20_5 {n cs ss : Nat} {L : List Slot} {S : List Value} {H : AH} : R20 w vF (n + 1) (5, L, S, H, cs, ss) = (aCall 1 6 1 4 0 0 (F21 w vF) S H cs ss).bind fun r => R20 w vF n (8, L, r.1, r.2.1, r.2.2.1, r.2.2.2) := s_any k20_5
theorem s20_8 {n cs ss : Nat} {L : List Slot} {S : List Value} {H : AH} : R20 w vF (n + 1) (8, L, S, H, cs, ss) = (aRecv 1 1 6 1 4 0 0 (F22 w vF) S H cs ss).bind fun r => R20 w vF n (11, L, r.1, r.2.1, r.2.2.1, r.2.2.2) := s_any k20_8
theorem s20_11 {n cs ss : Nat} {L : List Slot} {S : List Value} {H : AH} : R20 w vF (n + 1) (11, L, S, H, cs, ss) = pA S fun z _ => some (some z, H) := s_any k20_11
theorem u20_0 {go : GT} (hgo : go = R20 w vF) {n cs ss : Nat} {L : List Slot} {S : List Value} {H : AH} : go (n + 1) (0, L, S, H, cs, ss) = (aNew 1 1 1 4 [.null] S H cs ss).bind fun r => go n (3, L, r.1, r.2.1, r.2.2.1, r.2.2.2) := by
  subst hgo
  exact s20_0
theorem t20_3 {go : GT} (hgo : go = R20 w vF) {n cs ss : Nat} {L : List Slot} {S : List Value} {H : AH} {q : QT} {v : Value} (hv : isS v = true) (h : Rsq (go n (4, L, (v :: v :: S), H, cs, ss)) q) : Rsq (go (n + 1) (3, L, (v :: S), H, cs, ss)) q := by
  subst hgo
  refine res_of s20_3 ?_
  rw [ex_dup, p1_isS hv]
  exact h
theorem t20_4 {go : GT} (hgo : go = R20 w vF) {n cs ss : Nat} {S : List Value} {H : AH} {q : QT} {v : Value} (hv : isA v = true) (h : Rsq (go n (5, [.val v], (v :: S), H, cs, ss)) q) : Rsq (go (n + 1) (4, [.val v], S, H, cs, ss)) q := by
  subst hgo
  refine res_of s20_4 ?_
  rw [gA_isA (L := [.val v]) (k := 0) (v := v) rfl hv]
  exact h
theorem u20_5 {go : GT} (hgo : go = R20 w vF) {n cs ss : Nat} {L : List Slot} {S : List Value} {H : AH} : go (n + 1) (5, L, S, H, cs, ss) = (aCall 1 6 1 4 0 0 (F21 w vF) S H cs ss).bind fun r => go n (8, L, r.1, r.2.1, r.2.2.1, r.2.2.2) := by
  subst hgo
  exact s20_5
theorem u20_8 {go : GT} (hgo : go = R20 w vF) {n cs ss : Nat} {L : List Slot} {S : List Value} {H : AH} : go (n + 1) (8, L, S, H, cs, ss) = (aRecv 1 1 6 1 4 0 0 (F22 w vF) S H cs ss).bind fun r => go n (11, L, r.1, r.2.1, r.2.2.1, r.2.2.2) := by
  subst hgo
  exact s20_8
theorem t20_11 {go : GT} (hgo : go = R20 w vF) {n cs ss : Nat} {L : List Slot} {S : List Value} {H : AH} {q : QT} {z : Value} (hv : isA z = true) (h : q (some (some z, H))) : Rsq (go (n + 1) (11, L, (z :: S), H, cs, ss)) q := by
  subst hgo
  refine res_of s20_11 ?_
  rw [pA_isA hv]
  exact h
theorem f18_in  {H : AH} : (F18 w vF) [] H = R18 w vF 48 (0, [.unset], [], H, 0, 0) := rfl
theorem s18_0 {n cs ss : Nat} {L : List Slot} {S : List Value} {H : AH} : R18 w vF (n + 1) (0, L, S, H, cs, ss) = (aSta (.ref 7) S H cs ss).bind fun r => R18 w vF n (3, L, r.1, r.2.1, r.2.2.1, r.2.2.2) := s_any k18_0
theorem s18_3 {n cs ss : Nat} {L : List Slot} {S : List Value} {H : AH} : R18 w vF (n + 1) (3, L, S, H, cs, ss) = pA S fun x r => (st1 L 0 x).bind fun L' => R18 w vF n (4, L', r, H, cs, ss) := s_any k18_3
theorem s18_4 {n cs ss : Nat} {L : List Slot} {S : List Value} {H : AH} : R18 w vF (n + 1) (4, L, S, H, cs, ss) = (gA L 0).bind fun v => R18 w vF n (5, L, v :: S, H, cs, ss) := s_any k18_4
theorem s18_5 {n cs ss : Nat} {L : List Slot} {S : List Value} {H : AH} : R18 w vF (n + 1) (5, L, S, H, cs, ss) = pA S fun z _ => some (some z, H) := s_any k18_5
theorem u18_0 {go : GT} (hgo : go = R18 w vF) {n cs ss : Nat} {L : List Slot} {S : List Value} {H : AH} : go (n + 1) (0, L, S, H, cs, ss) = (aSta (.ref 7) S H cs ss).bind fun r => go n (3, L, r.1, r.2.1, r.2.2.1, r.2.2.2) := by
  subst hgo
  exact s18_0
theorem t18_3 {go : GT} (hgo : go = R18 w vF) {n cs ss : Nat} {l0 : Slot} {S : List Value} {H : AH} {q : QT} {v : Value} (hv : isA v = true) (hk : so l0 = true) (h : Rsq (go n (4, [.val v], S, H, cs, ss)) q) : Rsq (go (n + 1) (3, [l0], (v :: S), H, cs, ss)) q := by
  subst hgo
  refine res_of s18_3 ?_
  rw [pA_isA hv, st1_so (L := [l0]) (k := 0) (l := l0) rfl hk]
  exact h
theorem t18_4 {go : GT} (hgo : go = R18 w vF) {n cs ss : Nat} {S : List Value} {H : AH} {q : QT} {v : Value} (hv : isA v = true) (h : Rsq (go n (5, [.val v], (v :: S), H, cs, ss)) q) : Rsq (go (n + 1) (4, [.val v], S, H, cs, ss)) q := by
  subst hgo
  refine res_of s18_4 ?_
  rw [gA_isA (L := [.val v]) (k := 0) (v := v) rfl hv]
  exact h
theorem t18_5 {go : GT} (hgo : go = R18 w vF) {n cs ss : Nat} {L : List Slot} {S : List Value} {H : AH} {q : QT} {z : Value} (hv : isA z = true) (h : q (some (some z, H))) : Rsq (go (n + 1) (5, L, (z :: S), H, cs, ss)) q := by
  subst hgo
  refine res_of s18_5 ?_
  rw [pA_isA hv]
  exact h
theorem f16_in {x0 : Nat} {H : AH} : (F16 w vF) [.ref x0] H = R16 w vF 200 (0, [.val (.ref x0), .unset, .unset, .unset, .unset], [], H, 0, 0) := rfl
theorem f16_inn  {H : AH} : (F16 w vF) [.null] H = R16 w vF 200 (0, [.val .null, .unset, .unset, .unset, .unset], [], H, 0, 0) := rfl
theorem s16_0 {n cs ss : Nat} {L : List Slot} {S : List Value} {H : AH} : R16 w vF (n + 1) (0, L, S, H, cs, ss) = (aCall 0 6 2 10 1 2 (F17 w vF) S H cs ss).bind fun r => R16 w vF n (3, L, r.1, r.2.1, r.2.2.1, r.2.2.2) := s_any k16_0
theorem s16_3 {n cs ss : Nat} {L : List Slot} {S : List Value} {H : AH} : R16 w vF (n + 1) (3, L, S, H, cs, ss) = pA S fun x r => (st1 L 1 x).bind fun L' => R16 w vF n (4, L', r, H, cs, ss) := s_any k16_3
theorem s16_4 {n cs ss : Nat} {L : List Slot} {S : List Value} {H : AH} : R16 w vF (n + 1) (4, L, S, H, cs, ss) = (gA L 1).bind fun v => R16 w vF n (5, L, v :: S, H, cs, ss) := s_any k16_4
theorem s16_5 {n cs ss : Nat} {L : List Slot} {S : List Value} {H : AH} : R16 w vF (n + 1) (5, L, S, H, cs, ss) = pR S fun a r => (arr H a).bind fun q => R16 w vF n (6, L, .int (ln q.2) :: r, H, cs, ss) := s_any k16_5
theorem s16_6 {n cs ss : Nat} {L : List Slot} {S : List Value} {H : AH} : R16 w vF (n + 1) (6, L, S, H, cs, ss) = pI S fun x r => (st1 L 2 (.int x)).bind fun L' => R16 w vF n (7, L', r, H, cs, ss) := s_any k16_6
theorem s16_7 {n cs ss : Nat} {L : List Slot} {S : List Value} {H : AH} : R16 w vF (n + 1) (7, L, S, H, cs, ss) = R16 w vF n (8, L, (.int 0 :: S), H, cs, ss) := s_any k16_7
theorem s16_8 {n cs ss : Nat} {L : List Slot} {S : List Value} {H : AH} : R16 w vF (n + 1) (8, L, S, H, cs, ss) = pI S fun x r => (st1 L 3 (.int x)).bind fun L' => R16 w vF n (9, L', r, H, cs, ss) := s_any k16_8
theorem s16_9 {n cs ss : Nat} {L : List Slot} {S : List Value} {H : AH} : R16 w vF (n + 1) (9, L, S, H, cs, ss) = (gI L 3).bind fun v => R16 w vF n (10, L, .int v :: S, H, cs, ss) := s_any k16_9
theorem s16_10 {n cs ss : Nat} {L : List Slot} {S : List Value} {H : AH} : R16 w vF (n + 1) (10, L, S, H, cs, ss) = (gI L 2).bind fun v => R16 w vF n (11, L, .int v :: S, H, cs, ss) := s_any k16_10
theorem s16_11 {n cs ss : Nat} {L : List Slot} {S : List Value} {H : AH} : R16 w vF (n + 1) (11, L, S, H, cs, ss) = pI S fun y S => pI S fun x r => if x < y then R16 w vF n (14, L, r, H, cs, ss) else R16 w vF n (43, L, r, H, cs, ss) := s_icmpN (Q := fun x y => x < y) (fun _ _ => h_ge) k16_11 (by decide) (by decide)
theorem s16_14 {n cs ss : Nat} {L : List Slot} {S : List Value} {H : AH} : R16 w vF (n + 1) (14, L, S, H, cs, ss) = (gA L 1).bind fun v => R16 w vF n (15, L, v :: S, H, cs, ss) := s_any k16_14
theorem s16_15 {n cs ss : Nat} {L : List Slot} {S : List Value} {H : AH} : R16 w vF (n + 1) (15, L, S, H, cs, ss) = (gI L 3).bind fun v => R16 w vF n (16, L, .int v :: S, H, cs, ss) := s_any k16_15
theorem s16_16 {n cs ss : Nat} {L : List Slot} {S : List Value} {H : AH} : R16 w vF (n + 1) (16, L, S, H, cs, ss) = ex (Option.some (Jvm.ClassFile.FieldType.object "java/util/Optional")) (E16 w vF) 25 (R16 w vF n) (.aaload) 16 L S H cs ss := s_any k16_16
theorem s16_17 {n cs ss : Nat} {L : List Slot} {S : List Value} {H : AH} : R16 w vF (n + 1) (17, L, S, H, cs, ss) = pA S fun x r => (st1 L 4 x).bind fun L' => R16 w vF n (19, L', r, H, cs, ss) := s_any k16_17
theorem s16_19 {n cs ss : Nat} {L : List Slot} {S : List Value} {H : AH} : R16 w vF (n + 1) (19, L, S, H, cs, ss) = (gA L 4).bind fun v => R16 w vF n (21, L, v :: S, H, cs, ss) := s_any k16_19
theorem s16_21 {n cs ss : Nat} {L : List Slot} {S : List Value} {H : AH} : R16 w vF (n + 1) (21, L, S, H, cs, ss) = (aGet 2 0 S H cs ss).bind fun r => R16 w vF n (24, L, r.1, r.2.1, r.2.2.1, r.2.2.2) := s_any k16_21
theorem s16_24 {n cs ss : Nat} {L : List Slot} {S : List Value} {H : AH} : R16 w vF (n + 1) (24, L, S, H, cs, ss) = (gA L 0).bind fun v => R16 w vF n (25, L, v :: S, H, cs, ss) := s_any k16_24
theorem s16_25 {n cs ss : Nat} {L : List Slot} {S : List Value} {H : AH} : R16 w vF (n + 1) (25, L, S, H, cs, ss) = (aRecv 1 0 6 2 10 0 0 (F14 w vF) S H cs ss).bind fun r => R16 w vF n (28, L, r.1, r.2.1, r.2.2.1, r.2.2.2) := s_any k16_25
theorem s16_28 {n cs ss : Nat} {L : List Slot} {S : List Value} {H : AH} : R16 w vF (n + 1) (28, L, S, H, cs, ss) = pI S fun x r => if x = 0 then R16 w vF n (37, L, r, H, cs, ss) else R16 w vF n (31, L, r, H, cs, ss) := s_if (Q := fun x => x = 0) (fun _ => z_eq) k16_28 (by decide) (by decide)
theorem s16_31 {n cs ss : Nat} {L : List Slot} {S : List Value} {H : AH} : R16 w vF (n + 1) (31, L, S, H, cs, ss) = (gA L 4).bind fun v => R16 w vF n (33, L, v :: S, H, cs, ss) := s_any k16_31
theorem s16_33 {n cs ss : Nat} {L : List Slot} {S : List Value} {H : AH} : R16 w vF (n + 1) (33, L, S, H, cs, ss) = (aCall 1 6 2 10 1 4 (F20 w vF) S H cs ss).bind fun r => R16 w vF n (36, L, r.1, r.2.1, r.2.2.1, r.2.2.2) := s_any k16_33
theorem s16_36 {n cs ss : Nat} {L : List Slot} {S : List Value} {H : AH} : R16 w vF (n + 1) (36, L, S, H, cs, ss) = pA S fun z _ => some (some z, H) := s_any k16_36
theorem s16_37 {n cs ss : Nat} {L : List Slot} {S : List Value} {H : AH} : R16 w vF (n + 1) (37, L, S, H, cs, ss) = (gI L 3).bind fun v => (st1 L 3 (.int (v + 1))).bind fun L' => R16 w vF n (40, L', S, H, cs, ss) := s_any k16_37
theorem s16_40 {n cs ss : Nat} {L : List Slot} {S : List Value} {H : AH} : R16 w vF (n + 1) (40, L, S, H, cs, ss) = R16 w vF n (9, L, S, H, cs, ss) := s_goto k16_40 (by decide) (by decide)
theorem s16_43 {n cs ss : Nat} {L : List Slot} {S : List Value} {H : AH} : R16 w vF (n + 1) (43, L, S, H, cs, ss) = (aCall 0 6 2 10 0 0 (F18 w vF) S H cs ss).bind fun r => R16 w vF n (46, L, r.1, r.2.1, r.2.2.1, r.2.2.2) := s_any k16_43
theorem s16_46 {n cs ss : Nat} {L : List Slot} {S : List Value} {H : AH} : R16 w vF (n + 1) (46, L, S, H, cs, ss) = pA S fun z _ => some (some z, H) := s_any k16_46
theorem u16_0 {go : GT} (hgo : go = R16 w vF) {n cs ss : Nat} {L : List Slot} {S : List Value} {H : AH} : go (n + 1) (0, L, S, H, cs, ss) = (aCall 0 6 2 10 1 2 (F17 w vF) S H cs ss).bind fun r => go n (3, L, r.1, r.2.1, r.2.2.1, r.2.2.2) := by
  subst hgo
  exact s16_0
theorem t16_3 {go : GT} (hgo : go = R16 w vF) {n cs ss : Nat} {l0 l1 l2 l3 l4 : Slot} {S : List Value} {H : AH} {q : QT} {v : Value} (hv : isA v = true) (hk : so l1 = true) (h : Rsq (go n (4, [l0, .val v, l2, l3, l4], S, H, cs, ss)) q) : Rsq (go (n + 1) (3, [l0, l1, l2, l3, l4], (v :: S), H, cs, ss)) q := by
  subst hgo
  refine res_of s16_3 ?_
  rw [pA_isA hv, st1_so (L := [l0, l1, l2, l3, l4]) (k := 1) (l := l1) rfl hk]
  exact h
theorem t16_4 {go : GT} (hgo : go = R16 w vF) {n cs ss : Nat} {l0 l2 l3 l4 : Slot} {S : List Value} {H : AH} {q : QT} {v : Value} (hv : isA v = true) (h : Rsq (go n (5, [l0, .val v, l2, l3, l4], (v :: S), H, cs, ss)) q) : Rsq (go (n + 1) (4, [l0, .val v, l2, l3, l4], S, H, cs, ss)) q := by
  subst hgo
  refine res_of s16_4 ?_
  rw [gA_isA (L := [l0, .val v, l2, l3, l4]) (k := 1) (v := v) rfl hv]
  exact h
theorem u16_5 {go : GT} (hgo : go = R16 w vF) {n cs ss : Nat} {L : List Slot} {S : List Value} {H : AH} : go (n + 1) (5, L, S, H, cs, ss) = pR S fun a r => (arr H a).bind fun q => go n (6, L, .int (ln q.2) :: r, H, cs, ss) := by
  subst hgo
  exact s16_5
theorem t16_6 {go : GT} (hgo : go = R16 w vF) {n cs ss : Nat} {l0 l1 l2 l3 l4 : Slot} {S : List Value} {H : AH} {q : QT} {x : Int32} (hk : so l2 = true) (h : Rsq (go n (7, [l0, l1, .val (.int x), l3, l4], S, H, cs, ss)) q) : Rsq (go (n + 1) (6, [l0, l1, l2, l3, l4], (.int x :: S), H, cs, ss)) q := by
  subst hgo
  refine res_of s16_6 ?_
  rw [pI_int, st1_so (L := [l0, l1, l2, l3, l4]) (k := 2) (l := l2) rfl hk]
  exact h
theorem t16_7 {go : GT} (hgo : go = R16 w vF) {n cs ss : Nat} {L : List Slot} {S : List Value} {H : AH} {q : QT} (h : Rsq (go n (8, L, (.int 0 :: S), H, cs, ss)) q) : Rsq (go (n + 1) (7, L, S, H, cs, ss)) q := by
  subst hgo
  exact res_of s16_7 h
theorem t16_8 {go : GT} (hgo : go = R16 w vF) {n cs ss : Nat} {l0 l1 l2 l3 l4 : Slot} {S : List Value} {H : AH} {q : QT} {x : Int32} (hk : so l3 = true) (h : Rsq (go n (9, [l0, l1, l2, .val (.int x), l4], S, H, cs, ss)) q) : Rsq (go (n + 1) (8, [l0, l1, l2, l3, l4], (.int x :: S), H, cs, ss)) q := by
  subst hgo
  refine res_of s16_8 ?_
  rw [pI_int, st1_so (L := [l0, l1, l2, l3, l4]) (k := 3) (l := l3) rfl hk]
  exact h
theorem t16_9 {go : GT} (hgo : go = R16 w vF) {n cs ss : Nat} {l0 l1 l2 l4 : Slot} {S : List Value} {H : AH} {q : QT} {v : Int32} (h : Rsq (go n (10, [l0, l1, l2, .val (.int v), l4], (.int v :: S), H, cs, ss)) q) : Rsq (go (n + 1) (9, [l0, l1, l2, .val (.int v), l4], S, H, cs, ss)) q := by
  subst hgo
  exact res_of s16_9 h
theorem t16_10 {go : GT} (hgo : go = R16 w vF) {n cs ss : Nat} {l0 l1 l3 l4 : Slot} {S : List Value} {H : AH} {q : QT} {v : Int32} (h : Rsq (go n (11, [l0, l1, .val (.int v), l3, l4], (.int v :: S), H, cs, ss)) q) : Rsq (go (n + 1) (10, [l0, l1, .val (.int v), l3, l4], S, H, cs, ss)) q := by
  subst hgo
  exact res_of s16_10 h
theorem t16_11t {go : GT} (hgo : go = R16 w vF) {n cs ss : Nat} {L : List Slot} {S : List Value} {H : AH} {q : QT} {x y : Int32} (hc : x < y) (h : Rsq (go n (14, L, S, H, cs, ss)) q) : Rsq (go (n + 1) (11, L, (.int y :: .int x :: S), H, cs, ss)) q := by
  subst hgo
  exact res_of s16_11 (res_t hc h)
theorem t16_11f {go : GT} (hgo : go = R16 w vF) {n cs ss : Nat} {L : List Slot} {S : List Value} {H : AH} {q : QT} {x y : Int32} (hc : ¬ x < y) (h : Rsq (go n (43, L, S, H, cs, ss)) q) : Rsq (go (n + 1) (11, L, (.int y :: .int x :: S), H, cs, ss)) q := by
  subst hgo
  exact res_of s16_11 (res_f hc h)
theorem t16_14 {go : GT} (hgo : go = R16 w vF) {n cs ss : Nat} {l0 l2 l3 l4 : Slot} {S : List Value} {H : AH} {q : QT} {v : Value} (hv : isA v = true) (h : Rsq (go n (15, [l0, .val v, l2, l3, l4], (v :: S), H, cs, ss)) q) : Rsq (go (n + 1) (14, [l0, .val v, l2, l3, l4], S, H, cs, ss)) q := by
  subst hgo
  refine res_of s16_14 ?_
  rw [gA_isA (L := [l0, .val v, l2, l3, l4]) (k := 1) (v := v) rfl hv]
  exact h
theorem t16_15 {go : GT} (hgo : go = R16 w vF) {n cs ss : Nat} {l0 l1 l2 l4 : Slot} {S : List Value} {H : AH} {q : QT} {v : Int32} (h : Rsq (go n (16, [l0, l1, l2, .val (.int v), l4], (.int v :: S), H, cs, ss)) q) : Rsq (go (n + 1) (15, [l0, l1, l2, .val (.int v), l4], S, H, cs, ss)) q := by
  subst hgo
  exact res_of s16_15 h
theorem u16_16 {go : GT} (hgo : go = R16 w vF) {n cs ss : Nat} {L : List Slot} {S : List Value} {H : AH} : go (n + 1) (16, L, S, H, cs, ss) = ex (Option.some (Jvm.ClassFile.FieldType.object "java/util/Optional")) (E16 w vF) 25 (go n) (.aaload) 16 L S H cs ss := by
  subst hgo
  exact s16_16
theorem t16_17 {go : GT} (hgo : go = R16 w vF) {n cs ss : Nat} {l0 l1 l2 l3 l4 : Slot} {S : List Value} {H : AH} {q : QT} {v : Value} (hv : isA v = true) (hk : so l4 = true) (h : Rsq (go n (19, [l0, l1, l2, l3, .val v], S, H, cs, ss)) q) : Rsq (go (n + 1) (17, [l0, l1, l2, l3, l4], (v :: S), H, cs, ss)) q := by
  subst hgo
  refine res_of s16_17 ?_
  rw [pA_isA hv, st1_so (L := [l0, l1, l2, l3, l4]) (k := 4) (l := l4) rfl hk]
  exact h
theorem t16_19 {go : GT} (hgo : go = R16 w vF) {n cs ss : Nat} {l0 l1 l2 l3 : Slot} {S : List Value} {H : AH} {q : QT} {v : Value} (hv : isA v = true) (h : Rsq (go n (21, [l0, l1, l2, l3, .val v], (v :: S), H, cs, ss)) q) : Rsq (go (n + 1) (19, [l0, l1, l2, l3, .val v], S, H, cs, ss)) q := by
  subst hgo
  refine res_of s16_19 ?_
  rw [gA_isA (L := [l0, l1, l2, l3, .val v]) (k := 4) (v := v) rfl hv]
  exact h
theorem u16_21 {go : GT} (hgo : go = R16 w vF) {n cs ss : Nat} {L : List Slot} {S : List Value} {H : AH} : go (n + 1) (21, L, S, H, cs, ss) = (aGet 2 0 S H cs ss).bind fun r => go n (24, L, r.1, r.2.1, r.2.2.1, r.2.2.2) := by
  subst hgo
  exact s16_21
theorem t16_24 {go : GT} (hgo : go = R16 w vF) {n cs ss : Nat} {l1 l2 l3 l4 : Slot} {S : List Value} {H : AH} {q : QT} {v : Value} (hv : isA v = true) (h : Rsq (go n (25, [.val v, l1, l2, l3, l4], (v :: S), H, cs, ss)) q) : Rsq (go (n + 1) (24, [.val v, l1, l2, l3, l4], S, H, cs, ss)) q := by
  subst hgo
  refine res_of s16_24 ?_
  rw [gA_isA (L := [.val v, l1, l2, l3, l4]) (k := 0) (v := v) rfl hv]
  exact h
theorem u16_25 {go : GT} (hgo : go = R16 w vF) {n cs ss : Nat} {L : List Slot} {S : List Value} {H : AH} : go (n + 1) (25, L, S, H, cs, ss) = (aRecv 1 0 6 2 10 0 0 (F14 w vF) S H cs ss).bind fun r => go n (28, L, r.1, r.2.1, r.2.2.1, r.2.2.2) := by
  subst hgo
  exact s16_25
theorem t16_28t {go : GT} (hgo : go = R16 w vF) {n cs ss : Nat} {L : List Slot} {S : List Value} {H : AH} {q : QT} {x : Int32} (hc : x = 0) (h : Rsq (go n (37, L, S, H, cs, ss)) q) : Rsq (go (n + 1) (28, L, (.int x :: S), H, cs, ss)) q := by
  subst hgo
  exact res_of s16_28 (res_t hc h)
theorem t16_28f {go : GT} (hgo : go = R16 w vF) {n cs ss : Nat} {L : List Slot} {S : List Value} {H : AH} {q : QT} {x : Int32} (hc : ¬ x = 0) (h : Rsq (go n (31, L, S, H, cs, ss)) q) : Rsq (go (n + 1) (28, L, (.int x :: S), H, cs, ss)) q := by
  subst hgo
  exact res_of s16_28 (res_f hc h)
theorem t16_31 {go : GT} (hgo : go = R16 w vF) {n cs ss : Nat} {l0 l1 l2 l3 : Slot} {S : List Value} {H : AH} {q : QT} {v : Value} (hv : isA v = true) (h : Rsq (go n (33, [l0, l1, l2, l3, .val v], (v :: S), H, cs, ss)) q) : Rsq (go (n + 1) (31, [l0, l1, l2, l3, .val v], S, H, cs, ss)) q := by
  subst hgo
  refine res_of s16_31 ?_
  rw [gA_isA (L := [l0, l1, l2, l3, .val v]) (k := 4) (v := v) rfl hv]
  exact h
theorem u16_33 {go : GT} (hgo : go = R16 w vF) {n cs ss : Nat} {L : List Slot} {S : List Value} {H : AH} : go (n + 1) (33, L, S, H, cs, ss) = (aCall 1 6 2 10 1 4 (F20 w vF) S H cs ss).bind fun r => go n (36, L, r.1, r.2.1, r.2.2.1, r.2.2.2) := by
  subst hgo
  exact s16_33
theorem t16_36 {go : GT} (hgo : go = R16 w vF) {n cs ss : Nat} {L : List Slot} {S : List Value} {H : AH} {q : QT} {z : Value} (hv : isA z = true) (h : q (some (some z, H))) : Rsq (go (n + 1) (36, L, (z :: S), H, cs, ss)) q := by
  subst hgo
  refine res_of s16_36 ?_
  rw [pA_isA hv]
  exact h
theorem t16_37 {go : GT} (hgo : go = R16 w vF) {n cs ss : Nat} {l0 l1 l2 l4 : Slot} {S : List Value} {H : AH} {q : QT} {v : Int32} (h : Rsq (go n (40, [l0, l1, l2, .val (.int (v + 1)), l4], S, H, cs, ss)) q) : Rsq (go (n + 1) (37, [l0, l1, l2, .val (.int v), l4], S, H, cs, ss)) q := by
  subst hgo
  exact res_of s16_37 h
theorem t16_40 {go : GT} (hgo : go = R16 w vF) {n cs ss : Nat} {L : List Slot} {S : List Value} {H : AH} {q : QT} (h : Rsq (go n (9, L, S, H, cs, ss)) q) : Rsq (go (n + 1) (40, L, S, H, cs, ss)) q := by
  subst hgo
  exact res_of s16_40 h
theorem u16_43 {go : GT} (hgo : go = R16 w vF) {n cs ss : Nat} {L : List Slot} {S : List Value} {H : AH} : go (n + 1) (43, L, S, H, cs, ss) = (aCall 0 6 2 10 0 0 (F18 w vF) S H cs ss).bind fun r => go n (46, L, r.1, r.2.1, r.2.2.1, r.2.2.2) := by
  subst hgo
  exact s16_43
theorem t16_46 {go : GT} (hgo : go = R16 w vF) {n cs ss : Nat} {L : List Slot} {S : List Value} {H : AH} {q : QT} {z : Value} (hv : isA z = true) (h : q (some (some z, H))) : Rsq (go (n + 1) (46, L, (z :: S), H, cs, ss)) q := by
  subst hgo
  refine res_of s16_46 ?_
  rw [pA_isA hv]
  exact h
theorem f19_in {x0 : Nat} {H : AH} : (F19 w vF) [.ref x0] H = R19 w vF 54 (0, [.val (.ref x0)], [], H, 0, 0) := rfl
theorem f19_inn  {H : AH} : (F19 w vF) [.null] H = R19 w vF 54 (0, [.val .null], [], H, 0, 0) := rfl
theorem s19_0 {n cs ss : Nat} {L : List Slot} {S : List Value} {H : AH} : R19 w vF (n + 1) (0, L, S, H, cs, ss) = (gA L 0).bind fun v => R19 w vF n (1, L, v :: S, H, cs, ss) := s_any k19_0
theorem s19_1 {n cs ss : Nat} {L : List Slot} {S : List Value} {H : AH} : R19 w vF (n + 1) (1, L, S, H, cs, ss) = (aGet 1 0 S H cs ss).bind fun r => R19 w vF n (4, L, r.1, r.2.1, r.2.2.1, r.2.2.2) := s_any k19_1
theorem s19_4 {n cs ss : Nat} {L : List Slot} {S : List Value} {H : AH} : R19 w vF (n + 1) (4, L, S, H, cs, ss) = ex (Option.some Jvm.ClassFile.FieldType.boolean) (E19 w vF) 25 (R19 w vF n) (.ifnull 7) 4 L S H cs ss := s_any k19_4
theorem s19_7 {n cs ss : Nat} {L : List Slot} {S : List Value} {H : AH} : R19 w vF (n + 1) (7, L, S, H, cs, ss) = R19 w vF n (8, L, (.int 1 :: S), H, cs, ss) := s_any k19_7
theorem s19_8 {n cs ss : Nat} {L : List Slot} {S : List Value} {H : AH} : R19 w vF (n + 1) (8, L, S, H, cs, ss) = R19 w vF n (12, L, S, H, cs, ss) := s_goto k19_8 (by decide) (by decide)
theorem s19_11 {n cs ss : Nat} {L : List Slot} {S : List Value} {H : AH} : R19 w vF (n + 1) (11, L, S, H, cs, ss) = R19 w vF n (12, L, (.int 0 :: S), H, cs, ss) := s_any k19_11
theorem s19_12 {n cs ss : Nat} {L : List Slot} {S : List Value} {H : AH} : R19 w vF (n + 1) (12, L, S, H, cs, ss) = pI S fun z _ => some (some (.int (z &&& 1)), H) := s_any k19_12
theorem t19_0 {go : GT} (hgo : go = R19 w vF) {n cs ss : Nat} {S : List Value} {H : AH} {q : QT} {v : Value} (hv : isA v = true) (h : Rsq (go n (1, [.val v], (v :: S), H, cs, ss)) q) : Rsq (go (n + 1) (0, [.val v], S, H, cs, ss)) q := by
  subst hgo
  refine res_of s19_0 ?_
  rw [gA_isA (L := [.val v]) (k := 0) (v := v) rfl hv]
  exact h
theorem u19_1 {go : GT} (hgo : go = R19 w vF) {n cs ss : Nat} {L : List Slot} {S : List Value} {H : AH} : go (n + 1) (1, L, S, H, cs, ss) = (aGet 1 0 S H cs ss).bind fun r => go n (4, L, r.1, r.2.1, r.2.2.1, r.2.2.2) := by
  subst hgo
  exact s19_1
theorem t19_4t {go : GT} (hgo : go = R19 w vF) {n cs ss : Nat} {L : List Slot} {S : List Value} {H : AH} {q : QT} (h : Rsq (go n (11, L, S, H, cs, ss)) q) : Rsq (go (n + 1) (4, L, (.null :: S), H, cs, ss)) q := by
  subst hgo
  refine res_of s19_4 ?_
  simp only [nr_i, nr_j, nr_a, nr_o, nr_b, nr_b1, nr_b0, ft_i, ft_j, ft_a, ft_o, ft_b, ft_b1, ft_b0, rV_nil, b_1, b_0, b_1r, b_0r, b_bb, b_and, i_10, i_01, eq_self, iff_self, not_true_eq_false, not_false_eq_true, ite_not, cat_int, cat_long, cat_ref, cat_null, and11, and01, Nat.reduceAdd, Nat.reduceSub, Nat.reduceMul, Nat.reduceLT, Nat.reduceLeDiff, Nat.reduceEqDiff, Int32.reduceAdd, Int32.reduceSub, Int32.reduceMul, Int32.reduceMod, Int32.reduceLT, Int32.reduceLE, Int32.reduceToNatClampNeg, Int64.reduceAdd, Int64.reduceSub, Int64.reduceLT, Nat.le_refl, Nat.zero_add, Nat.add_zero, and_self, Option.bind_some, Option.bind_none, gI, gL, gA, st1, st2, pI_int, pL_long, pA_ref, pA_null, pR_ref, p1_int, p1_ref, p1_null, ex_ishl, ex_ishr, ex_iushr, ex_idiv, ex_irem, ex_ineg, ex_i2b, ex_i2c, ex_i2s, ex_i2l, ex_l2i, ex_lneg, ex_lshl, ex_lshr, ex_lushr, ex_ldiv, ex_lrem, ex_lcmp, ex_dup, ex_pop, ex_dup_x1, ex_dup2, ex_ifnull, ex_ifnonnull, ex_if_acmp, ex_arraylength, ex_iaload, ex_baload, ex_caload, ex_laload, ex_aaload, ex_iastore, ex_bastore, ex_castore, ex_lastore, ex_ldc, ex_ldc_w, ex_ldc2_w, ex_getfield, ex_putfield, ex_getstatic, ex_new, ex_invokestatic, ex_invokespecial, ex_invokevirtual, ex_checkcast, ex_instanceof, ex_anewarray, ex_newarray, ex_ireturn, ex_lreturn, ex_areturn, ex_return, br_d, br_n, br_t, br_f, spc, look, aI, aJ, aGet, aPut, aNew, aArr, aObj, aCall, aRecv, obj, arr, ald, ast, astL, isT, isBZ, atn, refEq, acV, List.getElem?_cons_zero, List.getElem?_cons_succ, List.set_cons_zero, List.set_cons_succ, List.take_succ_cons, List.take_zero, List.drop_succ_cons, List.drop_zero, List.reverse_cons, List.reverse_nil, List.nil_append, List.cons_append, List.map_cons, List.map_nil, List.sum_cons, List.sum_nil, List.length_cons, List.length_nil, Option.toList_some, Option.toList_none, List.append_nil, true_and, and_true, not_false_eq_true, decide_true, decide_false, Bool.not_true, Bool.not_false, if_true, if_false, reduceIte, Option.map_some, nar, defaultValue, List.replicate_zero, List.replicate_succ, ln0, ln1, ln2, ln3, ln4, ln5, ln6, ln7, ln8, ln9, ln10, ln11, ln12, ln13, ln14, ln15, ln16, ln17, ln18, ln19, ln20, ln21, ln22, ln23, ln24, ln25, ln26, ln27, ln28, ln29, ln30, ln31, ln32, ln33, ln34, ln35, ln36, aSta]
  exact h
theorem t19_4f {go : GT} (hgo : go = R19 w vF) {n cs ss : Nat} {L : List Slot} {S : List Value} {H : AH} {q : QT} {a : Nat} (h : Rsq (go n (7, L, S, H, cs, ss)) q) : Rsq (go (n + 1) (4, L, (.ref a :: S), H, cs, ss)) q := by
  subst hgo
  refine res_of s19_4 ?_
  simp only [nr_i, nr_j, nr_a, nr_o, nr_b, nr_b1, nr_b0, ft_i, ft_j, ft_a, ft_o, ft_b, ft_b1, ft_b0, rV_nil, b_1, b_0, b_1r, b_0r, b_bb, b_and, i_10, i_01, eq_self, iff_self, not_true_eq_false, not_false_eq_true, ite_not, cat_int, cat_long, cat_ref, cat_null, and11, and01, Nat.reduceAdd, Nat.reduceSub, Nat.reduceMul, Nat.reduceLT, Nat.reduceLeDiff, Nat.reduceEqDiff, Int32.reduceAdd, Int32.reduceSub, Int32.reduceMul, Int32.reduceMod, Int32.reduceLT, Int32.reduceLE, Int32.reduceToNatClampNeg, Int64.reduceAdd, Int64.reduceSub, Int64.reduceLT, Nat.le_refl, Nat.zero_add, Nat.add_zero, and_self, Option.bind_some, Option.bind_none, gI, gL, gA, st1, st2, pI_int, pL_long, pA_ref, pA_null, pR_ref, p1_int, p1_ref, p1_null, ex_ishl, ex_ishr, ex_iushr, ex_idiv, ex_irem, ex_ineg, ex_i2b, ex_i2c, ex_i2s, ex_i2l, ex_l2i, ex_lneg, ex_lshl, ex_lshr, ex_lushr, ex_ldiv, ex_lrem, ex_lcmp, ex_dup, ex_pop, ex_dup_x1, ex_dup2, ex_ifnull, ex_ifnonnull, ex_if_acmp, ex_arraylength, ex_iaload, ex_baload, ex_caload, ex_laload, ex_aaload, ex_iastore, ex_bastore, ex_castore, ex_lastore, ex_ldc, ex_ldc_w, ex_ldc2_w, ex_getfield, ex_putfield, ex_getstatic, ex_new, ex_invokestatic, ex_invokespecial, ex_invokevirtual, ex_checkcast, ex_instanceof, ex_anewarray, ex_newarray, ex_ireturn, ex_lreturn, ex_areturn, ex_return, br_d, br_n, br_t, br_f, spc, look, aI, aJ, aGet, aPut, aNew, aArr, aObj, aCall, aRecv, obj, arr, ald, ast, astL, isT, isBZ, atn, refEq, acV, List.getElem?_cons_zero, List.getElem?_cons_succ, List.set_cons_zero, List.set_cons_succ, List.take_succ_cons, List.take_zero, List.drop_succ_cons, List.drop_zero, List.reverse_cons, List.reverse_nil, List.nil_append, List.cons_append, List.map_cons, List.map_nil, List.sum_cons, List.sum_nil, List.length_cons, List.length_nil, Option.toList_some, Option.toList_none, List.append_nil, true_and, and_true, not_false_eq_true, decide_true, decide_false, Bool.not_true, Bool.not_false, if_true, if_false, reduceIte, Option.map_some, nar, defaultValue, List.replicate_zero, List.replicate_succ, ln0, ln1, ln2, ln3, ln4, ln5, ln6, ln7, ln8, ln9, ln10, ln11, ln12, ln13, ln14, ln15, ln16, ln17, ln18, ln19, ln20, ln21, ln22, ln23, ln24, ln25, ln26, ln27, ln28, ln29, ln30, ln31, ln32, ln33, ln34, ln35, ln36, aSta]
  exact h
theorem t19_7 {go : GT} (hgo : go = R19 w vF) {n cs ss : Nat} {L : List Slot} {S : List Value} {H : AH} {q : QT} (h : Rsq (go n (8, L, (.int 1 :: S), H, cs, ss)) q) : Rsq (go (n + 1) (7, L, S, H, cs, ss)) q := by
  subst hgo
  exact res_of s19_7 h
theorem t19_8 {go : GT} (hgo : go = R19 w vF) {n cs ss : Nat} {L : List Slot} {S : List Value} {H : AH} {q : QT} (h : Rsq (go n (12, L, S, H, cs, ss)) q) : Rsq (go (n + 1) (8, L, S, H, cs, ss)) q := by
  subst hgo
  exact res_of s19_8 h
theorem t19_11 {go : GT} (hgo : go = R19 w vF) {n cs ss : Nat} {L : List Slot} {S : List Value} {H : AH} {q : QT} (h : Rsq (go n (12, L, (.int 0 :: S), H, cs, ss)) q) : Rsq (go (n + 1) (11, L, S, H, cs, ss)) q := by
  subst hgo
  exact res_of s19_11 h
theorem t19_12 {go : GT} (hgo : go = R19 w vF) {n cs ss : Nat} {L : List Slot} {S : List Value} {H : AH} {q : QT} {z : Int32} (h : q (some (some (.int (z &&& 1)), H))) : Rsq (go (n + 1) (12, L, (.int z :: S), H, cs, ss)) q := by
  subst hgo
  exact res_of s19_12 h
theorem f23_in {x0 : Nat} {H : AH} : (F23 w vF) [.ref x0] H = R23 w vF 62 (0, [.val (.ref x0)], [], H, 0, 0) := rfl
theorem f23_inn  {H : AH} : (F23 w vF) [.null] H = R23 w vF 62 (0, [.val .null], [], H, 0, 0) := rfl
theorem s23_0 {n cs ss : Nat} {L : List Slot} {S : List Value} {H : AH} : R23 w vF (n + 1) (0, L, S, H, cs, ss) = (gA L 0).bind fun v => R23 w vF n (1, L, v :: S, H, cs, ss) := s_any k23_0
theorem s23_1 {n cs ss : Nat} {L : List Slot} {S : List Value} {H : AH} : R23 w vF (n + 1) (1, L, S, H, cs, ss) = (aGet 1 0 S H cs ss).bind fun r => R23 w vF n (4, L, r.1, r.2.1, r.2.2.1, r.2.2.2) := s_any k23_1
theorem s23_4 {n cs ss : Nat} {L : List Slot} {S : List Value} {H : AH} : R23 w vF (n + 1) (4, L, S, H, cs, ss) = ex (Option.some (Jvm.ClassFile.FieldType.object "java/lang/Object")) (E23 w vF) 25 (R23 w vF n) (.ifnonnull 13) 4 L S H cs ss := s_any k23_4
theorem s23_17 {n cs ss : Nat} {L : List Slot} {S : List Value} {H : AH} : R23 w vF (n + 1) (17, L, S, H, cs, ss) = (gA L 0).bind fun v => R23 w vF n (18, L, v :: S, H, cs, ss) := s_any k23_17
theorem s23_18 {n cs ss : Nat} {L : List Slot} {S : List Value} {H : AH} : R23 w vF (n + 1) (18, L, S, H, cs, ss) = (aGet 1 0 S H cs ss).bind fun r => R23 w vF n (21, L, r.1, r.2.1, r.2.2.1, r.2.2.2) := s_any k23_18
theorem s23_21 {n cs ss : Nat} {L : List Slot} {S : List Value} {H : AH} : R23 w vF (n + 1) (21, L, S, H, cs, ss) = pA S fun z _ => some (some z, H) := s_any k23_21
theorem t23_0 {go : GT} (hgo : go = R23 w vF) {n cs ss : Nat} {S : List Value} {H : AH} {q : QT} {v : Value} (hv : isA v = true) (h : Rsq (go n (1, [.val v], (v :: S), H, cs, ss)) q) : Rsq (go (n + 1) (0, [.val v], S, H, cs, ss)) q := by
  subst hgo
  refine res_of s23_0 ?_
  rw [gA_isA (L := [.val v]) (k := 0) (v := v) rfl hv]
  exact h
theorem u23_1 {go : GT} (hgo : go = R23 w vF) {n cs ss : Nat} {L : List Slot} {S : List Value} {H : AH} : go (n + 1) (1, L, S, H, cs, ss) = (aGet 1 0 S H cs ss).bind fun r => go n (4, L, r.1, r.2.1, r.2.2.1, r.2.2.2) := by
  subst hgo
  exact s23_1
theorem t23_4f {go : GT} (hgo : go = R23 w vF) {n cs ss : Nat} {L : List Slot} {S : List Value} {H : AH} {q : QT} {a : Nat} (h : Rsq (go n (17, L, S, H, cs, ss)) q) : Rsq (go (n + 1) (4, L, (.ref a :: S), H, cs, ss)) q := by
  subst hgo
  refine res_of s23_4 ?_
  simp only [nr_i, nr_j, nr_a, nr_o, nr_b, nr_b1, nr_b0, ft_i, ft_j, ft_a, ft_o, ft_b, ft_b1, ft_b0, rV_nil, b_1, b_0, b_1r, b_0r, b_bb, b_and, i_10, i_01, eq_self, iff_self, not_true_eq_false, not_false_eq_true, ite_not, cat_int, cat_long, cat_ref, cat_null, and11, and01, Nat.reduceAdd, Nat.reduceSub, Nat.reduceMul, Nat.reduceLT, Nat.reduceLeDiff, Nat.reduceEqDiff, Int32.reduceAdd, Int32.reduceSub, Int32.reduceMul, Int32.reduceMod, Int32.reduceLT, Int32.reduceLE, Int32.reduceToNatClampNeg, Int64.reduceAdd, Int64.reduceSub, Int64.reduceLT, Nat.le_refl, Nat.zero_add, Nat.add_zero, and_self, Option.bind_some, Option.bind_none, gI, gL, gA, st1, st2, pI_int, pL_long, pA_ref, pA_null, pR_ref, p1_int, p1_ref, p1_null, ex_ishl, ex_ishr, ex_iushr, ex_idiv, ex_irem, ex_ineg, ex_i2b, ex_i2c, ex_i2s, ex_i2l, ex_l2i, ex_lneg, ex_lshl, ex_lshr, ex_lushr, ex_ldiv, ex_lrem, ex_lcmp, ex_dup, ex_pop, ex_dup_x1, ex_dup2, ex_ifnull, ex_ifnonnull, ex_if_acmp, ex_arraylength, ex_iaload, ex_baload, ex_caload, ex_laload, ex_aaload, ex_iastore, ex_bastore, ex_castore, ex_lastore, ex_ldc, ex_ldc_w, ex_ldc2_w, ex_getfield, ex_putfield, ex_getstatic, ex_new, ex_invokestatic, ex_invokespecial, ex_invokevirtual, ex_checkcast, ex_instanceof, ex_anewarray, ex_newarray, ex_ireturn, ex_lreturn, ex_areturn, ex_return, br_d, br_n, br_t, br_f, spc, look, aI, aJ, aGet, aPut, aNew, aArr, aObj, aCall, aRecv, obj, arr, ald, ast, astL, isT, isBZ, atn, refEq, acV, List.getElem?_cons_zero, List.getElem?_cons_succ, List.set_cons_zero, List.set_cons_succ, List.take_succ_cons, List.take_zero, List.drop_succ_cons, List.drop_zero, List.reverse_cons, List.reverse_nil, List.nil_append, List.cons_append, List.map_cons, List.map_nil, List.sum_cons, List.sum_nil, List.length_cons, List.length_nil, Option.toList_some, Option.toList_none, List.append_nil, true_and, and_true, not_false_eq_true, decide_true, decide_false, Bool.not_true, Bool.not_false, if_true, if_false, reduceIte, Option.map_some, nar, defaultValue, List.replicate_zero, List.replicate_succ, ln0, ln1, ln2, ln3, ln4, ln5, ln6, ln7, ln8, ln9, ln10, ln11, ln12, ln13, ln14, ln15, ln16, ln17, ln18, ln19, ln20, ln21, ln22, ln23, ln24, ln25, ln26, ln27, ln28, ln29, ln30, ln31, ln32, ln33, ln34, ln35, ln36, aSta]
  exact h
theorem t23_17 {go : GT} (hgo : go = R23 w vF) {n cs ss : Nat} {S : List Value} {H : AH} {q : QT} {v : Value} (hv : isA v = true) (h : Rsq (go n (18, [.val v], (v :: S), H, cs, ss)) q) : Rsq (go (n + 1) (17, [.val v], S, H, cs, ss)) q := by
  subst hgo
  refine res_of s23_17 ?_
  rw [gA_isA (L := [.val v]) (k := 0) (v := v) rfl hv]
  exact h
theorem u23_18 {go : GT} (hgo : go = R23 w vF) {n cs ss : Nat} {L : List Slot} {S : List Value} {H : AH} : go (n + 1) (18, L, S, H, cs, ss) = (aGet 1 0 S H cs ss).bind fun r => go n (21, L, r.1, r.2.1, r.2.2.1, r.2.2.2) := by
  subst hgo
  exact s23_18
theorem t23_21 {go : GT} (hgo : go = R23 w vF) {n cs ss : Nat} {L : List Slot} {S : List Value} {H : AH} {q : QT} {z : Value} (hv : isA z = true) (h : q (some (some z, H))) : Rsq (go (n + 1) (21, L, (z :: S), H, cs, ss)) q := by
  subst hgo
  refine res_of s23_21 ?_
  rw [pA_isA hv]
  exact h
theorem f0_in {x0 : Int32} {x1 : Int32} {x2 : Int32} {x3 : Int32} {x4 : Int32} {x5 : Int32} {H : AH} : (F0 w vF) [.int x0, .int x1, .int x2, .int x3, .int x4, .int x5] H = R0 w vF 700 (0, [.val (.int x0), .val (.int x1), .val (.int x2), .val (.int x3), .val (.int x4), .val (.int x5), .unset, .unset, .unset, .unset, .unset, .unset, .unset], [], H, 0, 0) := rfl
theorem s0_0 {n cs ss : Nat} {L : List Slot} {S : List Value} {H : AH} : R0 w vF (n + 1) (0, L, S, H, cs, ss) = (gI L 0).bind fun v => R0 w vF n (1, L, .int v :: S, H, cs, ss) := s_any k0_0
theorem s0_1 {n cs ss : Nat} {L : List Slot} {S : List Value} {H : AH} : R0 w vF (n + 1) (1, L, S, H, cs, ss) = (aI (2147483647) S H cs ss).bind fun r => R0 w vF n (3, L, r.1, r.2.1, r.2.2.1, r.2.2.2) := s_any k0_1
theorem s0_3 {n cs ss : Nat} {L : List Slot} {S : List Value} {H : AH} : R0 w vF (n + 1) (3, L, S, H, cs, ss) = pI S fun y S => pI S fun x r => R0 w vF n (4, L, .int (x &&& y) :: r, H, cs, ss) := s_any k0_3
theorem s0_4 {n cs ss : Nat} {L : List Slot} {S : List Value} {H : AH} : R0 w vF (n + 1) (4, L, S, H, cs, ss) = R0 w vF n (5, L, (.int 3 :: S), H, cs, ss) := s_any k0_4
theorem s0_5 {n cs ss : Nat} {L : List Slot} {S : List Value} {H : AH} : R0 w vF (n + 1) (5, L, S, H, cs, ss) = ex ret (E0 w vF) 25 (R0 w vF n) (.irem) 5 L S H cs ss := s_any k0_5
theorem s0_6 {n cs ss : Nat} {L : List Slot} {S : List Value} {H : AH} : R0 w vF (n + 1) (6, L, S, H, cs, ss) = pI S fun x r => (st1 L 6 (.int x)).bind fun L' => R0 w vF n (8, L', r, H, cs, ss) := s_any k0_6
theorem s0_8 {n cs ss : Nat} {L : List Slot} {S : List Value} {H : AH} : R0 w vF (n + 1) (8, L, S, H, cs, ss) = (gI L 6).bind fun v => R0 w vF n (10, L, .int v :: S, H, cs, ss) := s_any k0_8
theorem s0_10 {n cs ss : Nat} {L : List Slot} {S : List Value} {H : AH} : R0 w vF (n + 1) (10, L, S, H, cs, ss) = pI S fun x r => if x = 0 then R0 w vF n (13, L, r, H, cs, ss) else R0 w vF n (18, L, r, H, cs, ss) := s_ifN (Q := fun x => x = 0) (fun _ => z_ne) k0_10 (by decide) (by decide)
theorem s0_13 {n cs ss : Nat} {L : List Slot} {S : List Value} {H : AH} : R0 w vF (n + 1) (13, L, S, H, cs, ss) = if fr3 H.length (slt H 9) L S H = true then (aLit 9 0 20 32 4288 [.int 101, .int 113, .int 117, .int 97, .int 108] S H cs ss).bind fun r => R0 w vF n (15, L, r.1, r.2.1, r.2.2.1, r.2.2.2) else none := s_any k0_13
theorem s0_15 {n cs ss : Nat} {L : List Slot} {S : List Value} {H : AH} : R0 w vF (n + 1) (15, L, S, H, cs, ss) = R0 w vF n (31, L, S, H, cs, ss) := s_goto k0_15 (by decide) (by decide)
theorem s0_18 {n cs ss : Nat} {L : List Slot} {S : List Value} {H : AH} : R0 w vF (n + 1) (18, L, S, H, cs, ss) = (gI L 6).bind fun v => R0 w vF n (20, L, .int v :: S, H, cs, ss) := s_any k0_18
theorem s0_20 {n cs ss : Nat} {L : List Slot} {S : List Value} {H : AH} : R0 w vF (n + 1) (20, L, S, H, cs, ss) = R0 w vF n (21, L, (.int 1 :: S), H, cs, ss) := s_any k0_20
theorem s0_21 {n cs ss : Nat} {L : List Slot} {S : List Value} {H : AH} : R0 w vF (n + 1) (21, L, S, H, cs, ss) = pI S fun y S => pI S fun x r => if x = y then R0 w vF n (24, L, r, H, cs, ss) else R0 w vF n (29, L, r, H, cs, ss) := s_icmpN (Q := fun x y => x = y) (fun _ _ => h_ne) k0_21 (by decide) (by decide)
theorem s0_24 {n cs ss : Nat} {L : List Slot} {S : List Value} {H : AH} : R0 w vF (n + 1) (24, L, S, H, cs, ss) = if fr3 H.length (slt H 13) L S H = true then (aLit 13 0 40 32 4288 [.int 108, .int 111, .int 103, .int 45, .int 100, .int 101, .int 103, .int 114, .int 101, .int 101] S H cs ss).bind fun r => R0 w vF n (26, L, r.1, r.2.1, r.2.2.1, r.2.2.2) else none := s_any k0_24
theorem s0_26 {n cs ss : Nat} {L : List Slot} {S : List Value} {H : AH} : R0 w vF (n + 1) (26, L, S, H, cs, ss) = R0 w vF n (31, L, S, H, cs, ss) := s_goto k0_26 (by decide) (by decide)
theorem s0_29 {n cs ss : Nat} {L : List Slot} {S : List Value} {H : AH} : R0 w vF (n + 1) (29, L, S, H, cs, ss) = if fr3 H.length (slt H 17) L S H = true then (aLit 17 0 0 32 4288 [] S H cs ss).bind fun r => R0 w vF n (31, L, r.1, r.2.1, r.2.2.1, r.2.2.2) else none := s_any k0_29
theorem s0_31 {n cs ss : Nat} {L : List Slot} {S : List Value} {H : AH} : R0 w vF (n + 1) (31, L, S, H, cs, ss) = pA S fun x r => (st1 L 7 x).bind fun L' => R0 w vF n (33, L', r, H, cs, ss) := s_any k0_31
theorem s0_33 {n cs ss : Nat} {L : List Slot} {S : List Value} {H : AH} : R0 w vF (n + 1) (33, L, S, H, cs, ss) = (gI L 6).bind fun v => R0 w vF n (35, L, .int v :: S, H, cs, ss) := s_any k0_33
theorem s0_35 {n cs ss : Nat} {L : List Slot} {S : List Value} {H : AH} : R0 w vF (n + 1) (35, L, S, H, cs, ss) = R0 w vF n (36, L, (.int 2 :: S), H, cs, ss) := s_any k0_35
theorem s0_36 {n cs ss : Nat} {L : List Slot} {S : List Value} {H : AH} : R0 w vF (n + 1) (36, L, S, H, cs, ss) = pI S fun y S => pI S fun x r => if x = y then R0 w vF n (55, L, r, H, cs, ss) else R0 w vF n (39, L, r, H, cs, ss) := s_icmp (Q := fun x y => x = y) (fun _ _ => h_eq) k0_36 (by decide) (by decide)
theorem s0_39 {n cs ss : Nat} {L : List Slot} {S : List Value} {H : AH} : R0 w vF (n + 1) (39, L, S, H, cs, ss) = (gI L 3).bind fun v => R0 w vF n (40, L, .int v :: S, H, cs, ss) := s_any k0_39
theorem s0_40 {n cs ss : Nat} {L : List Slot} {S : List Value} {H : AH} : R0 w vF (n + 1) (40, L, S, H, cs, ss) = R0 w vF n (41, L, (.int 3 :: S), H, cs, ss) := s_any k0_40
theorem s0_41 {n cs ss : Nat} {L : List Slot} {S : List Value} {H : AH} : R0 w vF (n + 1) (41, L, S, H, cs, ss) = pI S fun y S => pI S fun x r => R0 w vF n (42, L, .int (x &&& y) :: r, H, cs, ss) := s_any k0_41
theorem s0_42 {n cs ss : Nat} {L : List Slot} {S : List Value} {H : AH} : R0 w vF (n + 1) (42, L, S, H, cs, ss) = pI S fun x r => if x = 0 then R0 w vF n (55, L, r, H, cs, ss) else R0 w vF n (45, L, r, H, cs, ss) := s_if (Q := fun x => x = 0) (fun _ => z_eq) k0_42 (by decide) (by decide)
theorem s0_45 {n cs ss : Nat} {L : List Slot} {S : List Value} {H : AH} : R0 w vF (n + 1) (45, L, S, H, cs, ss) = (gA L 7).bind fun v => R0 w vF n (47, L, v :: S, H, cs, ss) := s_any k0_45
theorem s0_47 {n cs ss : Nat} {L : List Slot} {S : List Value} {H : AH} : R0 w vF (n + 1) (47, L, S, H, cs, ss) = (aRecv 0 0 6 32 4288 0 0 (F1 w vF) S H cs ss).bind fun r => R0 w vF n (50, L, r.1, r.2.1, r.2.2.1, r.2.2.2) := s_any k0_47
theorem s0_50 {n cs ss : Nat} {L : List Slot} {S : List Value} {H : AH} : R0 w vF (n + 1) (50, L, S, H, cs, ss) = pI S fun x r => (st1 L 8 (.int x)).bind fun L' => R0 w vF n (52, L', r, H, cs, ss) := s_any k0_50
theorem s0_52 {n cs ss : Nat} {L : List Slot} {S : List Value} {H : AH} : R0 w vF (n + 1) (52, L, S, H, cs, ss) = R0 w vF n (63, L, S, H, cs, ss) := s_goto k0_52 (by decide) (by decide)
theorem s0_55 {n cs ss : Nat} {L : List Slot} {S : List Value} {H : AH} : R0 w vF (n + 1) (55, L, S, H, cs, ss) = (gI L 3).bind fun v => R0 w vF n (56, L, .int v :: S, H, cs, ss) := s_any k0_55
theorem s0_56 {n cs ss : Nat} {L : List Slot} {S : List Value} {H : AH} : R0 w vF (n + 1) (56, L, S, H, cs, ss) = R0 w vF n (57, L, (.int 2 :: S), H, cs, ss) := s_any k0_56
theorem s0_57 {n cs ss : Nat} {L : List Slot} {S : List Value} {H : AH} : R0 w vF (n + 1) (57, L, S, H, cs, ss) = ex ret (E0 w vF) 25 (R0 w vF n) (.iushr) 57 L S H cs ss := s_any k0_57
theorem s0_58 {n cs ss : Nat} {L : List Slot} {S : List Value} {H : AH} : R0 w vF (n + 1) (58, L, S, H, cs, ss) = R0 w vF n (60, L, (.int 12 :: S), H, cs, ss) := s_any k0_58
theorem s0_60 {n cs ss : Nat} {L : List Slot} {S : List Value} {H : AH} : R0 w vF (n + 1) (60, L, S, H, cs, ss) = ex ret (E0 w vF) 25 (R0 w vF n) (.irem) 60 L S H cs ss := s_any k0_60
theorem s0_61 {n cs ss : Nat} {L : List Slot} {S : List Value} {H : AH} : R0 w vF (n + 1) (61, L, S, H, cs, ss) = pI S fun x r => (st1 L 8 (.int x)).bind fun L' => R0 w vF n (63, L', r, H, cs, ss) := s_any k0_61
theorem s0_63 {n cs ss : Nat} {L : List Slot} {S : List Value} {H : AH} : R0 w vF (n + 1) (63, L, S, H, cs, ss) = (gI L 8).bind fun v => R0 w vF n (65, L, .int v :: S, H, cs, ss) := s_any k0_63
theorem s0_65 {n cs ss : Nat} {L : List Slot} {S : List Value} {H : AH} : R0 w vF (n + 1) (65, L, S, H, cs, ss) = (aArr .char 32 4288 S H cs ss).bind fun r => R0 w vF n (67, L, r.1, r.2.1, r.2.2.1, r.2.2.2) := s_any k0_65
theorem s0_67 {n cs ss : Nat} {L : List Slot} {S : List Value} {H : AH} : R0 w vF (n + 1) (67, L, S, H, cs, ss) = pA S fun x r => (st1 L 9 x).bind fun L' => R0 w vF n (69, L', r, H, cs, ss) := s_any k0_67
theorem s0_69 {n cs ss : Nat} {L : List Slot} {S : List Value} {H : AH} : R0 w vF (n + 1) (69, L, S, H, cs, ss) = (gI L 8).bind fun v => R0 w vF n (71, L, .int v :: S, H, cs, ss) := s_any k0_69
theorem s0_71 {n cs ss : Nat} {L : List Slot} {S : List Value} {H : AH} : R0 w vF (n + 1) (71, L, S, H, cs, ss) = pI S fun x r => if 0 < x then R0 w vF n (74, L, r, H, cs, ss) else R0 w vF n (89, L, r, H, cs, ss) := s_ifN (Q := fun x => 0 < x) (fun _ => z_le) k0_71 (by decide) (by decide)
theorem s0_74 {n cs ss : Nat} {L : List Slot} {S : List Value} {H : AH} : R0 w vF (n + 1) (74, L, S, H, cs, ss) = (gA L 9).bind fun v => R0 w vF n (76, L, v :: S, H, cs, ss) := s_any k0_74
theorem s0_76 {n cs ss : Nat} {L : List Slot} {S : List Value} {H : AH} : R0 w vF (n + 1) (76, L, S, H, cs, ss) = R0 w vF n (77, L, (.int 0 :: S), H, cs, ss) := s_any k0_76
theorem s0_77 {n cs ss : Nat} {L : List Slot} {S : List Value} {H : AH} : R0 w vF (n + 1) (77, L, S, H, cs, ss) = (gA L 7).bind fun v => R0 w vF n (79, L, v :: S, H, cs, ss) := s_any k0_77
theorem s0_79 {n cs ss : Nat} {L : List Slot} {S : List Value} {H : AH} : R0 w vF (n + 1) (79, L, S, H, cs, ss) = R0 w vF n (80, L, (.int 0 :: S), H, cs, ss) := s_any k0_79
theorem s0_80 {n cs ss : Nat} {L : List Slot} {S : List Value} {H : AH} : R0 w vF (n + 1) (80, L, S, H, cs, ss) = (gI L 2).bind fun v => R0 w vF n (81, L, .int v :: S, H, cs, ss) := s_any k0_80
theorem s0_81 {n cs ss : Nat} {L : List Slot} {S : List Value} {H : AH} : R0 w vF (n + 1) (81, L, S, H, cs, ss) = (gI L 4).bind fun v => R0 w vF n (83, L, .int v :: S, H, cs, ss) := s_any k0_81
theorem s0_83 {n cs ss : Nat} {L : List Slot} {S : List Value} {H : AH} : R0 w vF (n + 1) (83, L, S, H, cs, ss) = (gI L 5).bind fun v => R0 w vF n (85, L, .int v :: S, H, cs, ss) := s_any k0_83
theorem s0_85 {n cs ss : Nat} {L : List Slot} {S : List Value} {H : AH} : R0 w vF (n + 1) (85, L, S, H, cs, ss) = (aCall 5 6 32 4288 0 0 (F3 w vF) S H cs ss).bind fun r => R0 w vF n (88, L, r.1, r.2.1, r.2.2.1, r.2.2.2) := s_any k0_85
theorem s0_88 {n cs ss : Nat} {L : List Slot} {S : List Value} {H : AH} : R0 w vF (n + 1) (88, L, S, H, cs, ss) = ex ret (E0 w vF) 25 (R0 w vF n) (.castore) 88 L S H cs ss := s_any k0_88
theorem s0_89 {n cs ss : Nat} {L : List Slot} {S : List Value} {H : AH} : R0 w vF (n + 1) (89, L, S, H, cs, ss) = (gI L 8).bind fun v => R0 w vF n (91, L, .int v :: S, H, cs, ss) := s_any k0_89
theorem s0_91 {n cs ss : Nat} {L : List Slot} {S : List Value} {H : AH} : R0 w vF (n + 1) (91, L, S, H, cs, ss) = R0 w vF n (92, L, (.int 1 :: S), H, cs, ss) := s_any k0_91
theorem s0_92 {n cs ss : Nat} {L : List Slot} {S : List Value} {H : AH} : R0 w vF (n + 1) (92, L, S, H, cs, ss) = pI S fun y S => pI S fun x r => if y < x then R0 w vF n (95, L, r, H, cs, ss) else R0 w vF n (110, L, r, H, cs, ss) := s_icmpN (Q := fun x y => y < x) (fun _ _ => h_le) k0_92 (by decide) (by decide)
theorem s0_95 {n cs ss : Nat} {L : List Slot} {S : List Value} {H : AH} : R0 w vF (n + 1) (95, L, S, H, cs, ss) = (gA L 9).bind fun v => R0 w vF n (97, L, v :: S, H, cs, ss) := s_any k0_95
theorem s0_97 {n cs ss : Nat} {L : List Slot} {S : List Value} {H : AH} : R0 w vF (n + 1) (97, L, S, H, cs, ss) = R0 w vF n (98, L, (.int 1 :: S), H, cs, ss) := s_any k0_97
theorem s0_98 {n cs ss : Nat} {L : List Slot} {S : List Value} {H : AH} : R0 w vF (n + 1) (98, L, S, H, cs, ss) = (gA L 7).bind fun v => R0 w vF n (100, L, v :: S, H, cs, ss) := s_any k0_98
theorem s0_100 {n cs ss : Nat} {L : List Slot} {S : List Value} {H : AH} : R0 w vF (n + 1) (100, L, S, H, cs, ss) = R0 w vF n (101, L, (.int 1 :: S), H, cs, ss) := s_any k0_100
theorem s0_101 {n cs ss : Nat} {L : List Slot} {S : List Value} {H : AH} : R0 w vF (n + 1) (101, L, S, H, cs, ss) = (gI L 2).bind fun v => R0 w vF n (102, L, .int v :: S, H, cs, ss) := s_any k0_101
theorem s0_102 {n cs ss : Nat} {L : List Slot} {S : List Value} {H : AH} : R0 w vF (n + 1) (102, L, S, H, cs, ss) = (gI L 4).bind fun v => R0 w vF n (104, L, .int v :: S, H, cs, ss) := s_any k0_102
theorem s0_104 {n cs ss : Nat} {L : List Slot} {S : List Value} {H : AH} : R0 w vF (n + 1) (104, L, S, H, cs, ss) = (gI L 5).bind fun v => R0 w vF n (106, L, .int v :: S, H, cs, ss) := s_any k0_104
theorem s0_106 {n cs ss : Nat} {L : List Slot} {S : List Value} {H : AH} : R0 w vF (n + 1) (106, L, S, H, cs, ss) = (aCall 5 6 32 4288 0 0 (F3 w vF) S H cs ss).bind fun r => R0 w vF n (109, L, r.1, r.2.1, r.2.2.1, r.2.2.2) := s_any k0_106
theorem s0_109 {n cs ss : Nat} {L : List Slot} {S : List Value} {H : AH} : R0 w vF (n + 1) (109, L, S, H, cs, ss) = ex ret (E0 w vF) 25 (R0 w vF n) (.castore) 109 L S H cs ss := s_any k0_109
theorem s0_110 {n cs ss : Nat} {L : List Slot} {S : List Value} {H : AH} : R0 w vF (n + 1) (110, L, S, H, cs, ss) = (gI L 8).bind fun v => R0 w vF n (112, L, .int v :: S, H, cs, ss) := s_any k0_110
theorem s0_112 {n cs ss : Nat} {L : List Slot} {S : List Value} {H : AH} : R0 w vF (n + 1) (112, L, S, H, cs, ss) = R0 w vF n (113, L, (.int 2 :: S), H, cs, ss) := s_any k0_112
theorem s0_113 {n cs ss : Nat} {L : List Slot} {S : List Value} {H : AH} : R0 w vF (n + 1) (113, L, S, H, cs, ss) = pI S fun y S => pI S fun x r => if y < x then R0 w vF n (116, L, r, H, cs, ss) else R0 w vF n (131, L, r, H, cs, ss) := s_icmpN (Q := fun x y => y < x) (fun _ _ => h_le) k0_113 (by decide) (by decide)
theorem s0_116 {n cs ss : Nat} {L : List Slot} {S : List Value} {H : AH} : R0 w vF (n + 1) (116, L, S, H, cs, ss) = (gA L 9).bind fun v => R0 w vF n (118, L, v :: S, H, cs, ss) := s_any k0_116
theorem s0_118 {n cs ss : Nat} {L : List Slot} {S : List Value} {H : AH} : R0 w vF (n + 1) (118, L, S, H, cs, ss) = R0 w vF n (119, L, (.int 2 :: S), H, cs, ss) := s_any k0_118
theorem s0_119 {n cs ss : Nat} {L : List Slot} {S : List Value} {H : AH} : R0 w vF (n + 1) (119, L, S, H, cs, ss) = (gA L 7).bind fun v => R0 w vF n (121, L, v :: S, H, cs, ss) := s_any k0_119
theorem s0_121 {n cs ss : Nat} {L : List Slot} {S : List Value} {H : AH} : R0 w vF (n + 1) (121, L, S, H, cs, ss) = R0 w vF n (122, L, (.int 2 :: S), H, cs, ss) := s_any k0_121
theorem s0_122 {n cs ss : Nat} {L : List Slot} {S : List Value} {H : AH} : R0 w vF (n + 1) (122, L, S, H, cs, ss) = (gI L 2).bind fun v => R0 w vF n (123, L, .int v :: S, H, cs, ss) := s_any k0_122
theorem s0_123 {n cs ss : Nat} {L : List Slot} {S : List Value} {H : AH} : R0 w vF (n + 1) (123, L, S, H, cs, ss) = (gI L 4).bind fun v => R0 w vF n (125, L, .int v :: S, H, cs, ss) := s_any k0_123
theorem s0_125 {n cs ss : Nat} {L : List Slot} {S : List Value} {H : AH} : R0 w vF (n + 1) (125, L, S, H, cs, ss) = (gI L 5).bind fun v => R0 w vF n (127, L, .int v :: S, H, cs, ss) := s_any k0_125
theorem s0_127 {n cs ss : Nat} {L : List Slot} {S : List Value} {H : AH} : R0 w vF (n + 1) (127, L, S, H, cs, ss) = (aCall 5 6 32 4288 0 0 (F3 w vF) S H cs ss).bind fun r => R0 w vF n (130, L, r.1, r.2.1, r.2.2.1, r.2.2.2) := s_any k0_127
theorem s0_130 {n cs ss : Nat} {L : List Slot} {S : List Value} {H : AH} : R0 w vF (n + 1) (130, L, S, H, cs, ss) = ex ret (E0 w vF) 25 (R0 w vF n) (.castore) 130 L S H cs ss := s_any k0_130
theorem s0_131 {n cs ss : Nat} {L : List Slot} {S : List Value} {H : AH} : R0 w vF (n + 1) (131, L, S, H, cs, ss) = (gI L 8).bind fun v => R0 w vF n (133, L, .int v :: S, H, cs, ss) := s_any k0_131
theorem s0_133 {n cs ss : Nat} {L : List Slot} {S : List Value} {H : AH} : R0 w vF (n + 1) (133, L, S, H, cs, ss) = R0 w vF n (134, L, (.int 3 :: S), H, cs, ss) := s_any k0_133
theorem s0_134 {n cs ss : Nat} {L : List Slot} {S : List Value} {H : AH} : R0 w vF (n + 1) (134, L, S, H, cs, ss) = pI S fun y S => pI S fun x r => if y < x then R0 w vF n (137, L, r, H, cs, ss) else R0 w vF n (152, L, r, H, cs, ss) := s_icmpN (Q := fun x y => y < x) (fun _ _ => h_le) k0_134 (by decide) (by decide)
theorem s0_137 {n cs ss : Nat} {L : List Slot} {S : List Value} {H : AH} : R0 w vF (n + 1) (137, L, S, H, cs, ss) = (gA L 9).bind fun v => R0 w vF n (139, L, v :: S, H, cs, ss) := s_any k0_137
theorem s0_139 {n cs ss : Nat} {L : List Slot} {S : List Value} {H : AH} : R0 w vF (n + 1) (139, L, S, H, cs, ss) = R0 w vF n (140, L, (.int 3 :: S), H, cs, ss) := s_any k0_139
theorem s0_140 {n cs ss : Nat} {L : List Slot} {S : List Value} {H : AH} : R0 w vF (n + 1) (140, L, S, H, cs, ss) = (gA L 7).bind fun v => R0 w vF n (142, L, v :: S, H, cs, ss) := s_any k0_140
theorem s0_142 {n cs ss : Nat} {L : List Slot} {S : List Value} {H : AH} : R0 w vF (n + 1) (142, L, S, H, cs, ss) = R0 w vF n (143, L, (.int 3 :: S), H, cs, ss) := s_any k0_142
theorem s0_143 {n cs ss : Nat} {L : List Slot} {S : List Value} {H : AH} : R0 w vF (n + 1) (143, L, S, H, cs, ss) = (gI L 2).bind fun v => R0 w vF n (144, L, .int v :: S, H, cs, ss) := s_any k0_143
theorem s0_144 {n cs ss : Nat} {L : List Slot} {S : List Value} {H : AH} : R0 w vF (n + 1) (144, L, S, H, cs, ss) = (gI L 4).bind fun v => R0 w vF n (146, L, .int v :: S, H, cs, ss) := s_any k0_144
theorem s0_146 {n cs ss : Nat} {L : List Slot} {S : List Value} {H : AH} : R0 w vF (n + 1) (146, L, S, H, cs, ss) = (gI L 5).bind fun v => R0 w vF n (148, L, .int v :: S, H, cs, ss) := s_any k0_146
theorem s0_148 {n cs ss : Nat} {L : List Slot} {S : List Value} {H : AH} : R0 w vF (n + 1) (148, L, S, H, cs, ss) = (aCall 5 6 32 4288 0 0 (F3 w vF) S H cs ss).bind fun r => R0 w vF n (151, L, r.1, r.2.1, r.2.2.1, r.2.2.2) := s_any k0_148
theorem s0_151 {n cs ss : Nat} {L : List Slot} {S : List Value} {H : AH} : R0 w vF (n + 1) (151, L, S, H, cs, ss) = ex ret (E0 w vF) 25 (R0 w vF n) (.castore) 151 L S H cs ss := s_any k0_151
theorem s0_152 {n cs ss : Nat} {L : List Slot} {S : List Value} {H : AH} : R0 w vF (n + 1) (152, L, S, H, cs, ss) = (gI L 8).bind fun v => R0 w vF n (154, L, .int v :: S, H, cs, ss) := s_any k0_152
theorem s0_154 {n cs ss : Nat} {L : List Slot} {S : List Value} {H : AH} : R0 w vF (n + 1) (154, L, S, H, cs, ss) = R0 w vF n (155, L, (.int 4 :: S), H, cs, ss) := s_any k0_154
theorem s0_155 {n cs ss : Nat} {L : List Slot} {S : List Value} {H : AH} : R0 w vF (n + 1) (155, L, S, H, cs, ss) = pI S fun y S => pI S fun x r => if y < x then R0 w vF n (158, L, r, H, cs, ss) else R0 w vF n (173, L, r, H, cs, ss) := s_icmpN (Q := fun x y => y < x) (fun _ _ => h_le) k0_155 (by decide) (by decide)
theorem s0_158 {n cs ss : Nat} {L : List Slot} {S : List Value} {H : AH} : R0 w vF (n + 1) (158, L, S, H, cs, ss) = (gA L 9).bind fun v => R0 w vF n (160, L, v :: S, H, cs, ss) := s_any k0_158
theorem s0_160 {n cs ss : Nat} {L : List Slot} {S : List Value} {H : AH} : R0 w vF (n + 1) (160, L, S, H, cs, ss) = R0 w vF n (161, L, (.int 4 :: S), H, cs, ss) := s_any k0_160
theorem s0_161 {n cs ss : Nat} {L : List Slot} {S : List Value} {H : AH} : R0 w vF (n + 1) (161, L, S, H, cs, ss) = (gA L 7).bind fun v => R0 w vF n (163, L, v :: S, H, cs, ss) := s_any k0_161
theorem s0_163 {n cs ss : Nat} {L : List Slot} {S : List Value} {H : AH} : R0 w vF (n + 1) (163, L, S, H, cs, ss) = R0 w vF n (164, L, (.int 4 :: S), H, cs, ss) := s_any k0_163
theorem s0_164 {n cs ss : Nat} {L : List Slot} {S : List Value} {H : AH} : R0 w vF (n + 1) (164, L, S, H, cs, ss) = (gI L 2).bind fun v => R0 w vF n (165, L, .int v :: S, H, cs, ss) := s_any k0_164
theorem s0_165 {n cs ss : Nat} {L : List Slot} {S : List Value} {H : AH} : R0 w vF (n + 1) (165, L, S, H, cs, ss) = (gI L 4).bind fun v => R0 w vF n (167, L, .int v :: S, H, cs, ss) := s_any k0_165
theorem s0_167 {n cs ss : Nat} {L : List Slot} {S : List Value} {H : AH} : R0 w vF (n + 1) (167, L, S, H, cs, ss) = (gI L 5).bind fun v => R0 w vF n (169, L, .int v :: S, H, cs, ss) := s_any k0_167
theorem s0_169 {n cs ss : Nat} {L : List Slot} {S : List Value} {H : AH} : R0 w vF (n + 1) (169, L, S, H, cs, ss) = (aCall 5 6 32 4288 0 0 (F3 w vF) S H cs ss).bind fun r => R0 w vF n (172, L, r.1, r.2.1, r.2.2.1, r.2.2.2) := s_any k0_169
theorem s0_172 {n cs ss : Nat} {L : List Slot} {S : List Value} {H : AH} : R0 w vF (n + 1) (172, L, S, H, cs, ss) = ex ret (E0 w vF) 25 (R0 w vF n) (.castore) 172 L S H cs ss := s_any k0_172
theorem s0_173 {n cs ss : Nat} {L : List Slot} {S : List Value} {H : AH} : R0 w vF (n + 1) (173, L, S, H, cs, ss) = (gI L 8).bind fun v => R0 w vF n (175, L, .int v :: S, H, cs, ss) := s_any k0_173
theorem s0_175 {n cs ss : Nat} {L : List Slot} {S : List Value} {H : AH} : R0 w vF (n + 1) (175, L, S, H, cs, ss) = R0 w vF n (176, L, (.int 5 :: S), H, cs, ss) := s_any k0_175
theorem s0_176 {n cs ss : Nat} {L : List Slot} {S : List Value} {H : AH} : R0 w vF (n + 1) (176, L, S, H, cs, ss) = pI S fun y S => pI S fun x r => if y < x then R0 w vF n (179, L, r, H, cs, ss) else R0 w vF n (194, L, r, H, cs, ss) := s_icmpN (Q := fun x y => y < x) (fun _ _ => h_le) k0_176 (by decide) (by decide)
theorem s0_179 {n cs ss : Nat} {L : List Slot} {S : List Value} {H : AH} : R0 w vF (n + 1) (179, L, S, H, cs, ss) = (gA L 9).bind fun v => R0 w vF n (181, L, v :: S, H, cs, ss) := s_any k0_179
theorem s0_181 {n cs ss : Nat} {L : List Slot} {S : List Value} {H : AH} : R0 w vF (n + 1) (181, L, S, H, cs, ss) = R0 w vF n (182, L, (.int 5 :: S), H, cs, ss) := s_any k0_181
theorem s0_182 {n cs ss : Nat} {L : List Slot} {S : List Value} {H : AH} : R0 w vF (n + 1) (182, L, S, H, cs, ss) = (gA L 7).bind fun v => R0 w vF n (184, L, v :: S, H, cs, ss) := s_any k0_182
theorem s0_184 {n cs ss : Nat} {L : List Slot} {S : List Value} {H : AH} : R0 w vF (n + 1) (184, L, S, H, cs, ss) = R0 w vF n (185, L, (.int 5 :: S), H, cs, ss) := s_any k0_184
theorem s0_185 {n cs ss : Nat} {L : List Slot} {S : List Value} {H : AH} : R0 w vF (n + 1) (185, L, S, H, cs, ss) = (gI L 2).bind fun v => R0 w vF n (186, L, .int v :: S, H, cs, ss) := s_any k0_185
theorem s0_186 {n cs ss : Nat} {L : List Slot} {S : List Value} {H : AH} : R0 w vF (n + 1) (186, L, S, H, cs, ss) = (gI L 4).bind fun v => R0 w vF n (188, L, .int v :: S, H, cs, ss) := s_any k0_186
theorem s0_188 {n cs ss : Nat} {L : List Slot} {S : List Value} {H : AH} : R0 w vF (n + 1) (188, L, S, H, cs, ss) = (gI L 5).bind fun v => R0 w vF n (190, L, .int v :: S, H, cs, ss) := s_any k0_188
theorem s0_190 {n cs ss : Nat} {L : List Slot} {S : List Value} {H : AH} : R0 w vF (n + 1) (190, L, S, H, cs, ss) = (aCall 5 6 32 4288 0 0 (F3 w vF) S H cs ss).bind fun r => R0 w vF n (193, L, r.1, r.2.1, r.2.2.1, r.2.2.2) := s_any k0_190
theorem s0_193 {n cs ss : Nat} {L : List Slot} {S : List Value} {H : AH} : R0 w vF (n + 1) (193, L, S, H, cs, ss) = ex ret (E0 w vF) 25 (R0 w vF n) (.castore) 193 L S H cs ss := s_any k0_193
theorem s0_194 {n cs ss : Nat} {L : List Slot} {S : List Value} {H : AH} : R0 w vF (n + 1) (194, L, S, H, cs, ss) = (gI L 8).bind fun v => R0 w vF n (196, L, .int v :: S, H, cs, ss) := s_any k0_194
theorem s0_196 {n cs ss : Nat} {L : List Slot} {S : List Value} {H : AH} : R0 w vF (n + 1) (196, L, S, H, cs, ss) = R0 w vF n (198, L, (.int 6 :: S), H, cs, ss) := s_any k0_196
theorem s0_198 {n cs ss : Nat} {L : List Slot} {S : List Value} {H : AH} : R0 w vF (n + 1) (198, L, S, H, cs, ss) = pI S fun y S => pI S fun x r => if y < x then R0 w vF n (201, L, r, H, cs, ss) else R0 w vF n (218, L, r, H, cs, ss) := s_icmpN (Q := fun x y => y < x) (fun _ _ => h_le) k0_198 (by decide) (by decide)
theorem s0_201 {n cs ss : Nat} {L : List Slot} {S : List Value} {H : AH} : R0 w vF (n + 1) (201, L, S, H, cs, ss) = (gA L 9).bind fun v => R0 w vF n (203, L, v :: S, H, cs, ss) := s_any k0_201
theorem s0_203 {n cs ss : Nat} {L : List Slot} {S : List Value} {H : AH} : R0 w vF (n + 1) (203, L, S, H, cs, ss) = R0 w vF n (205, L, (.int 6 :: S), H, cs, ss) := s_any k0_203
theorem s0_205 {n cs ss : Nat} {L : List Slot} {S : List Value} {H : AH} : R0 w vF (n + 1) (205, L, S, H, cs, ss) = (gA L 7).bind fun v => R0 w vF n (207, L, v :: S, H, cs, ss) := s_any k0_205
theorem s0_207 {n cs ss : Nat} {L : List Slot} {S : List Value} {H : AH} : R0 w vF (n + 1) (207, L, S, H, cs, ss) = R0 w vF n (209, L, (.int 6 :: S), H, cs, ss) := s_any k0_207
theorem s0_209 {n cs ss : Nat} {L : List Slot} {S : List Value} {H : AH} : R0 w vF (n + 1) (209, L, S, H, cs, ss) = (gI L 2).bind fun v => R0 w vF n (210, L, .int v :: S, H, cs, ss) := s_any k0_209
theorem s0_210 {n cs ss : Nat} {L : List Slot} {S : List Value} {H : AH} : R0 w vF (n + 1) (210, L, S, H, cs, ss) = (gI L 4).bind fun v => R0 w vF n (212, L, .int v :: S, H, cs, ss) := s_any k0_210
theorem s0_212 {n cs ss : Nat} {L : List Slot} {S : List Value} {H : AH} : R0 w vF (n + 1) (212, L, S, H, cs, ss) = (gI L 5).bind fun v => R0 w vF n (214, L, .int v :: S, H, cs, ss) := s_any k0_212
theorem s0_214 {n cs ss : Nat} {L : List Slot} {S : List Value} {H : AH} : R0 w vF (n + 1) (214, L, S, H, cs, ss) = (aCall 5 6 32 4288 0 0 (F3 w vF) S H cs ss).bind fun r => R0 w vF n (217, L, r.1, r.2.1, r.2.2.1, r.2.2.2) := s_any k0_214
theorem s0_217 {n cs ss : Nat} {L : List Slot} {S : List Value} {H : AH} : R0 w vF (n + 1) (217, L, S, H, cs, ss) = ex ret (E0 w vF) 25 (R0 w vF n) (.castore) 217 L S H cs ss := s_any k0_217
theorem s0_218 {n cs ss : Nat} {L : List Slot} {S : List Value} {H : AH} : R0 w vF (n + 1) (218, L, S, H, cs, ss) = (gI L 8).bind fun v => R0 w vF n (220, L, .int v :: S, H, cs, ss) := s_any k0_218
theorem s0_220 {n cs ss : Nat} {L : List Slot} {S : List Value} {H : AH} : R0 w vF (n + 1) (220, L, S, H, cs, ss) = R0 w vF n (222, L, (.int 7 :: S), H, cs, ss) := s_any k0_220
theorem s0_222 {n cs ss : Nat} {L : List Slot} {S : List Value} {H : AH} : R0 w vF (n + 1) (222, L, S, H, cs, ss) = pI S fun y S => pI S fun x r => if y < x then R0 w vF n (225, L, r, H, cs, ss) else R0 w vF n (242, L, r, H, cs, ss) := s_icmpN (Q := fun x y => y < x) (fun _ _ => h_le) k0_222 (by decide) (by decide)
theorem s0_225 {n cs ss : Nat} {L : List Slot} {S : List Value} {H : AH} : R0 w vF (n + 1) (225, L, S, H, cs, ss) = (gA L 9).bind fun v => R0 w vF n (227, L, v :: S, H, cs, ss) := s_any k0_225
theorem s0_227 {n cs ss : Nat} {L : List Slot} {S : List Value} {H : AH} : R0 w vF (n + 1) (227, L, S, H, cs, ss) = R0 w vF n (229, L, (.int 7 :: S), H, cs, ss) := s_any k0_227
theorem s0_229 {n cs ss : Nat} {L : List Slot} {S : List Value} {H : AH} : R0 w vF (n + 1) (229, L, S, H, cs, ss) = (gA L 7).bind fun v => R0 w vF n (231, L, v :: S, H, cs, ss) := s_any k0_229
theorem s0_231 {n cs ss : Nat} {L : List Slot} {S : List Value} {H : AH} : R0 w vF (n + 1) (231, L, S, H, cs, ss) = R0 w vF n (233, L, (.int 7 :: S), H, cs, ss) := s_any k0_231
theorem s0_233 {n cs ss : Nat} {L : List Slot} {S : List Value} {H : AH} : R0 w vF (n + 1) (233, L, S, H, cs, ss) = (gI L 2).bind fun v => R0 w vF n (234, L, .int v :: S, H, cs, ss) := s_any k0_233
theorem s0_234 {n cs ss : Nat} {L : List Slot} {S : List Value} {H : AH} : R0 w vF (n + 1) (234, L, S, H, cs, ss) = (gI L 4).bind fun v => R0 w vF n (236, L, .int v :: S, H, cs, ss) := s_any k0_234
theorem s0_236 {n cs ss : Nat} {L : List Slot} {S : List Value} {H : AH} : R0 w vF (n + 1) (236, L, S, H, cs, ss) = (gI L 5).bind fun v => R0 w vF n (238, L, .int v :: S, H, cs, ss) := s_any k0_236
theorem s0_238 {n cs ss : Nat} {L : List Slot} {S : List Value} {H : AH} : R0 w vF (n + 1) (238, L, S, H, cs, ss) = (aCall 5 6 32 4288 0 0 (F3 w vF) S H cs ss).bind fun r => R0 w vF n (241, L, r.1, r.2.1, r.2.2.1, r.2.2.2) := s_any k0_238
theorem s0_241 {n cs ss : Nat} {L : List Slot} {S : List Value} {H : AH} : R0 w vF (n + 1) (241, L, S, H, cs, ss) = ex ret (E0 w vF) 25 (R0 w vF n) (.castore) 241 L S H cs ss := s_any k0_241
theorem s0_242 {n cs ss : Nat} {L : List Slot} {S : List Value} {H : AH} : R0 w vF (n + 1) (242, L, S, H, cs, ss) = (gI L 8).bind fun v => R0 w vF n (244, L, .int v :: S, H, cs, ss) := s_any k0_242
theorem s0_244 {n cs ss : Nat} {L : List Slot} {S : List Value} {H : AH} : R0 w vF (n + 1) (244, L, S, H, cs, ss) = R0 w vF n (246, L, (.int 8 :: S), H, cs, ss) := s_any k0_244
theorem s0_246 {n cs ss : Nat} {L : List Slot} {S : List Value} {H : AH} : R0 w vF (n + 1) (246, L, S, H, cs, ss) = pI S fun y S => pI S fun x r => if y < x then R0 w vF n (249, L, r, H, cs, ss) else R0 w vF n (266, L, r, H, cs, ss) := s_icmpN (Q := fun x y => y < x) (fun _ _ => h_le) k0_246 (by decide) (by decide)
theorem s0_249 {n cs ss : Nat} {L : List Slot} {S : List Value} {H : AH} : R0 w vF (n + 1) (249, L, S, H, cs, ss) = (gA L 9).bind fun v => R0 w vF n (251, L, v :: S, H, cs, ss) := s_any k0_249
theorem s0_251 {n cs ss : Nat} {L : List Slot} {S : List Value} {H : AH} : R0 w vF (n + 1) (251, L, S, H, cs, ss) = R0 w vF n (253, L, (.int 8 :: S), H, cs, ss) := s_any k0_251
theorem s0_253 {n cs ss : Nat} {L : List Slot} {S : List Value} {H : AH} : R0 w vF (n + 1) (253, L, S, H, cs, ss) = (gA L 7).bind fun v => R0 w vF n (255, L, v :: S, H, cs, ss) := s_any k0_253
theorem s0_255 {n cs ss : Nat} {L : List Slot} {S : List Value} {H : AH} : R0 w vF (n + 1) (255, L, S, H, cs, ss) = R0 w vF n (257, L, (.int 8 :: S), H, cs, ss) := s_any k0_255
theorem s0_257 {n cs ss : Nat} {L : List Slot} {S : List Value} {H : AH} : R0 w vF (n + 1) (257, L, S, H, cs, ss) = (gI L 2).bind fun v => R0 w vF n (258, L, .int v :: S, H, cs, ss) := s_any k0_257
theorem s0_258 {n cs ss : Nat} {L : List Slot} {S : List Value} {H : AH} : R0 w vF (n + 1) (258, L, S, H, cs, ss) = (gI L 4).bind fun v => R0 w vF n (260, L, .int v :: S, H, cs, ss) := s_any k0_258
theorem s0_260 {n cs ss : Nat} {L : List Slot} {S : List Value} {H : AH} : R0 w vF (n + 1) (260, L, S, H, cs, ss) = (gI L 5).bind fun v => R0 w vF n (262, L, .int v :: S, H, cs, ss) := s_any k0_260
theorem s0_262 {n cs ss : Nat} {L : List Slot} {S : List Value} {H : AH} : R0 w vF (n + 1) (262, L, S, H, cs, ss) = (aCall 5 6 32 4288 0 0 (F3 w vF) S H cs ss).bind fun r => R0 w vF n (265, L, r.1, r.2.1, r.2.2.1, r.2.2.2) := s_any k0_262
theorem s0_265 {n cs ss : Nat} {L : List Slot} {S : List Value} {H : AH} : R0 w vF (n + 1) (265, L, S, H, cs, ss) = ex ret (E0 w vF) 25 (R0 w vF n) (.castore) 265 L S H cs ss := s_any k0_265
theorem s0_266 {n cs ss : Nat} {L : List Slot} {S : List Value} {H : AH} : R0 w vF (n + 1) (266, L, S, H, cs, ss) = (gI L 8).bind fun v => R0 w vF n (268, L, .int v :: S, H, cs, ss) := s_any k0_266
theorem s0_268 {n cs ss : Nat} {L : List Slot} {S : List Value} {H : AH} : R0 w vF (n + 1) (268, L, S, H, cs, ss) = R0 w vF n (270, L, (.int 9 :: S), H, cs, ss) := s_any k0_268
theorem s0_270 {n cs ss : Nat} {L : List Slot} {S : List Value} {H : AH} : R0 w vF (n + 1) (270, L, S, H, cs, ss) = pI S fun y S => pI S fun x r => if y < x then R0 w vF n (273, L, r, H, cs, ss) else R0 w vF n (290, L, r, H, cs, ss) := s_icmpN (Q := fun x y => y < x) (fun _ _ => h_le) k0_270 (by decide) (by decide)
theorem s0_273 {n cs ss : Nat} {L : List Slot} {S : List Value} {H : AH} : R0 w vF (n + 1) (273, L, S, H, cs, ss) = (gA L 9).bind fun v => R0 w vF n (275, L, v :: S, H, cs, ss) := s_any k0_273
theorem s0_275 {n cs ss : Nat} {L : List Slot} {S : List Value} {H : AH} : R0 w vF (n + 1) (275, L, S, H, cs, ss) = R0 w vF n (277, L, (.int 9 :: S), H, cs, ss) := s_any k0_275
theorem s0_277 {n cs ss : Nat} {L : List Slot} {S : List Value} {H : AH} : R0 w vF (n + 1) (277, L, S, H, cs, ss) = (gA L 7).bind fun v => R0 w vF n (279, L, v :: S, H, cs, ss) := s_any k0_277
theorem s0_279 {n cs ss : Nat} {L : List Slot} {S : List Value} {H : AH} : R0 w vF (n + 1) (279, L, S, H, cs, ss) = R0 w vF n (281, L, (.int 9 :: S), H, cs, ss) := s_any k0_279
theorem s0_281 {n cs ss : Nat} {L : List Slot} {S : List Value} {H : AH} : R0 w vF (n + 1) (281, L, S, H, cs, ss) = (gI L 2).bind fun v => R0 w vF n (282, L, .int v :: S, H, cs, ss) := s_any k0_281
theorem s0_282 {n cs ss : Nat} {L : List Slot} {S : List Value} {H : AH} : R0 w vF (n + 1) (282, L, S, H, cs, ss) = (gI L 4).bind fun v => R0 w vF n (284, L, .int v :: S, H, cs, ss) := s_any k0_282
theorem s0_284 {n cs ss : Nat} {L : List Slot} {S : List Value} {H : AH} : R0 w vF (n + 1) (284, L, S, H, cs, ss) = (gI L 5).bind fun v => R0 w vF n (286, L, .int v :: S, H, cs, ss) := s_any k0_284
theorem s0_286 {n cs ss : Nat} {L : List Slot} {S : List Value} {H : AH} : R0 w vF (n + 1) (286, L, S, H, cs, ss) = (aCall 5 6 32 4288 0 0 (F3 w vF) S H cs ss).bind fun r => R0 w vF n (289, L, r.1, r.2.1, r.2.2.1, r.2.2.2) := s_any k0_286
theorem s0_289 {n cs ss : Nat} {L : List Slot} {S : List Value} {H : AH} : R0 w vF (n + 1) (289, L, S, H, cs, ss) = ex ret (E0 w vF) 25 (R0 w vF n) (.castore) 289 L S H cs ss := s_any k0_289
theorem s0_290 {n cs ss : Nat} {L : List Slot} {S : List Value} {H : AH} : R0 w vF (n + 1) (290, L, S, H, cs, ss) = (gI L 8).bind fun v => R0 w vF n (292, L, .int v :: S, H, cs, ss) := s_any k0_290
theorem s0_292 {n cs ss : Nat} {L : List Slot} {S : List Value} {H : AH} : R0 w vF (n + 1) (292, L, S, H, cs, ss) = R0 w vF n (294, L, (.int 10 :: S), H, cs, ss) := s_any k0_292
theorem s0_294 {n cs ss : Nat} {L : List Slot} {S : List Value} {H : AH} : R0 w vF (n + 1) (294, L, S, H, cs, ss) = pI S fun y S => pI S fun x r => if y < x then R0 w vF n (297, L, r, H, cs, ss) else R0 w vF n (314, L, r, H, cs, ss) := s_icmpN (Q := fun x y => y < x) (fun _ _ => h_le) k0_294 (by decide) (by decide)
theorem s0_297 {n cs ss : Nat} {L : List Slot} {S : List Value} {H : AH} : R0 w vF (n + 1) (297, L, S, H, cs, ss) = (gA L 9).bind fun v => R0 w vF n (299, L, v :: S, H, cs, ss) := s_any k0_297
theorem s0_299 {n cs ss : Nat} {L : List Slot} {S : List Value} {H : AH} : R0 w vF (n + 1) (299, L, S, H, cs, ss) = R0 w vF n (301, L, (.int 10 :: S), H, cs, ss) := s_any k0_299
theorem s0_301 {n cs ss : Nat} {L : List Slot} {S : List Value} {H : AH} : R0 w vF (n + 1) (301, L, S, H, cs, ss) = (gA L 7).bind fun v => R0 w vF n (303, L, v :: S, H, cs, ss) := s_any k0_301
theorem s0_303 {n cs ss : Nat} {L : List Slot} {S : List Value} {H : AH} : R0 w vF (n + 1) (303, L, S, H, cs, ss) = R0 w vF n (305, L, (.int 10 :: S), H, cs, ss) := s_any k0_303
theorem s0_305 {n cs ss : Nat} {L : List Slot} {S : List Value} {H : AH} : R0 w vF (n + 1) (305, L, S, H, cs, ss) = (gI L 2).bind fun v => R0 w vF n (306, L, .int v :: S, H, cs, ss) := s_any k0_305
theorem s0_306 {n cs ss : Nat} {L : List Slot} {S : List Value} {H : AH} : R0 w vF (n + 1) (306, L, S, H, cs, ss) = (gI L 4).bind fun v => R0 w vF n (308, L, .int v :: S, H, cs, ss) := s_any k0_306
theorem s0_308 {n cs ss : Nat} {L : List Slot} {S : List Value} {H : AH} : R0 w vF (n + 1) (308, L, S, H, cs, ss) = (gI L 5).bind fun v => R0 w vF n (310, L, .int v :: S, H, cs, ss) := s_any k0_308
theorem s0_310 {n cs ss : Nat} {L : List Slot} {S : List Value} {H : AH} : R0 w vF (n + 1) (310, L, S, H, cs, ss) = (aCall 5 6 32 4288 0 0 (F3 w vF) S H cs ss).bind fun r => R0 w vF n (313, L, r.1, r.2.1, r.2.2.1, r.2.2.2) := s_any k0_310
theorem s0_313 {n cs ss : Nat} {L : List Slot} {S : List Value} {H : AH} : R0 w vF (n + 1) (313, L, S, H, cs, ss) = ex ret (E0 w vF) 25 (R0 w vF n) (.castore) 313 L S H cs ss := s_any k0_313
theorem s0_314 {n cs ss : Nat} {L : List Slot} {S : List Value} {H : AH} : R0 w vF (n + 1) (314, L, S, H, cs, ss) = (gI L 1).bind fun v => R0 w vF n (315, L, .int v :: S, H, cs, ss) := s_any k0_314
theorem s0_315 {n cs ss : Nat} {L : List Slot} {S : List Value} {H : AH} : R0 w vF (n + 1) (315, L, S, H, cs, ss) = R0 w vF n (316, L, (.int 1 :: S), H, cs, ss) := s_any k0_315
theorem s0_316 {n cs ss : Nat} {L : List Slot} {S : List Value} {H : AH} : R0 w vF (n + 1) (316, L, S, H, cs, ss) = pI S fun y S => pI S fun x r => R0 w vF n (317, L, .int (x &&& y) :: r, H, cs, ss) := s_any k0_316
theorem s0_317 {n cs ss : Nat} {L : List Slot} {S : List Value} {H : AH} : R0 w vF (n + 1) (317, L, S, H, cs, ss) = pI S fun x r => if x = 0 then R0 w vF n (346, L, r, H, cs, ss) else R0 w vF n (320, L, r, H, cs, ss) := s_if (Q := fun x => x = 0) (fun _ => z_eq) k0_317 (by decide) (by decide)
theorem s0_320 {n cs ss : Nat} {L : List Slot} {S : List Value} {H : AH} : R0 w vF (n + 1) (320, L, S, H, cs, ss) = (gI L 1).bind fun v => R0 w vF n (321, L, .int v :: S, H, cs, ss) := s_any k0_320
theorem s0_321 {n cs ss : Nat} {L : List Slot} {S : List Value} {H : AH} : R0 w vF (n + 1) (321, L, S, H, cs, ss) = R0 w vF n (322, L, (.int 1 :: S), H, cs, ss) := s_any k0_321
theorem s0_322 {n cs ss : Nat} {L : List Slot} {S : List Value} {H : AH} : R0 w vF (n + 1) (322, L, S, H, cs, ss) = ex ret (E0 w vF) 25 (R0 w vF n) (.iushr) 322 L S H cs ss := s_any k0_322
theorem s0_323 {n cs ss : Nat} {L : List Slot} {S : List Value} {H : AH} : R0 w vF (n + 1) (323, L, S, H, cs, ss) = R0 w vF n (325, L, (.int 11 :: S), H, cs, ss) := s_any k0_323
theorem s0_325 {n cs ss : Nat} {L : List Slot} {S : List Value} {H : AH} : R0 w vF (n + 1) (325, L, S, H, cs, ss) = ex ret (E0 w vF) 25 (R0 w vF n) (.irem) 325 L S H cs ss := s_any k0_325
theorem s0_326 {n cs ss : Nat} {L : List Slot} {S : List Value} {H : AH} : R0 w vF (n + 1) (326, L, S, H, cs, ss) = pI S fun x r => (st1 L 10 (.int x)).bind fun L' => R0 w vF n (328, L', r, H, cs, ss) := s_any k0_326
theorem s0_328 {n cs ss : Nat} {L : List Slot} {S : List Value} {H : AH} : R0 w vF (n + 1) (328, L, S, H, cs, ss) = (gI L 10).bind fun v => R0 w vF n (330, L, .int v :: S, H, cs, ss) := s_any k0_328
theorem s0_330 {n cs ss : Nat} {L : List Slot} {S : List Value} {H : AH} : R0 w vF (n + 1) (330, L, S, H, cs, ss) = (gI L 8).bind fun v => R0 w vF n (332, L, .int v :: S, H, cs, ss) := s_any k0_330
theorem s0_332 {n cs ss : Nat} {L : List Slot} {S : List Value} {H : AH} : R0 w vF (n + 1) (332, L, S, H, cs, ss) = pI S fun y S => pI S fun x r => if x < y then R0 w vF n (335, L, r, H, cs, ss) else R0 w vF n (346, L, r, H, cs, ss) := s_icmpN (Q := fun x y => x < y) (fun _ _ => h_ge) k0_332 (by decide) (by decide)
theorem s0_335 {n cs ss : Nat} {L : List Slot} {S : List Value} {H : AH} : R0 w vF (n + 1) (335, L, S, H, cs, ss) = (gA L 9).bind fun v => R0 w vF n (337, L, v :: S, H, cs, ss) := s_any k0_335
theorem s0_337 {n cs ss : Nat} {L : List Slot} {S : List Value} {H : AH} : R0 w vF (n + 1) (337, L, S, H, cs, ss) = (gI L 10).bind fun v => R0 w vF n (339, L, .int v :: S, H, cs, ss) := s_any k0_337
theorem s0_339 {n cs ss : Nat} {L : List Slot} {S : List Value} {H : AH} : R0 w vF (n + 1) (339, L, S, H, cs, ss) = (gI L 2).bind fun v => R0 w vF n (340, L, .int v :: S, H, cs, ss) := s_any k0_339
theorem s0_340 {n cs ss : Nat} {L : List Slot} {S : List Value} {H : AH} : R0 w vF (n + 1) (340, L, S, H, cs, ss) = R0 w vF n (343, L, (.int 255 :: S), H, cs, ss) := s_any k0_340
theorem s0_343 {n cs ss : Nat} {L : List Slot} {S : List Value} {H : AH} : R0 w vF (n + 1) (343, L, S, H, cs, ss) = pI S fun y S => pI S fun x r => R0 w vF n (344, L, .int (x &&& y) :: r, H, cs, ss) := s_any k0_343
theorem s0_344 {n cs ss : Nat} {L : List Slot} {S : List Value} {H : AH} : R0 w vF (n + 1) (344, L, S, H, cs, ss) = ex ret (E0 w vF) 25 (R0 w vF n) (.i2c) 344 L S H cs ss := s_any k0_344
theorem s0_345 {n cs ss : Nat} {L : List Slot} {S : List Value} {H : AH} : R0 w vF (n + 1) (345, L, S, H, cs, ss) = ex ret (E0 w vF) 25 (R0 w vF n) (.castore) 345 L S H cs ss := s_any k0_345
theorem s0_346 {n cs ss : Nat} {L : List Slot} {S : List Value} {H : AH} : R0 w vF (n + 1) (346, L, S, H, cs, ss) = (aNew 0 4 32 4288 [.null, (.int 0)] S H cs ss).bind fun r => R0 w vF n (349, L, r.1, r.2.1, r.2.2.1, r.2.2.2) := s_any k0_346
theorem s0_349 {n cs ss : Nat} {L : List Slot} {S : List Value} {H : AH} : R0 w vF (n + 1) (349, L, S, H, cs, ss) = ex ret (E0 w vF) 25 (R0 w vF n) (.dup) 349 L S H cs ss := s_any k0_349
theorem s0_350 {n cs ss : Nat} {L : List Slot} {S : List Value} {H : AH} : R0 w vF (n + 1) (350, L, S, H, cs, ss) = (gA L 9).bind fun v => R0 w vF n (352, L, v :: S, H, cs, ss) := s_any k0_350
theorem s0_352 {n cs ss : Nat} {L : List Slot} {S : List Value} {H : AH} : R0 w vF (n + 1) (352, L, S, H, cs, ss) = if (fr3 H.length 21 L S [] && fr3 H.length 23 L S []) = true then (aRecv 1 0 6 32 4288 6 40 (F9 w vF) S H cs ss).bind fun r => R0 w vF n (355, L, r.1, r.2.1, r.2.2.1, r.2.2.2) else none := s_any k0_352
theorem s0_355 {n cs ss : Nat} {L : List Slot} {S : List Value} {H : AH} : R0 w vF (n + 1) (355, L, S, H, cs, ss) = pA S fun x r => (st1 L 10 x).bind fun L' => R0 w vF n (357, L', r, H, cs, ss) := s_any k0_355
theorem s0_357 {n cs ss : Nat} {L : List Slot} {S : List Value} {H : AH} : R0 w vF (n + 1) (357, L, S, H, cs, ss) = R0 w vF n (358, L, (.null :: S), H, cs, ss) := s_any k0_357
theorem s0_358 {n cs ss : Nat} {L : List Slot} {S : List Value} {H : AH} : R0 w vF (n + 1) (358, L, S, H, cs, ss) = pA S fun x r => (st1 L 11 x).bind fun L' => R0 w vF n (360, L', r, H, cs, ss) := s_any k0_358
theorem s0_360 {n cs ss : Nat} {L : List Slot} {S : List Value} {H : AH} : R0 w vF (n + 1) (360, L, S, H, cs, ss) = (gA L 10).bind fun v => R0 w vF n (362, L, v :: S, H, cs, ss) := s_any k0_360
theorem s0_362 {n cs ss : Nat} {L : List Slot} {S : List Value} {H : AH} : R0 w vF (n + 1) (362, L, S, H, cs, ss) = if fr3 H.length (slt H 9) L S H = true then (aLit 9 0 20 32 4288 [.int 101, .int 113, .int 117, .int 97, .int 108] S H cs ss).bind fun r => R0 w vF n (364, L, r.1, r.2.1, r.2.2.1, r.2.2.2) else none := s_any k0_362
theorem s0_364 {n cs ss : Nat} {L : List Slot} {S : List Value} {H : AH} : R0 w vF (n + 1) (364, L, S, H, cs, ss) = (aRecv 1 0 6 32 4288 0 0 (F14 w vF) S H cs ss).bind fun r => R0 w vF n (367, L, r.1, r.2.1, r.2.2.1, r.2.2.2) := s_any k0_364
theorem s0_367 {n cs ss : Nat} {L : List Slot} {S : List Value} {H : AH} : R0 w vF (n + 1) (367, L, S, H, cs, ss) = pI S fun x r => if x = 0 then R0 w vF n (378, L, r, H, cs, ss) else R0 w vF n (370, L, r, H, cs, ss) := s_if (Q := fun x => x = 0) (fun _ => z_eq) k0_367 (by decide) (by decide)
theorem s0_370 {n cs ss : Nat} {L : List Slot} {S : List Value} {H : AH} : R0 w vF (n + 1) (370, L, S, H, cs, ss) = (aSta (.ref 0) S H cs ss).bind fun r => R0 w vF n (373, L, r.1, r.2.1, r.2.2.1, r.2.2.2) := s_any k0_370
theorem s0_373 {n cs ss : Nat} {L : List Slot} {S : List Value} {H : AH} : R0 w vF (n + 1) (373, L, S, H, cs, ss) = pA S fun x r => (st1 L 11 x).bind fun L' => R0 w vF n (375, L', r, H, cs, ss) := s_any k0_373
theorem s0_375 {n cs ss : Nat} {L : List Slot} {S : List Value} {H : AH} : R0 w vF (n + 1) (375, L, S, H, cs, ss) = R0 w vF n (393, L, S, H, cs, ss) := s_goto k0_375 (by decide) (by decide)
theorem s0_378 {n cs ss : Nat} {L : List Slot} {S : List Value} {H : AH} : R0 w vF (n + 1) (378, L, S, H, cs, ss) = (gA L 10).bind fun v => R0 w vF n (380, L, v :: S, H, cs, ss) := s_any k0_378
theorem s0_380 {n cs ss : Nat} {L : List Slot} {S : List Value} {H : AH} : R0 w vF (n + 1) (380, L, S, H, cs, ss) = if fr3 H.length (slt H 13) L S H = true then (aLit 13 0 40 32 4288 [.int 108, .int 111, .int 103, .int 45, .int 100, .int 101, .int 103, .int 114, .int 101, .int 101] S H cs ss).bind fun r => R0 w vF n (382, L, r.1, r.2.1, r.2.2.1, r.2.2.2) else none := s_any k0_380
theorem s0_382 {n cs ss : Nat} {L : List Slot} {S : List Value} {H : AH} : R0 w vF (n + 1) (382, L, S, H, cs, ss) = (aRecv 1 0 6 32 4288 0 0 (F14 w vF) S H cs ss).bind fun r => R0 w vF n (385, L, r.1, r.2.1, r.2.2.1, r.2.2.2) := s_any k0_382
theorem s0_385 {n cs ss : Nat} {L : List Slot} {S : List Value} {H : AH} : R0 w vF (n + 1) (385, L, S, H, cs, ss) = pI S fun x r => if x = 0 then R0 w vF n (393, L, r, H, cs, ss) else R0 w vF n (388, L, r, H, cs, ss) := s_if (Q := fun x => x = 0) (fun _ => z_eq) k0_385 (by decide) (by decide)
theorem s0_388 {n cs ss : Nat} {L : List Slot} {S : List Value} {H : AH} : R0 w vF (n + 1) (388, L, S, H, cs, ss) = (aSta (.ref 1) S H cs ss).bind fun r => R0 w vF n (391, L, r.1, r.2.1, r.2.2.1, r.2.2.2) := s_any k0_388
theorem s0_391 {n cs ss : Nat} {L : List Slot} {S : List Value} {H : AH} : R0 w vF (n + 1) (391, L, S, H, cs, ss) = pA S fun x r => (st1 L 11 x).bind fun L' => R0 w vF n (393, L', r, H, cs, ss) := s_any k0_391
theorem s0_393 {n cs ss : Nat} {L : List Slot} {S : List Value} {H : AH} : R0 w vF (n + 1) (393, L, S, H, cs, ss) = (gA L 10).bind fun v => R0 w vF n (395, L, v :: S, H, cs, ss) := s_any k0_393
theorem s0_395 {n cs ss : Nat} {L : List Slot} {S : List Value} {H : AH} : R0 w vF (n + 1) (395, L, S, H, cs, ss) = (aCall 1 6 32 4288 2 10 (F16 w vF) S H cs ss).bind fun r => R0 w vF n (398, L, r.1, r.2.1, r.2.2.1, r.2.2.2) := s_any k0_395
theorem s0_398 {n cs ss : Nat} {L : List Slot} {S : List Value} {H : AH} : R0 w vF (n + 1) (398, L, S, H, cs, ss) = pA S fun x r => (st1 L 12 x).bind fun L' => R0 w vF n (400, L', r, H, cs, ss) := s_any k0_398
theorem s0_400 {n cs ss : Nat} {L : List Slot} {S : List Value} {H : AH} : R0 w vF (n + 1) (400, L, S, H, cs, ss) = (gA L 11).bind fun v => R0 w vF n (402, L, v :: S, H, cs, ss) := s_any k0_400
theorem s0_402 {n cs ss : Nat} {L : List Slot} {S : List Value} {H : AH} : R0 w vF (n + 1) (402, L, S, H, cs, ss) = ex ret (E0 w vF) 25 (R0 w vF n) (.ifnonnull 17) 402 L S H cs ss := s_any k0_402
theorem s0_405 {n cs ss : Nat} {L : List Slot} {S : List Value} {H : AH} : R0 w vF (n + 1) (405, L, S, H, cs, ss) = (gA L 12).bind fun v => R0 w vF n (407, L, v :: S, H, cs, ss) := s_any k0_405
theorem s0_407 {n cs ss : Nat} {L : List Slot} {S : List Value} {H : AH} : R0 w vF (n + 1) (407, L, S, H, cs, ss) = (aRecv 0 1 6 32 4288 0 0 (F19 w vF) S H cs ss).bind fun r => R0 w vF n (410, L, r.1, r.2.1, r.2.2.1, r.2.2.2) := s_any k0_407
theorem s0_410 {n cs ss : Nat} {L : List Slot} {S : List Value} {H : AH} : R0 w vF (n + 1) (410, L, S, H, cs, ss) = pI S fun x r => if x = 0 then R0 w vF n (413, L, r, H, cs, ss) else R0 w vF n (417, L, r, H, cs, ss) := s_ifN (Q := fun x => x = 0) (fun _ => z_ne) k0_410 (by decide) (by decide)
theorem s0_413 {n cs ss : Nat} {L : List Slot} {S : List Value} {H : AH} : R0 w vF (n + 1) (413, L, S, H, cs, ss) = R0 w vF n (414, L, (.int 1 :: S), H, cs, ss) := s_any k0_413
theorem s0_414 {n cs ss : Nat} {L : List Slot} {S : List Value} {H : AH} : R0 w vF (n + 1) (414, L, S, H, cs, ss) = R0 w vF n (418, L, S, H, cs, ss) := s_goto k0_414 (by decide) (by decide)
theorem s0_418 {n cs ss : Nat} {L : List Slot} {S : List Value} {H : AH} : R0 w vF (n + 1) (418, L, S, H, cs, ss) = pI S fun z _ => some (some (.int (z &&& 1)), H) := s_any k0_418
theorem s0_419 {n cs ss : Nat} {L : List Slot} {S : List Value} {H : AH} : R0 w vF (n + 1) (419, L, S, H, cs, ss) = (gA L 12).bind fun v => R0 w vF n (421, L, v :: S, H, cs, ss) := s_any k0_419
theorem s0_421 {n cs ss : Nat} {L : List Slot} {S : List Value} {H : AH} : R0 w vF (n + 1) (421, L, S, H, cs, ss) = (aRecv 0 1 6 32 4288 0 0 (F19 w vF) S H cs ss).bind fun r => R0 w vF n (424, L, r.1, r.2.1, r.2.2.1, r.2.2.2) := s_any k0_421
theorem s0_424 {n cs ss : Nat} {L : List Slot} {S : List Value} {H : AH} : R0 w vF (n + 1) (424, L, S, H, cs, ss) = pI S fun x r => if x = 0 then R0 w vF n (441, L, r, H, cs, ss) else R0 w vF n (427, L, r, H, cs, ss) := s_if (Q := fun x => x = 0) (fun _ => z_eq) k0_424 (by decide) (by decide)
theorem s0_427 {n cs ss : Nat} {L : List Slot} {S : List Value} {H : AH} : R0 w vF (n + 1) (427, L, S, H, cs, ss) = (gA L 12).bind fun v => R0 w vF n (429, L, v :: S, H, cs, ss) := s_any k0_427
theorem s0_429 {n cs ss : Nat} {L : List Slot} {S : List Value} {H : AH} : R0 w vF (n + 1) (429, L, S, H, cs, ss) = (aRecv 0 1 6 32 4288 0 0 (F23 w vF) S H cs ss).bind fun r => R0 w vF n (432, L, r.1, r.2.1, r.2.2.1, r.2.2.2) := s_any k0_429
theorem s0_432 {n cs ss : Nat} {L : List Slot} {S : List Value} {H : AH} : R0 w vF (n + 1) (432, L, S, H, cs, ss) = (gA L 11).bind fun v => R0 w vF n (434, L, v :: S, H, cs, ss) := s_any k0_432
theorem s0_434 {n cs ss : Nat} {L : List Slot} {S : List Value} {H : AH} : R0 w vF (n + 1) (434, L, S, H, cs, ss) = ex ret (E0 w vF) 25 (R0 w vF n) (.if_acmp .ne 7) 434 L S H cs ss := s_any k0_434
theorem s0_437 {n cs ss : Nat} {L : List Slot} {S : List Value} {H : AH} : R0 w vF (n + 1) (437, L, S, H, cs, ss) = R0 w vF n (438, L, (.int 1 :: S), H, cs, ss) := s_any k0_437
theorem s0_438 {n cs ss : Nat} {L : List Slot} {S : List Value} {H : AH} : R0 w vF (n + 1) (438, L, S, H, cs, ss) = R0 w vF n (442, L, S, H, cs, ss) := s_goto k0_438 (by decide) (by decide)
theorem s0_442 {n cs ss : Nat} {L : List Slot} {S : List Value} {H : AH} : R0 w vF (n + 1) (442, L, S, H, cs, ss) = pI S fun z _ => some (some (.int (z &&& 1)), H) := s_any k0_442
theorem t0_0 {go : GT} (hgo : go = R0 w vF) {n cs ss : Nat} {l1 l2 l3 l4 l5 l6 l7 l8 l9 l10 l11 l12 : Slot} {S : List Value} {H : AH} {q : QT} {v : Int32} (h : Rsq (go n (1, [.val (.int v), l1, l2, l3, l4, l5, l6, l7, l8, l9, l10, l11, l12], (.int v :: S), H, cs, ss)) q) : Rsq (go (n + 1) (0, [.val (.int v), l1, l2, l3, l4, l5, l6, l7, l8, l9, l10, l11, l12], S, H, cs, ss)) q := by
  subst hgo
  exact res_of s0_0 h
theorem t0_1 {go : GT} (hgo : go = R0 w vF) {n cs ss : Nat} {L : List Slot} {S : List Value} {H : AH} {q : QT} (h : Rsq (go n (3, L, (.int (2147483647) :: S), H, cs, ss)) q) : Rsq (go (n + 1) (1, L, S, H, cs, ss)) q := by
  subst hgo
  exact res_of s0_1 h
theorem t0_3 {go : GT} (hgo : go = R0 w vF) {n cs ss : Nat} {L : List Slot} {S : List Value} {H : AH} {q : QT} {x y : Int32} (h : Rsq (go n (4, L, (.int (x &&& y) :: S), H, cs, ss)) q) : Rsq (go (n + 1) (3, L, (.int y :: .int x :: S), H, cs, ss)) q := by
  subst hgo
  exact res_of s0_3 h
theorem t0_4 {go : GT} (hgo : go = R0 w vF) {n cs ss : Nat} {L : List Slot} {S : List Value} {H : AH} {q : QT} (h : Rsq (go n (5, L, (.int 3 :: S), H, cs, ss)) q) : Rsq (go (n + 1) (4, L, S, H, cs, ss)) q := by
  subst hgo
  exact res_of s0_4 h
theorem t0_5 {go : GT} (hgo : go = R0 w vF) {n cs ss : Nat} {L : List Slot} {S : List Value} {H : AH} {q : QT} {x y : Int32} (hz : ¬ y = 0) (h : Rsq (go n (6, L, (.int (x % y) :: S), H, cs, ss)) q) : Rsq (go (n + 1) (5, L, (.int y :: .int x :: S), H, cs, ss)) q := by
  subst hgo
  exact res_of s0_5 (res_f hz h)
theorem t0_6 {go : GT} (hgo : go = R0 w vF) {n cs ss : Nat} {l0 l1 l2 l3 l4 l5 l6 l7 l8 l9 l10 l11 l12 : Slot} {S : List Value} {H : AH} {q : QT} {x : Int32} (hk : so l6 = true) (h : Rsq (go n (8, [l0, l1, l2, l3, l4, l5, .val (.int x), l7, l8, l9, l10, l11, l12], S, H, cs, ss)) q) : Rsq (go (n + 1) (6, [l0, l1, l2, l3, l4, l5, l6, l7, l8, l9, l10, l11, l12], (.int x :: S), H, cs, ss)) q := by
  subst hgo
  refine res_of s0_6 ?_
  rw [pI_int, st1_so (L := [l0, l1, l2, l3, l4, l5, l6, l7, l8, l9, l10, l11, l12]) (k := 6) (l := l6) rfl hk]
  exact h
theorem t0_8 {go : GT} (hgo : go = R0 w vF) {n cs ss : Nat} {l0 l1 l2 l3 l4 l5 l7 l8 l9 l10 l11 l12 : Slot} {S : List Value} {H : AH} {q : QT} {v : Int32} (h : Rsq (go n (10, [l0, l1, l2, l3, l4, l5, .val (.int v), l7, l8, l9, l10, l11, l12], (.int v :: S), H, cs, ss)) q) : Rsq (go (n + 1) (8, [l0, l1, l2, l3, l4, l5, .val (.int v), l7, l8, l9, l10, l11, l12], S, H, cs, ss)) q := by
  subst hgo
  exact res_of s0_8 h
theorem t0_10t {go : GT} (hgo : go = R0 w vF) {n cs ss : Nat} {L : List Slot} {S : List Value} {H : AH} {q : QT} {x : Int32} (hc : x = 0) (h : Rsq (go n (13, L, S, H, cs, ss)) q) : Rsq (go (n + 1) (10, L, (.int x :: S), H, cs, ss)) q := by
  subst hgo
  exact res_of s0_10 (res_t hc h)
theorem t0_10f {go : GT} (hgo : go = R0 w vF) {n cs ss : Nat} {L : List Slot} {S : List Value} {H : AH} {q : QT} {x : Int32} (hc : ¬ x = 0) (h : Rsq (go n (18, L, S, H, cs, ss)) q) : Rsq (go (n + 1) (10, L, (.int x :: S), H, cs, ss)) q := by
  subst hgo
  exact res_of s0_10 (res_f hc h)
theorem u0_13 {go : GT} (hgo : go = R0 w vF) {n cs ss : Nat} {L : List Slot} {S : List Value} {H : AH} : go (n + 1) (13, L, S, H, cs, ss) = if fr3 H.length (slt H 9) L S H = true then (aLit 9 0 20 32 4288 [.int 101, .int 113, .int 117, .int 97, .int 108] S H cs ss).bind fun r => go n (15, L, r.1, r.2.1, r.2.2.1, r.2.2.2) else none := by
  subst hgo
  exact s0_13
theorem t0_15 {go : GT} (hgo : go = R0 w vF) {n cs ss : Nat} {L : List Slot} {S : List Value} {H : AH} {q : QT} (h : Rsq (go n (31, L, S, H, cs, ss)) q) : Rsq (go (n + 1) (15, L, S, H, cs, ss)) q := by
  subst hgo
  exact res_of s0_15 h
theorem t0_18 {go : GT} (hgo : go = R0 w vF) {n cs ss : Nat} {l0 l1 l2 l3 l4 l5 l7 l8 l9 l10 l11 l12 : Slot} {S : List Value} {H : AH} {q : QT} {v : Int32} (h : Rsq (go n (20, [l0, l1, l2, l3, l4, l5, .val (.int v), l7, l8, l9, l10, l11, l12], (.int v :: S), H, cs, ss)) q) : Rsq (go (n + 1) (18, [l0, l1, l2, l3, l4, l5, .val (.int v), l7, l8, l9, l10, l11, l12], S, H, cs, ss)) q := by
  subst hgo
  exact res_of s0_18 h
theorem t0_20 {go : GT} (hgo : go = R0 w vF) {n cs ss : Nat} {L : List Slot} {S : List Value} {H : AH} {q : QT} (h : Rsq (go n (21, L, (.int 1 :: S), H, cs, ss)) q) : Rsq (go (n + 1) (20, L, S, H, cs, ss)) q := by
  subst hgo
  exact res_of s0_20 h
theorem t0_21t {go : GT} (hgo : go = R0 w vF) {n cs ss : Nat} {L : List Slot} {S : List Value} {H : AH} {q : QT} {x y : Int32} (hc : x = y) (h : Rsq (go n (24, L, S, H, cs, ss)) q) : Rsq (go (n + 1) (21, L, (.int y :: .int x :: S), H, cs, ss)) q := by
  subst hgo
  exact res_of s0_21 (res_t hc h)
theorem t0_21f {go : GT} (hgo : go = R0 w vF) {n cs ss : Nat} {L : List Slot} {S : List Value} {H : AH} {q : QT} {x y : Int32} (hc : ¬ x = y) (h : Rsq (go n (29, L, S, H, cs, ss)) q) : Rsq (go (n + 1) (21, L, (.int y :: .int x :: S), H, cs, ss)) q := by
  subst hgo
  exact res_of s0_21 (res_f hc h)
theorem u0_24 {go : GT} (hgo : go = R0 w vF) {n cs ss : Nat} {L : List Slot} {S : List Value} {H : AH} : go (n + 1) (24, L, S, H, cs, ss) = if fr3 H.length (slt H 13) L S H = true then (aLit 13 0 40 32 4288 [.int 108, .int 111, .int 103, .int 45, .int 100, .int 101, .int 103, .int 114, .int 101, .int 101] S H cs ss).bind fun r => go n (26, L, r.1, r.2.1, r.2.2.1, r.2.2.2) else none := by
  subst hgo
  exact s0_24
theorem t0_26 {go : GT} (hgo : go = R0 w vF) {n cs ss : Nat} {L : List Slot} {S : List Value} {H : AH} {q : QT} (h : Rsq (go n (31, L, S, H, cs, ss)) q) : Rsq (go (n + 1) (26, L, S, H, cs, ss)) q := by
  subst hgo
  exact res_of s0_26 h
theorem u0_29 {go : GT} (hgo : go = R0 w vF) {n cs ss : Nat} {L : List Slot} {S : List Value} {H : AH} : go (n + 1) (29, L, S, H, cs, ss) = if fr3 H.length (slt H 17) L S H = true then (aLit 17 0 0 32 4288 [] S H cs ss).bind fun r => go n (31, L, r.1, r.2.1, r.2.2.1, r.2.2.2) else none := by
  subst hgo
  exact s0_29
theorem t0_31 {go : GT} (hgo : go = R0 w vF) {n cs ss : Nat} {l0 l1 l2 l3 l4 l5 l6 l7 l8 l9 l10 l11 l12 : Slot} {S : List Value} {H : AH} {q : QT} {v : Value} (hv : isA v = true) (hk : so l7 = true) (h : Rsq (go n (33, [l0, l1, l2, l3, l4, l5, l6, .val v, l8, l9, l10, l11, l12], S, H, cs, ss)) q) : Rsq (go (n + 1) (31, [l0, l1, l2, l3, l4, l5, l6, l7, l8, l9, l10, l11, l12], (v :: S), H, cs, ss)) q := by
  subst hgo
  refine res_of s0_31 ?_
  rw [pA_isA hv, st1_so (L := [l0, l1, l2, l3, l4, l5, l6, l7, l8, l9, l10, l11, l12]) (k := 7) (l := l7) rfl hk]
  exact h
theorem t0_33 {go : GT} (hgo : go = R0 w vF) {n cs ss : Nat} {l0 l1 l2 l3 l4 l5 l7 l8 l9 l10 l11 l12 : Slot} {S : List Value} {H : AH} {q : QT} {v : Int32} (h : Rsq (go n (35, [l0, l1, l2, l3, l4, l5, .val (.int v), l7, l8, l9, l10, l11, l12], (.int v :: S), H, cs, ss)) q) : Rsq (go (n + 1) (33, [l0, l1, l2, l3, l4, l5, .val (.int v), l7, l8, l9, l10, l11, l12], S, H, cs, ss)) q := by
  subst hgo
  exact res_of s0_33 h
theorem t0_35 {go : GT} (hgo : go = R0 w vF) {n cs ss : Nat} {L : List Slot} {S : List Value} {H : AH} {q : QT} (h : Rsq (go n (36, L, (.int 2 :: S), H, cs, ss)) q) : Rsq (go (n + 1) (35, L, S, H, cs, ss)) q := by
  subst hgo
  exact res_of s0_35 h
theorem t0_36t {go : GT} (hgo : go = R0 w vF) {n cs ss : Nat} {L : List Slot} {S : List Value} {H : AH} {q : QT} {x y : Int32} (hc : x = y) (h : Rsq (go n (55, L, S, H, cs, ss)) q) : Rsq (go (n + 1) (36, L, (.int y :: .int x :: S), H, cs, ss)) q := by
  subst hgo
  exact res_of s0_36 (res_t hc h)
theorem t0_36f {go : GT} (hgo : go = R0 w vF) {n cs ss : Nat} {L : List Slot} {S : List Value} {H : AH} {q : QT} {x y : Int32} (hc : ¬ x = y) (h : Rsq (go n (39, L, S, H, cs, ss)) q) : Rsq (go (n + 1) (36, L, (.int y :: .int x :: S), H, cs, ss)) q := by
  subst hgo
  exact res_of s0_36 (res_f hc h)
theorem t0_39 {go : GT} (hgo : go = R0 w vF) {n cs ss : Nat} {l0 l1 l2 l4 l5 l6 l7 l8 l9 l10 l11 l12 : Slot} {S : List Value} {H : AH} {q : QT} {v : Int32} (h : Rsq (go n (40, [l0, l1, l2, .val (.int v), l4, l5, l6, l7, l8, l9, l10, l11, l12], (.int v :: S), H, cs, ss)) q) : Rsq (go (n + 1) (39, [l0, l1, l2, .val (.int v), l4, l5, l6, l7, l8, l9, l10, l11, l12], S, H, cs, ss)) q := by
  subst hgo
  exact res_of s0_39 h
theorem t0_40 {go : GT} (hgo : go = R0 w vF) {n cs ss : Nat} {L : List Slot} {S : List Value} {H : AH} {q : QT} (h : Rsq (go n (41, L, (.int 3 :: S), H, cs, ss)) q) : Rsq (go (n + 1) (40, L, S, H, cs, ss)) q := by
  subst hgo
  exact res_of s0_40 h
theorem t0_41 {go : GT} (hgo : go = R0 w vF) {n cs ss : Nat} {L : List Slot} {S : List Value} {H : AH} {q : QT} {x y : Int32} (h : Rsq (go n (42, L, (.int (x &&& y) :: S), H, cs, ss)) q) : Rsq (go (n + 1) (41, L, (.int y :: .int x :: S), H, cs, ss)) q := by
  subst hgo
  exact res_of s0_41 h
theorem t0_42t {go : GT} (hgo : go = R0 w vF) {n cs ss : Nat} {L : List Slot} {S : List Value} {H : AH} {q : QT} {x : Int32} (hc : x = 0) (h : Rsq (go n (55, L, S, H, cs, ss)) q) : Rsq (go (n + 1) (42, L, (.int x :: S), H, cs, ss)) q := by
  subst hgo
  exact res_of s0_42 (res_t hc h)
theorem t0_42f {go : GT} (hgo : go = R0 w vF) {n cs ss : Nat} {L : List Slot} {S : List Value} {H : AH} {q : QT} {x : Int32} (hc : ¬ x = 0) (h : Rsq (go n (45, L, S, H, cs, ss)) q) : Rsq (go (n + 1) (42, L, (.int x :: S), H, cs, ss)) q := by
  subst hgo
  exact res_of s0_42 (res_f hc h)
theorem t0_45 {go : GT} (hgo : go = R0 w vF) {n cs ss : Nat} {l0 l1 l2 l3 l4 l5 l6 l8 l9 l10 l11 l12 : Slot} {S : List Value} {H : AH} {q : QT} {v : Value} (hv : isA v = true) (h : Rsq (go n (47, [l0, l1, l2, l3, l4, l5, l6, .val v, l8, l9, l10, l11, l12], (v :: S), H, cs, ss)) q) : Rsq (go (n + 1) (45, [l0, l1, l2, l3, l4, l5, l6, .val v, l8, l9, l10, l11, l12], S, H, cs, ss)) q := by
  subst hgo
  refine res_of s0_45 ?_
  rw [gA_isA (L := [l0, l1, l2, l3, l4, l5, l6, .val v, l8, l9, l10, l11, l12]) (k := 7) (v := v) rfl hv]
  exact h
theorem u0_47 {go : GT} (hgo : go = R0 w vF) {n cs ss : Nat} {L : List Slot} {S : List Value} {H : AH} : go (n + 1) (47, L, S, H, cs, ss) = (aRecv 0 0 6 32 4288 0 0 (F1 w vF) S H cs ss).bind fun r => go n (50, L, r.1, r.2.1, r.2.2.1, r.2.2.2) := by
  subst hgo
  exact s0_47
theorem t0_50 {go : GT} (hgo : go = R0 w vF) {n cs ss : Nat} {l0 l1 l2 l3 l4 l5 l6 l7 l8 l9 l10 l11 l12 : Slot} {S : List Value} {H : AH} {q : QT} {x : Int32} (hk : so l8 = true) (h : Rsq (go n (52, [l0, l1, l2, l3, l4, l5, l6, l7, .val (.int x), l9, l10, l11, l12], S, H, cs, ss)) q) : Rsq (go (n + 1) (50, [l0, l1, l2, l3, l4, l5, l6, l7, l8, l9, l10, l11, l12], (.int x :: S), H, cs, ss)) q := by
  subst hgo
  refine res_of s0_50 ?_
  rw [pI_int, st1_so (L := [l0, l1, l2, l3, l4, l5, l6, l7, l8, l9, l10, l11, l12]) (k := 8) (l := l8) rfl hk]
  exact h
theorem t0_52 {go : GT} (hgo : go = R0 w vF) {n cs ss : Nat} {L : List Slot} {S : List Value} {H : AH} {q : QT} (h : Rsq (go n (63, L, S, H, cs, ss)) q) : Rsq (go (n + 1) (52, L, S, H, cs, ss)) q := by
  subst hgo
  exact res_of s0_52 h
theorem t0_55 {go : GT} (hgo : go = R0 w vF) {n cs ss : Nat} {l0 l1 l2 l4 l5 l6 l7 l8 l9 l10 l11 l12 : Slot} {S : List Value} {H : AH} {q : QT} {v : Int32} (h : Rsq (go n (56, [l0, l1, l2, .val (.int v), l4, l5, l6, l7, l8, l9, l10, l11, l12], (.int v :: S), H, cs, ss)) q) : Rsq (go (n + 1) (55, [l0, l1, l2, .val (.int v), l4, l5, l6, l7, l8, l9, l10, l11, l12], S, H, cs, ss)) q := by
  subst hgo
  exact res_of s0_55 h
theorem t0_56 {go : GT} (hgo : go = R0 w vF) {n cs ss : Nat} {L : List Slot} {S : List Value} {H : AH} {q : QT} (h : Rsq (go n (57, L, (.int 2 :: S), H, cs, ss)) q) : Rsq (go (n + 1) (56, L, S, H, cs, ss)) q := by
  subst hgo
  exact res_of s0_56 h
theorem t0_57 {go : GT} (hgo : go = R0 w vF) {n cs ss : Nat} {L : List Slot} {S : List Value} {H : AH} {q : QT} {x y : Int32} (h : Rsq (go n (58, L, (.int ((x.toUInt32 >>> (y &&& 31).toUInt32).toInt32) :: S), H, cs, ss)) q) : Rsq (go (n + 1) (57, L, (.int y :: .int x :: S), H, cs, ss)) q := by
  subst hgo
  exact res_of s0_57 h
theorem t0_58 {go : GT} (hgo : go = R0 w vF) {n cs ss : Nat} {L : List Slot} {S : List Value} {H : AH} {q : QT} (h : Rsq (go n (60, L, (.int 12 :: S), H, cs, ss)) q) : Rsq (go (n + 1) (58, L, S, H, cs, ss)) q := by
  subst hgo
  exact res_of s0_58 h
theorem t0_60 {go : GT} (hgo : go = R0 w vF) {n cs ss : Nat} {L : List Slot} {S : List Value} {H : AH} {q : QT} {x y : Int32} (hz : ¬ y = 0) (h : Rsq (go n (61, L, (.int (x % y) :: S), H, cs, ss)) q) : Rsq (go (n + 1) (60, L, (.int y :: .int x :: S), H, cs, ss)) q := by
  subst hgo
  exact res_of s0_60 (res_f hz h)
theorem t0_61 {go : GT} (hgo : go = R0 w vF) {n cs ss : Nat} {l0 l1 l2 l3 l4 l5 l6 l7 l8 l9 l10 l11 l12 : Slot} {S : List Value} {H : AH} {q : QT} {x : Int32} (hk : so l8 = true) (h : Rsq (go n (63, [l0, l1, l2, l3, l4, l5, l6, l7, .val (.int x), l9, l10, l11, l12], S, H, cs, ss)) q) : Rsq (go (n + 1) (61, [l0, l1, l2, l3, l4, l5, l6, l7, l8, l9, l10, l11, l12], (.int x :: S), H, cs, ss)) q := by
  subst hgo
  refine res_of s0_61 ?_
  rw [pI_int, st1_so (L := [l0, l1, l2, l3, l4, l5, l6, l7, l8, l9, l10, l11, l12]) (k := 8) (l := l8) rfl hk]
  exact h
theorem t0_63 {go : GT} (hgo : go = R0 w vF) {n cs ss : Nat} {l0 l1 l2 l3 l4 l5 l6 l7 l9 l10 l11 l12 : Slot} {S : List Value} {H : AH} {q : QT} {v : Int32} (h : Rsq (go n (65, [l0, l1, l2, l3, l4, l5, l6, l7, .val (.int v), l9, l10, l11, l12], (.int v :: S), H, cs, ss)) q) : Rsq (go (n + 1) (63, [l0, l1, l2, l3, l4, l5, l6, l7, .val (.int v), l9, l10, l11, l12], S, H, cs, ss)) q := by
  subst hgo
  exact res_of s0_63 h
theorem u0_65 {go : GT} (hgo : go = R0 w vF) {n cs ss : Nat} {L : List Slot} {S : List Value} {H : AH} : go (n + 1) (65, L, S, H, cs, ss) = (aArr .char 32 4288 S H cs ss).bind fun r => go n (67, L, r.1, r.2.1, r.2.2.1, r.2.2.2) := by
  subst hgo
  exact s0_65
theorem t0_67 {go : GT} (hgo : go = R0 w vF) {n cs ss : Nat} {l0 l1 l2 l3 l4 l5 l6 l7 l8 l9 l10 l11 l12 : Slot} {S : List Value} {H : AH} {q : QT} {v : Value} (hv : isA v = true) (hk : so l9 = true) (h : Rsq (go n (69, [l0, l1, l2, l3, l4, l5, l6, l7, l8, .val v, l10, l11, l12], S, H, cs, ss)) q) : Rsq (go (n + 1) (67, [l0, l1, l2, l3, l4, l5, l6, l7, l8, l9, l10, l11, l12], (v :: S), H, cs, ss)) q := by
  subst hgo
  refine res_of s0_67 ?_
  rw [pA_isA hv, st1_so (L := [l0, l1, l2, l3, l4, l5, l6, l7, l8, l9, l10, l11, l12]) (k := 9) (l := l9) rfl hk]
  exact h
theorem t0_69 {go : GT} (hgo : go = R0 w vF) {n cs ss : Nat} {l0 l1 l2 l3 l4 l5 l6 l7 l9 l10 l11 l12 : Slot} {S : List Value} {H : AH} {q : QT} {v : Int32} (h : Rsq (go n (71, [l0, l1, l2, l3, l4, l5, l6, l7, .val (.int v), l9, l10, l11, l12], (.int v :: S), H, cs, ss)) q) : Rsq (go (n + 1) (69, [l0, l1, l2, l3, l4, l5, l6, l7, .val (.int v), l9, l10, l11, l12], S, H, cs, ss)) q := by
  subst hgo
  exact res_of s0_69 h
theorem t0_71t {go : GT} (hgo : go = R0 w vF) {n cs ss : Nat} {L : List Slot} {S : List Value} {H : AH} {q : QT} {x : Int32} (hc : 0 < x) (h : Rsq (go n (74, L, S, H, cs, ss)) q) : Rsq (go (n + 1) (71, L, (.int x :: S), H, cs, ss)) q := by
  subst hgo
  exact res_of s0_71 (res_t hc h)
theorem t0_71f {go : GT} (hgo : go = R0 w vF) {n cs ss : Nat} {L : List Slot} {S : List Value} {H : AH} {q : QT} {x : Int32} (hc : ¬ 0 < x) (h : Rsq (go n (89, L, S, H, cs, ss)) q) : Rsq (go (n + 1) (71, L, (.int x :: S), H, cs, ss)) q := by
  subst hgo
  exact res_of s0_71 (res_f hc h)
theorem t0_74 {go : GT} (hgo : go = R0 w vF) {n cs ss : Nat} {l0 l1 l2 l3 l4 l5 l6 l7 l8 l10 l11 l12 : Slot} {S : List Value} {H : AH} {q : QT} {v : Value} (hv : isA v = true) (h : Rsq (go n (76, [l0, l1, l2, l3, l4, l5, l6, l7, l8, .val v, l10, l11, l12], (v :: S), H, cs, ss)) q) : Rsq (go (n + 1) (74, [l0, l1, l2, l3, l4, l5, l6, l7, l8, .val v, l10, l11, l12], S, H, cs, ss)) q := by
  subst hgo
  refine res_of s0_74 ?_
  rw [gA_isA (L := [l0, l1, l2, l3, l4, l5, l6, l7, l8, .val v, l10, l11, l12]) (k := 9) (v := v) rfl hv]
  exact h
theorem t0_76 {go : GT} (hgo : go = R0 w vF) {n cs ss : Nat} {L : List Slot} {S : List Value} {H : AH} {q : QT} (h : Rsq (go n (77, L, (.int 0 :: S), H, cs, ss)) q) : Rsq (go (n + 1) (76, L, S, H, cs, ss)) q := by
  subst hgo
  exact res_of s0_76 h
theorem t0_77 {go : GT} (hgo : go = R0 w vF) {n cs ss : Nat} {l0 l1 l2 l3 l4 l5 l6 l8 l9 l10 l11 l12 : Slot} {S : List Value} {H : AH} {q : QT} {v : Value} (hv : isA v = true) (h : Rsq (go n (79, [l0, l1, l2, l3, l4, l5, l6, .val v, l8, l9, l10, l11, l12], (v :: S), H, cs, ss)) q) : Rsq (go (n + 1) (77, [l0, l1, l2, l3, l4, l5, l6, .val v, l8, l9, l10, l11, l12], S, H, cs, ss)) q := by
  subst hgo
  refine res_of s0_77 ?_
  rw [gA_isA (L := [l0, l1, l2, l3, l4, l5, l6, .val v, l8, l9, l10, l11, l12]) (k := 7) (v := v) rfl hv]
  exact h
theorem t0_79 {go : GT} (hgo : go = R0 w vF) {n cs ss : Nat} {L : List Slot} {S : List Value} {H : AH} {q : QT} (h : Rsq (go n (80, L, (.int 0 :: S), H, cs, ss)) q) : Rsq (go (n + 1) (79, L, S, H, cs, ss)) q := by
  subst hgo
  exact res_of s0_79 h
theorem t0_80 {go : GT} (hgo : go = R0 w vF) {n cs ss : Nat} {l0 l1 l3 l4 l5 l6 l7 l8 l9 l10 l11 l12 : Slot} {S : List Value} {H : AH} {q : QT} {v : Int32} (h : Rsq (go n (81, [l0, l1, .val (.int v), l3, l4, l5, l6, l7, l8, l9, l10, l11, l12], (.int v :: S), H, cs, ss)) q) : Rsq (go (n + 1) (80, [l0, l1, .val (.int v), l3, l4, l5, l6, l7, l8, l9, l10, l11, l12], S, H, cs, ss)) q := by
  subst hgo
  exact res_of s0_80 h
theorem t0_81 {go : GT} (hgo : go = R0 w vF) {n cs ss : Nat} {l0 l1 l2 l3 l5 l6 l7 l8 l9 l10 l11 l12 : Slot} {S : List Value} {H : AH} {q : QT} {v : Int32} (h : Rsq (go n (83, [l0, l1, l2, l3, .val (.int v), l5, l6, l7, l8, l9, l10, l11, l12], (.int v :: S), H, cs, ss)) q) : Rsq (go (n + 1) (81, [l0, l1, l2, l3, .val (.int v), l5, l6, l7, l8, l9, l10, l11, l12], S, H, cs, ss)) q := by
  subst hgo
  exact res_of s0_81 h
theorem t0_83 {go : GT} (hgo : go = R0 w vF) {n cs ss : Nat} {l0 l1 l2 l3 l4 l6 l7 l8 l9 l10 l11 l12 : Slot} {S : List Value} {H : AH} {q : QT} {v : Int32} (h : Rsq (go n (85, [l0, l1, l2, l3, l4, .val (.int v), l6, l7, l8, l9, l10, l11, l12], (.int v :: S), H, cs, ss)) q) : Rsq (go (n + 1) (83, [l0, l1, l2, l3, l4, .val (.int v), l6, l7, l8, l9, l10, l11, l12], S, H, cs, ss)) q := by
  subst hgo
  exact res_of s0_83 h
theorem u0_85 {go : GT} (hgo : go = R0 w vF) {n cs ss : Nat} {L : List Slot} {S : List Value} {H : AH} : go (n + 1) (85, L, S, H, cs, ss) = (aCall 5 6 32 4288 0 0 (F3 w vF) S H cs ss).bind fun r => go n (88, L, r.1, r.2.1, r.2.2.1, r.2.2.2) := by
  subst hgo
  exact s0_85
theorem u0_88 {go : GT} (hgo : go = R0 w vF) {n cs ss : Nat} {L : List Slot} {S : List Value} {H : AH} : go (n + 1) (88, L, S, H, cs, ss) = ex ret (E0 w vF) 25 (go n) (.castore) 88 L S H cs ss := by
  subst hgo
  exact s0_88
theorem t0_89 {go : GT} (hgo : go = R0 w vF) {n cs ss : Nat} {l0 l1 l2 l3 l4 l5 l6 l7 l9 l10 l11 l12 : Slot} {S : List Value} {H : AH} {q : QT} {v : Int32} (h : Rsq (go n (91, [l0, l1, l2, l3, l4, l5, l6, l7, .val (.int v), l9, l10, l11, l12], (.int v :: S), H, cs, ss)) q) : Rsq (go (n + 1) (89, [l0, l1, l2, l3, l4, l5, l6, l7, .val (.int v), l9, l10, l11, l12], S, H, cs, ss)) q := by
  subst hgo
  exact res_of s0_89 h
theorem t0_91 {go : GT} (hgo : go = R0 w vF) {n cs ss : Nat} {L : List Slot} {S : List Value} {H : AH} {q : QT} (h : Rsq (go n (92, L, (.int 1 :: S), H, cs, ss)) q) : Rsq (go (n + 1) (91, L, S, H, cs, ss)) q := by
  subst hgo
  exact res_of s0_91 h
theorem t0_92t {go : GT} (hgo : go = R0 w vF) {n cs ss : Nat} {L : List Slot} {S : List Value} {H : AH} {q : QT} {x y : Int32} (hc : y < x) (h : Rsq (go n (95, L, S, H, cs, ss)) q) : Rsq (go (n + 1) (92, L, (.int y :: .int x :: S), H, cs, ss)) q := by
  subst hgo
  exact res_of s0_92 (res_t hc h)
theorem t0_92f {go : GT} (hgo : go = R0 w vF) {n cs ss : Nat} {L : List Slot} {S : List Value} {H : AH} {q : QT} {x y : Int32} (hc : ¬ y < x) (h : Rsq (go n (110, L, S, H, cs, ss)) q) : Rsq (go (n + 1) (92, L, (.int y :: .int x :: S), H, cs, ss)) q := by
  subst hgo
  exact res_of s0_92 (res_f hc h)
theorem t0_95 {go : GT} (hgo : go = R0 w vF) {n cs ss : Nat} {l0 l1 l2 l3 l4 l5 l6 l7 l8 l10 l11 l12 : Slot} {S : List Value} {H : AH} {q : QT} {v : Value} (hv : isA v = true) (h : Rsq (go n (97, [l0, l1, l2, l3, l4, l5, l6, l7, l8, .val v, l10, l11, l12], (v :: S), H, cs, ss)) q) : Rsq (go (n + 1) (95, [l0, l1, l2, l3, l4, l5, l6, l7, l8, .val v, l10, l11, l12], S, H, cs, ss)) q := by
  subst hgo
  refine res_of s0_95 ?_
  rw [gA_isA (L := [l0, l1, l2, l3, l4, l5, l6, l7, l8, .val v, l10, l11, l12]) (k := 9) (v := v) rfl hv]
  exact h
theorem t0_97 {go : GT} (hgo : go = R0 w vF) {n cs ss : Nat} {L : List Slot} {S : List Value} {H : AH} {q : QT} (h : Rsq (go n (98, L, (.int 1 :: S), H, cs, ss)) q) : Rsq (go (n + 1) (97, L, S, H, cs, ss)) q := by
  subst hgo
  exact res_of s0_97 h
theorem t0_98 {go : GT} (hgo : go = R0 w vF) {n cs ss : Nat} {l0 l1 l2 l3 l4 l5 l6 l8 l9 l10 l11 l12 : Slot} {S : List Value} {H : AH} {q : QT} {v : Value} (hv : isA v = true) (h : Rsq (go n (100, [l0, l1, l2, l3, l4, l5, l6, .val v, l8, l9, l10, l11, l12], (v :: S), H, cs, ss)) q) : Rsq (go (n + 1) (98, [l0, l1, l2, l3, l4, l5, l6, .val v, l8, l9, l10, l11, l12], S, H, cs, ss)) q := by
  subst hgo
  refine res_of s0_98 ?_
  rw [gA_isA (L := [l0, l1, l2, l3, l4, l5, l6, .val v, l8, l9, l10, l11, l12]) (k := 7) (v := v) rfl hv]
  exact h
theorem t0_100 {go : GT} (hgo : go = R0 w vF) {n cs ss : Nat} {L : List Slot} {S : List Value} {H : AH} {q : QT} (h : Rsq (go n (101, L, (.int 1 :: S), H, cs, ss)) q) : Rsq (go (n + 1) (100, L, S, H, cs, ss)) q := by
  subst hgo
  exact res_of s0_100 h
theorem t0_101 {go : GT} (hgo : go = R0 w vF) {n cs ss : Nat} {l0 l1 l3 l4 l5 l6 l7 l8 l9 l10 l11 l12 : Slot} {S : List Value} {H : AH} {q : QT} {v : Int32} (h : Rsq (go n (102, [l0, l1, .val (.int v), l3, l4, l5, l6, l7, l8, l9, l10, l11, l12], (.int v :: S), H, cs, ss)) q) : Rsq (go (n + 1) (101, [l0, l1, .val (.int v), l3, l4, l5, l6, l7, l8, l9, l10, l11, l12], S, H, cs, ss)) q := by
  subst hgo
  exact res_of s0_101 h
theorem t0_102 {go : GT} (hgo : go = R0 w vF) {n cs ss : Nat} {l0 l1 l2 l3 l5 l6 l7 l8 l9 l10 l11 l12 : Slot} {S : List Value} {H : AH} {q : QT} {v : Int32} (h : Rsq (go n (104, [l0, l1, l2, l3, .val (.int v), l5, l6, l7, l8, l9, l10, l11, l12], (.int v :: S), H, cs, ss)) q) : Rsq (go (n + 1) (102, [l0, l1, l2, l3, .val (.int v), l5, l6, l7, l8, l9, l10, l11, l12], S, H, cs, ss)) q := by
  subst hgo
  exact res_of s0_102 h
theorem t0_104 {go : GT} (hgo : go = R0 w vF) {n cs ss : Nat} {l0 l1 l2 l3 l4 l6 l7 l8 l9 l10 l11 l12 : Slot} {S : List Value} {H : AH} {q : QT} {v : Int32} (h : Rsq (go n (106, [l0, l1, l2, l3, l4, .val (.int v), l6, l7, l8, l9, l10, l11, l12], (.int v :: S), H, cs, ss)) q) : Rsq (go (n + 1) (104, [l0, l1, l2, l3, l4, .val (.int v), l6, l7, l8, l9, l10, l11, l12], S, H, cs, ss)) q := by
  subst hgo
  exact res_of s0_104 h
theorem u0_106 {go : GT} (hgo : go = R0 w vF) {n cs ss : Nat} {L : List Slot} {S : List Value} {H : AH} : go (n + 1) (106, L, S, H, cs, ss) = (aCall 5 6 32 4288 0 0 (F3 w vF) S H cs ss).bind fun r => go n (109, L, r.1, r.2.1, r.2.2.1, r.2.2.2) := by
  subst hgo
  exact s0_106
theorem u0_109 {go : GT} (hgo : go = R0 w vF) {n cs ss : Nat} {L : List Slot} {S : List Value} {H : AH} : go (n + 1) (109, L, S, H, cs, ss) = ex ret (E0 w vF) 25 (go n) (.castore) 109 L S H cs ss := by
  subst hgo
  exact s0_109
theorem t0_110 {go : GT} (hgo : go = R0 w vF) {n cs ss : Nat} {l0 l1 l2 l3 l4 l5 l6 l7 l9 l10 l11 l12 : Slot} {S : List Value} {H : AH} {q : QT} {v : Int32} (h : Rsq (go n (112, [l0, l1, l2, l3, l4, l5, l6, l7, .val (.int v), l9, l10, l11, l12], (.int v :: S), H, cs, ss)) q) : Rsq (go (n + 1) (110, [l0, l1, l2, l3, l4, l5, l6, l7, .val (.int v), l9, l10, l11, l12], S, H, cs, ss)) q := by
  subst hgo
  exact res_of s0_110 h
theorem t0_112 {go : GT} (hgo : go = R0 w vF) {n cs ss : Nat} {L : List Slot} {S : List Value} {H : AH} {q : QT} (h : Rsq (go n (113, L, (.int 2 :: S), H, cs, ss)) q) : Rsq (go (n + 1) (112, L, S, H, cs, ss)) q := by
  subst hgo
  exact res_of s0_112 h
theorem t0_113t {go : GT} (hgo : go = R0 w vF) {n cs ss : Nat} {L : List Slot} {S : List Value} {H : AH} {q : QT} {x y : Int32} (hc : y < x) (h : Rsq (go n (116, L, S, H, cs, ss)) q) : Rsq (go (n + 1) (113, L, (.int y :: .int x :: S), H, cs, ss)) q := by
  subst hgo
  exact res_of s0_113 (res_t hc h)
theorem t0_113f {go : GT} (hgo : go = R0 w vF) {n cs ss : Nat} {L : List Slot} {S : List Value} {H : AH} {q : QT} {x y : Int32} (hc : ¬ y < x) (h : Rsq (go n (131, L, S, H, cs, ss)) q) : Rsq (go (n + 1) (113, L, (.int y :: .int x :: S), H, cs, ss)) q := by
  subst hgo
  exact res_of s0_113 (res_f hc h)
theorem t0_116 {go : GT} (hgo : go = R0 w vF) {n cs ss : Nat} {l0 l1 l2 l3 l4 l5 l6 l7 l8 l10 l11 l12 : Slot} {S : List Value} {H : AH} {q : QT} {v : Value} (hv : isA v = true) (h : Rsq (go n (118, [l0, l1, l2, l3, l4, l5, l6, l7, l8, .val v, l10, l11, l12], (v :: S), H, cs, ss)) q) : Rsq (go (n + 1) (116, [l0, l1, l2, l3, l4, l5, l6, l7, l8, .val v, l10, l11, l12], S, H, cs, ss)) q := by
  subst hgo
  refine res_of s0_116 ?_
  rw [gA_isA (L := [l0, l1, l2, l3, l4, l5, l6, l7, l8, .val v, l10, l11, l12]) (k := 9) (v := v) rfl hv]
  exact h
theorem t0_118 {go : GT} (hgo : go = R0 w vF) {n cs ss : Nat} {L : List Slot} {S : List Value} {H : AH} {q : QT} (h : Rsq (go n (119, L, (.int 2 :: S), H, cs, ss)) q) : Rsq (go (n + 1) (118, L, S, H, cs, ss)) q := by
  subst hgo
  exact res_of s0_118 h
theorem t0_119 {go : GT} (hgo : go = R0 w vF) {n cs ss : Nat} {l0 l1 l2 l3 l4 l5 l6 l8 l9 l10 l11 l12 : Slot} {S : List Value} {H : AH} {q : QT} {v : Value} (hv : isA v = true) (h : Rsq (go n (121, [l0, l1, l2, l3, l4, l5, l6, .val v, l8, l9, l10, l11, l12], (v :: S), H, cs, ss)) q) : Rsq (go (n + 1) (119, [l0, l1, l2, l3, l4, l5, l6, .val v, l8, l9, l10, l11, l12], S, H, cs, ss)) q := by
  subst hgo
  refine res_of s0_119 ?_
  rw [gA_isA (L := [l0, l1, l2, l3, l4, l5, l6, .val v, l8, l9, l10, l11, l12]) (k := 7) (v := v) rfl hv]
  exact h
theorem t0_121 {go : GT} (hgo : go = R0 w vF) {n cs ss : Nat} {L : List Slot} {S : List Value} {H : AH} {q : QT} (h : Rsq (go n (122, L, (.int 2 :: S), H, cs, ss)) q) : Rsq (go (n + 1) (121, L, S, H, cs, ss)) q := by
  subst hgo
  exact res_of s0_121 h
theorem t0_122 {go : GT} (hgo : go = R0 w vF) {n cs ss : Nat} {l0 l1 l3 l4 l5 l6 l7 l8 l9 l10 l11 l12 : Slot} {S : List Value} {H : AH} {q : QT} {v : Int32} (h : Rsq (go n (123, [l0, l1, .val (.int v), l3, l4, l5, l6, l7, l8, l9, l10, l11, l12], (.int v :: S), H, cs, ss)) q) : Rsq (go (n + 1) (122, [l0, l1, .val (.int v), l3, l4, l5, l6, l7, l8, l9, l10, l11, l12], S, H, cs, ss)) q := by
  subst hgo
  exact res_of s0_122 h
theorem t0_123 {go : GT} (hgo : go = R0 w vF) {n cs ss : Nat} {l0 l1 l2 l3 l5 l6 l7 l8 l9 l10 l11 l12 : Slot} {S : List Value} {H : AH} {q : QT} {v : Int32} (h : Rsq (go n (125, [l0, l1, l2, l3, .val (.int v), l5, l6, l7, l8, l9, l10, l11, l12], (.int v :: S), H, cs, ss)) q) : Rsq (go (n + 1) (123, [l0, l1, l2, l3, .val (.int v), l5, l6, l7, l8, l9, l10, l11, l12], S, H, cs, ss)) q := by
  subst hgo
  exact res_of s0_123 h
theorem t0_125 {go : GT} (hgo : go = R0 w vF) {n cs ss : Nat} {l0 l1 l2 l3 l4 l6 l7 l8 l9 l10 l11 l12 : Slot} {S : List Value} {H : AH} {q : QT} {v : Int32} (h : Rsq (go n (127, [l0, l1, l2, l3, l4, .val (.int v), l6, l7, l8, l9, l10, l11, l12], (.int v :: S), H, cs, ss)) q) : Rsq (go (n + 1) (125, [l0, l1, l2, l3, l4, .val (.int v), l6, l7, l8, l9, l10, l11, l12], S, H, cs, ss)) q := by
  subst hgo
  exact res_of s0_125 h
theorem u0_127 {go : GT} (hgo : go = R0 w vF) {n cs ss : Nat} {L : List Slot} {S : List Value} {H : AH} : go (n + 1) (127, L, S, H, cs, ss) = (aCall 5 6 32 4288 0 0 (F3 w vF) S H cs ss).bind fun r => go n (130, L, r.1, r.2.1, r.2.2.1, r.2.2.2) := by
  subst hgo
  exact s0_127
theorem u0_130 {go : GT} (hgo : go = R0 w vF) {n cs ss : Nat} {L : List Slot} {S : List Value} {H : AH} : go (n + 1) (130, L, S, H, cs, ss) = ex ret (E0 w vF) 25 (go n) (.castore) 130 L S H cs ss := by
  subst hgo
  exact s0_130
theorem t0_131 {go : GT} (hgo : go = R0 w vF) {n cs ss : Nat} {l0 l1 l2 l3 l4 l5 l6 l7 l9 l10 l11 l12 : Slot} {S : List Value} {H : AH} {q : QT} {v : Int32} (h : Rsq (go n (133, [l0, l1, l2, l3, l4, l5, l6, l7, .val (.int v), l9, l10, l11, l12], (.int v :: S), H, cs, ss)) q) : Rsq (go (n + 1) (131, [l0, l1, l2, l3, l4, l5, l6, l7, .val (.int v), l9, l10, l11, l12], S, H, cs, ss)) q := by
  subst hgo
  exact res_of s0_131 h
theorem t0_133 {go : GT} (hgo : go = R0 w vF) {n cs ss : Nat} {L : List Slot} {S : List Value} {H : AH} {q : QT} (h : Rsq (go n (134, L, (.int 3 :: S), H, cs, ss)) q) : Rsq (go (n + 1) (133, L, S, H, cs, ss)) q := by
  subst hgo
  exact res_of s0_133 h
theorem t0_134t {go : GT} (hgo : go = R0 w vF) {n cs ss : Nat} {L : List Slot} {S : List Value} {H : AH} {q : QT} {x y : Int32} (hc : y < x) (h : Rsq (go n (137, L, S, H, cs, ss)) q) : Rsq (go (n + 1) (134, L, (.int y :: .int x :: S), H, cs, ss)) q := by
  subst hgo
  exact res_of s0_134 (res_t hc h)
theorem t0_134f {go : GT} (hgo : go = R0 w vF) {n cs ss : Nat} {L : List Slot} {S : List Value} {H : AH} {q : QT} {x y : Int32} (hc : ¬ y < x) (h : Rsq (go n (152, L, S, H, cs, ss)) q) : Rsq (go (n + 1) (134, L, (.int y :: .int x :: S), H, cs, ss)) q := by
  subst hgo
  exact res_of s0_134 (res_f hc h)
theorem t0_137 {go : GT} (hgo : go = R0 w vF) {n cs ss : Nat} {l0 l1 l2 l3 l4 l5 l6 l7 l8 l10 l11 l12 : Slot} {S : List Value} {H : AH} {q : QT} {v : Value} (hv : isA v = true) (h : Rsq (go n (139, [l0, l1, l2, l3, l4, l5, l6, l7, l8, .val v, l10, l11, l12], (v :: S), H, cs, ss)) q) : Rsq (go (n + 1) (137, [l0, l1, l2, l3, l4, l5, l6, l7, l8, .val v, l10, l11, l12], S, H, cs, ss)) q := by
  subst hgo
  refine res_of s0_137 ?_
  rw [gA_isA (L := [l0, l1, l2, l3, l4, l5, l6, l7, l8, .val v, l10, l11, l12]) (k := 9) (v := v) rfl hv]
  exact h
theorem t0_139 {go : GT} (hgo : go = R0 w vF) {n cs ss : Nat} {L : List Slot} {S : List Value} {H : AH} {q : QT} (h : Rsq (go n (140, L, (.int 3 :: S), H, cs, ss)) q) : Rsq (go (n + 1) (139, L, S, H, cs, ss)) q := by
  subst hgo
  exact res_of s0_139 h
theorem t0_140 {go : GT} (hgo : go = R0 w vF) {n cs ss : Nat} {l0 l1 l2 l3 l4 l5 l6 l8 l9 l10 l11 l12 : Slot} {S : List Value} {H : AH} {q : QT} {v : Value} (hv : isA v = true) (h : Rsq (go n (142, [l0, l1, l2, l3, l4, l5, l6, .val v, l8, l9, l10, l11, l12], (v :: S), H, cs, ss)) q) : Rsq (go (n + 1) (140, [l0, l1, l2, l3, l4, l5, l6, .val v, l8, l9, l10, l11, l12], S, H, cs, ss)) q := by
  subst hgo
  refine res_of s0_140 ?_
  rw [gA_isA (L := [l0, l1, l2, l3, l4, l5, l6, .val v, l8, l9, l10, l11, l12]) (k := 7) (v := v) rfl hv]
  exact h
theorem t0_142 {go : GT} (hgo : go = R0 w vF) {n cs ss : Nat} {L : List Slot} {S : List Value} {H : AH} {q : QT} (h : Rsq (go n (143, L, (.int 3 :: S), H, cs, ss)) q) : Rsq (go (n + 1) (142, L, S, H, cs, ss)) q := by
  subst hgo
  exact res_of s0_142 h
theorem t0_143 {go : GT} (hgo : go = R0 w vF) {n cs ss : Nat} {l0 l1 l3 l4 l5 l6 l7 l8 l9 l10 l11 l12 : Slot} {S : List Value} {H : AH} {q : QT} {v : Int32} (h : Rsq (go n (144, [l0, l1, .val (.int v), l3, l4, l5, l6, l7, l8, l9, l10, l11, l12], (.int v :: S), H, cs, ss)) q) : Rsq (go (n + 1) (143, [l0, l1, .val (.int v), l3, l4, l5, l6, l7, l8, l9, l10, l11, l12], S, H, cs, ss)) q := by
  subst hgo
  exact res_of s0_143 h
theorem t0_144 {go : GT} (hgo : go = R0 w vF) {n cs ss : Nat} {l0 l1 l2 l3 l5 l6 l7 l8 l9 l10 l11 l12 : Slot} {S : List Value} {H : AH} {q : QT} {v : Int32} (h : Rsq (go n (146, [l0, l1, l2, l3, .val (.int v), l5, l6, l7, l8, l9, l10, l11, l12], (.int v :: S), H, cs, ss)) q) : Rsq (go (n + 1) (144, [l0, l1, l2, l3, .val (.int v), l5, l6, l7, l8, l9, l10, l11, l12], S, H, cs, ss)) q := by
  subst hgo
  exact res_of s0_144 h
theorem t0_146 {go : GT} (hgo : go = R0 w vF) {n cs ss : Nat} {l0 l1 l2 l3 l4 l6 l7 l8 l9 l10 l11 l12 : Slot} {S : List Value} {H : AH} {q : QT} {v : Int32} (h : Rsq (go n (148, [l0, l1, l2, l3, l4, .val (.int v), l6, l7, l8, l9, l10, l11, l12], (.int v :: S), H, cs, ss)) q) : Rsq (go (n + 1) (146, [l0, l1, l2, l3, l4, .val (.int v), l6, l7, l8, l9, l10, l11, l12], S, H, cs, ss)) q := by
  subst hgo
  exact res_of s0_146 h
theorem u0_148 {go : GT} (hgo : go = R0 w vF) {n cs ss : Nat} {L : List Slot} {S : List Value} {H : AH} : go (n + 1) (148, L, S, H, cs, ss) = (aCall 5 6 32 4288 0 0 (F3 w vF) S H cs ss).bind fun r => go n (151, L, r.1, r.2.1, r.2.2.1, r.2.2.2) := by
  subst hgo
  exact s0_148
theorem u0_151 {go : GT} (hgo : go = R0 w vF) {n cs ss : Nat} {L : List Slot} {S : List Value} {H : AH} : go (n + 1) (151, L, S, H, cs, ss) = ex ret (E0 w vF) 25 (go n) (.castore) 151 L S H cs ss := by
  subst hgo
  exact s0_151
theorem t0_152 {go : GT} (hgo : go = R0 w vF) {n cs ss : Nat} {l0 l1 l2 l3 l4 l5 l6 l7 l9 l10 l11 l12 : Slot} {S : List Value} {H : AH} {q : QT} {v : Int32} (h : Rsq (go n (154, [l0, l1, l2, l3, l4, l5, l6, l7, .val (.int v), l9, l10, l11, l12], (.int v :: S), H, cs, ss)) q) : Rsq (go (n + 1) (152, [l0, l1, l2, l3, l4, l5, l6, l7, .val (.int v), l9, l10, l11, l12], S, H, cs, ss)) q := by
  subst hgo
  exact res_of s0_152 h
theorem t0_154 {go : GT} (hgo : go = R0 w vF) {n cs ss : Nat} {L : List Slot} {S : List Value} {H : AH} {q : QT} (h : Rsq (go n (155, L, (.int 4 :: S), H, cs, ss)) q) : Rsq (go (n + 1) (154, L, S, H, cs, ss)) q := by
  subst hgo
  exact res_of s0_154 h
theorem t0_155t {go : GT} (hgo : go = R0 w vF) {n cs ss : Nat} {L : List Slot} {S : List Value} {H : AH} {q : QT} {x y : Int32} (hc : y < x) (h : Rsq (go n (158, L, S, H, cs, ss)) q) : Rsq (go (n + 1) (155, L, (.int y :: .int x :: S), H, cs, ss)) q := by
  subst hgo
  exact res_of s0_155 (res_t hc h)
theorem t0_155f {go : GT} (hgo : go = R0 w vF) {n cs ss : Nat} {L : List Slot} {S : List Value} {H : AH} {q : QT} {x y : Int32} (hc : ¬ y < x) (h : Rsq (go n (173, L, S, H, cs, ss)) q) : Rsq (go (n + 1) (155, L, (.int y :: .int x :: S), H, cs, ss)) q := by
  subst hgo
  exact res_of s0_155 (res_f hc h)
theorem t0_158 {go : GT} (hgo : go = R0 w vF) {n cs ss : Nat} {l0 l1 l2 l3 l4 l5 l6 l7 l8 l10 l11 l12 : Slot} {S : List Value} {H : AH} {q : QT} {v : Value} (hv : isA v = true) (h : Rsq (go n (160, [l0, l1, l2, l3, l4, l5, l6, l7, l8, .val v, l10, l11, l12], (v :: S), H, cs, ss)) q) : Rsq (go (n + 1) (158, [l0, l1, l2, l3, l4, l5, l6, l7, l8, .val v, l10, l11, l12], S, H, cs, ss)) q := by
  subst hgo
  refine res_of s0_158 ?_
  rw [gA_isA (L := [l0, l1, l2, l3, l4, l5, l6, l7, l8, .val v, l10, l11, l12]) (k := 9) (v := v) rfl hv]
  exact h
theorem t0_160 {go : GT} (hgo : go = R0 w vF) {n cs ss : Nat} {L : List Slot} {S : List Value} {H : AH} {q : QT} (h : Rsq (go n (161, L, (.int 4 :: S), H, cs, ss)) q) : Rsq (go (n + 1) (160, L, S, H, cs, ss)) q := by
  subst hgo
  exact res_of s0_160 h
theorem t0_161 {go : GT} (hgo : go = R0 w vF) {n cs ss : Nat} {l0 l1 l2 l3 l4 l5 l6 l8 l9 l10 l11 l12 : Slot} {S : List Value} {H : AH} {q : QT} {v : Value} (hv : isA v = true) (h : Rsq (go n (163, [l0, l1, l2, l3, l4, l5, l6, .val v, l8, l9, l10, l11, l12], (v :: S), H, cs, ss)) q) : Rsq (go (n + 1) (161, [l0, l1, l2, l3, l4, l5, l6, .val v, l8, l9, l10, l11, l12], S, H, cs, ss)) q := by
  subst hgo
  refine res_of s0_161 ?_
  rw [gA_isA (L := [l0, l1, l2, l3, l4, l5, l6, .val v, l8, l9, l10, l11, l12]) (k := 7) (v := v) rfl hv]
  exact h
theorem t0_163 {go : GT} (hgo : go = R0 w vF) {n cs ss : Nat} {L : List Slot} {S : List Value} {H : AH} {q : QT} (h : Rsq (go n (164, L, (.int 4 :: S), H, cs, ss)) q) : Rsq (go (n + 1) (163, L, S, H, cs, ss)) q := by
  subst hgo
  exact res_of s0_163 h
theorem t0_164 {go : GT} (hgo : go = R0 w vF) {n cs ss : Nat} {l0 l1 l3 l4 l5 l6 l7 l8 l9 l10 l11 l12 : Slot} {S : List Value} {H : AH} {q : QT} {v : Int32} (h : Rsq (go n (165, [l0, l1, .val (.int v), l3, l4, l5, l6, l7, l8, l9, l10, l11, l12], (.int v :: S), H, cs, ss)) q) : Rsq (go (n + 1) (164, [l0, l1, .val (.int v), l3, l4, l5, l6, l7, l8, l9, l10, l11, l12], S, H, cs, ss)) q := by
  subst hgo
  exact res_of s0_164 h
theorem t0_165 {go : GT} (hgo : go = R0 w vF) {n cs ss : Nat} {l0 l1 l2 l3 l5 l6 l7 l8 l9 l10 l11 l12 : Slot} {S : List Value} {H : AH} {q : QT} {v : Int32} (h : Rsq (go n (167, [l0, l1, l2, l3, .val (.int v), l5, l6, l7, l8, l9, l10, l11, l12], (.int v :: S), H, cs, ss)) q) : Rsq (go (n + 1) (165, [l0, l1, l2, l3, .val (.int v), l5, l6, l7, l8, l9, l10, l11, l12], S, H, cs, ss)) q := by
  subst hgo
  exact res_of s0_165 h
theorem t0_167 {go : GT} (hgo : go = R0 w vF) {n cs ss : Nat} {l0 l1 l2 l3 l4 l6 l7 l8 l9 l10 l11 l12 : Slot} {S : List Value} {H : AH} {q : QT} {v : Int32} (h : Rsq (go n (169, [l0, l1, l2, l3, l4, .val (.int v), l6, l7, l8, l9, l10, l11, l12], (.int v :: S), H, cs, ss)) q) : Rsq (go (n + 1) (167, [l0, l1, l2, l3, l4, .val (.int v), l6, l7, l8, l9, l10, l11, l12], S, H, cs, ss)) q := by
  subst hgo
  exact res_of s0_167 h
theorem u0_169 {go : GT} (hgo : go = R0 w vF) {n cs ss : Nat} {L : List Slot} {S : List Value} {H : AH} : go (n + 1) (169, L, S, H, cs, ss) = (aCall 5 6 32 4288 0 0 (F3 w vF) S H cs ss).bind fun r => go n (172, L, r.1, r.2.1, r.2.2.1, r.2.2.2) := by
  subst hgo
  exact s0_169
theorem u0_172 {go : GT} (hgo : go = R0 w vF) {n cs ss : Nat} {L : List Slot} {S : List Value} {H : AH} : go (n + 1) (172, L, S, H, cs, ss) = ex ret (E0 w vF) 25 (go n) (.castore) 172 L S H cs ss := by
  subst hgo
  exact s0_172
theorem t0_173 {go : GT} (hgo : go = R0 w vF) {n cs ss : Nat} {l0 l1 l2 l3 l4 l5 l6 l7 l9 l10 l11 l12 : Slot} {S : List Value} {H : AH} {q : QT} {v : Int32} (h : Rsq (go n (175, [l0, l1, l2, l3, l4, l5, l6, l7, .val (.int v), l9, l10, l11, l12], (.int v :: S), H, cs, ss)) q) : Rsq (go (n + 1) (173, [l0, l1, l2, l3, l4, l5, l6, l7, .val (.int v), l9, l10, l11, l12], S, H, cs, ss)) q := by
  subst hgo
  exact res_of s0_173 h
theorem t0_175 {go : GT} (hgo : go = R0 w vF) {n cs ss : Nat} {L : List Slot} {S : List Value} {H : AH} {q : QT} (h : Rsq (go n (176, L, (.int 5 :: S), H, cs, ss)) q) : Rsq (go (n + 1) (175, L, S, H, cs, ss)) q := by
  subst hgo
  exact res_of s0_175 h
theorem t0_176t {go : GT} (hgo : go = R0 w vF) {n cs ss : Nat} {L : List Slot} {S : List Value} {H : AH} {q : QT} {x y : Int32} (hc : y < x) (h : Rsq (go n (179, L, S, H, cs, ss)) q) : Rsq (go (n + 1) (176, L, (.int y :: .int x :: S), H, cs, ss)) q := by
  subst hgo
  exact res_of s0_176 (res_t hc h)
theorem t0_176f {go : GT} (hgo : go = R0 w vF) {n cs ss : Nat} {L : List Slot} {S : List Value} {H : AH} {q : QT} {x y : Int32} (hc : ¬ y < x) (h : Rsq (go n (194, L, S, H, cs, ss)) q) : Rsq (go (n + 1) (176, L, (.int y :: .int x :: S), H, cs, ss)) q := by
  subst hgo
  exact res_of s0_176 (res_f hc h)
theorem t0_179 {go : GT} (hgo : go = R0 w vF) {n cs ss : Nat} {l0 l1 l2 l3 l4 l5 l6 l7 l8 l10 l11 l12 : Slot} {S : List Value} {H : AH} {q : QT} {v : Value} (hv : isA v = true) (h : Rsq (go n (181, [l0, l1, l2, l3, l4, l5, l6, l7, l8, .val v, l10, l11, l12], (v :: S), H, cs, ss)) q) : Rsq (go (n + 1) (179, [l0, l1, l2, l3, l4, l5, l6, l7, l8, .val v, l10, l11, l12], S, H, cs, ss)) q := by
  subst hgo
  refine res_of s0_179 ?_
  rw [gA_isA (L := [l0, l1, l2, l3, l4, l5, l6, l7, l8, .val v, l10, l11, l12]) (k := 9) (v := v) rfl hv]
  exact h
theorem t0_181 {go : GT} (hgo : go = R0 w vF) {n cs ss : Nat} {L : List Slot} {S : List Value} {H : AH} {q : QT} (h : Rsq (go n (182, L, (.int 5 :: S), H, cs, ss)) q) : Rsq (go (n + 1) (181, L, S, H, cs, ss)) q := by
  subst hgo
  exact res_of s0_181 h
theorem t0_182 {go : GT} (hgo : go = R0 w vF) {n cs ss : Nat} {l0 l1 l2 l3 l4 l5 l6 l8 l9 l10 l11 l12 : Slot} {S : List Value} {H : AH} {q : QT} {v : Value} (hv : isA v = true) (h : Rsq (go n (184, [l0, l1, l2, l3, l4, l5, l6, .val v, l8, l9, l10, l11, l12], (v :: S), H, cs, ss)) q) : Rsq (go (n + 1) (182, [l0, l1, l2, l3, l4, l5, l6, .val v, l8, l9, l10, l11, l12], S, H, cs, ss)) q := by
  subst hgo
  refine res_of s0_182 ?_
  rw [gA_isA (L := [l0, l1, l2, l3, l4, l5, l6, .val v, l8, l9, l10, l11, l12]) (k := 7) (v := v) rfl hv]
  exact h
theorem t0_184 {go : GT} (hgo : go = R0 w vF) {n cs ss : Nat} {L : List Slot} {S : List Value} {H : AH} {q : QT} (h : Rsq (go n (185, L, (.int 5 :: S), H, cs, ss)) q) : Rsq (go (n + 1) (184, L, S, H, cs, ss)) q := by
  subst hgo
  exact res_of s0_184 h
theorem t0_185 {go : GT} (hgo : go = R0 w vF) {n cs ss : Nat} {l0 l1 l3 l4 l5 l6 l7 l8 l9 l10 l11 l12 : Slot} {S : List Value} {H : AH} {q : QT} {v : Int32} (h : Rsq (go n (186, [l0, l1, .val (.int v), l3, l4, l5, l6, l7, l8, l9, l10, l11, l12], (.int v :: S), H, cs, ss)) q) : Rsq (go (n + 1) (185, [l0, l1, .val (.int v), l3, l4, l5, l6, l7, l8, l9, l10, l11, l12], S, H, cs, ss)) q := by
  subst hgo
  exact res_of s0_185 h
theorem t0_186 {go : GT} (hgo : go = R0 w vF) {n cs ss : Nat} {l0 l1 l2 l3 l5 l6 l7 l8 l9 l10 l11 l12 : Slot} {S : List Value} {H : AH} {q : QT} {v : Int32} (h : Rsq (go n (188, [l0, l1, l2, l3, .val (.int v), l5, l6, l7, l8, l9, l10, l11, l12], (.int v :: S), H, cs, ss)) q) : Rsq (go (n + 1) (186, [l0, l1, l2, l3, .val (.int v), l5, l6, l7, l8, l9, l10, l11, l12], S, H, cs, ss)) q := by
  subst hgo
  exact res_of s0_186 h
theorem t0_188 {go : GT} (hgo : go = R0 w vF) {n cs ss : Nat} {l0 l1 l2 l3 l4 l6 l7 l8 l9 l10 l11 l12 : Slot} {S : List Value} {H : AH} {q : QT} {v : Int32} (h : Rsq (go n (190, [l0, l1, l2, l3, l4, .val (.int v), l6, l7, l8, l9, l10, l11, l12], (.int v :: S), H, cs, ss)) q) : Rsq (go (n + 1) (188, [l0, l1, l2, l3, l4, .val (.int v), l6, l7, l8, l9, l10, l11, l12], S, H, cs, ss)) q := by
  subst hgo
  exact res_of s0_188 h
theorem u0_190 {go : GT} (hgo : go = R0 w vF) {n cs ss : Nat} {L : List Slot} {S : List Value} {H : AH} : go (n + 1) (190, L, S, H, cs, ss) = (aCall 5 6 32 4288 0 0 (F3 w vF) S H cs ss).bind fun r => go n (193, L, r.1, r.2.1, r.2.2.1, r.2.2.2) := by
  subst hgo
  exact s0_190
theorem u0_193 {go : GT} (hgo : go = R0 w vF) {n cs ss : Nat} {L : List Slot} {S : List Value} {H : AH} : go (n + 1) (193, L, S, H, cs, ss) = ex ret (E0 w vF) 25 (go n) (.castore) 193 L S H cs ss := by
  subst hgo
  exact s0_193
theorem t0_194 {go : GT} (hgo : go = R0 w vF) {n cs ss : Nat} {l0 l1 l2 l3 l4 l5 l6 l7 l9 l10 l11 l12 : Slot} {S : List Value} {H : AH} {q : QT} {v : Int32} (h : Rsq (go n (196, [l0, l1, l2, l3, l4, l5, l6, l7, .val (.int v), l9, l10, l11, l12], (.int v :: S), H, cs, ss)) q) : Rsq (go (n + 1) (194, [l0, l1, l2, l3, l4, l5, l6, l7, .val (.int v), l9, l10, l11, l12], S, H, cs, ss)) q := by
  subst hgo
  exact res_of s0_194 h
theorem t0_196 {go : GT} (hgo : go = R0 w vF) {n cs ss : Nat} {L : List Slot} {S : List Value} {H : AH} {q : QT} (h : Rsq (go n (198, L, (.int 6 :: S), H, cs, ss)) q) : Rsq (go (n + 1) (196, L, S, H, cs, ss)) q := by
  subst hgo
  exact res_of s0_196 h
theorem t0_198t {go : GT} (hgo : go = R0 w vF) {n cs ss : Nat} {L : List Slot} {S : List Value} {H : AH} {q : QT} {x y : Int32} (hc : y < x) (h : Rsq (go n (201, L, S, H, cs, ss)) q) : Rsq (go (n + 1) (198, L, (.int y :: .int x :: S), H, cs, ss)) q := by
  subst hgo
  exact res_of s0_198 (res_t hc h)
theorem t0_198f {go : GT} (hgo : go = R0 w vF) {n cs ss : Nat} {L : List Slot} {S : List Value} {H : AH} {q : QT} {x y : Int32} (hc : ¬ y < x) (h : Rsq (go n (218, L, S, H, cs, ss)) q) : Rsq (go (n + 1) (198, L, (.int y :: .int x :: S), H, cs, ss)) q := by
  subst hgo
  exact res_of s0_198 (res_f hc h)
theorem t0_201 {go : GT} (hgo : go = R0 w vF) {n cs ss : Nat} {l0 l1 l2 l3 l4 l5 l6 l7 l8 l10 l11 l12 : Slot} {S : List Value} {H : AH} {q : QT} {v : Value} (hv : isA v = true) (h : Rsq (go n (203, [l0, l1, l2, l3, l4, l5, l6, l7, l8, .val v, l10, l11, l12], (v :: S), H, cs, ss)) q) : Rsq (go (n + 1) (201, [l0, l1, l2, l3, l4, l5, l6, l7, l8, .val v, l10, l11, l12], S, H, cs, ss)) q := by
  subst hgo
  refine res_of s0_201 ?_
  rw [gA_isA (L := [l0, l1, l2, l3, l4, l5, l6, l7, l8, .val v, l10, l11, l12]) (k := 9) (v := v) rfl hv]
  exact h
theorem t0_203 {go : GT} (hgo : go = R0 w vF) {n cs ss : Nat} {L : List Slot} {S : List Value} {H : AH} {q : QT} (h : Rsq (go n (205, L, (.int 6 :: S), H, cs, ss)) q) : Rsq (go (n + 1) (203, L, S, H, cs, ss)) q := by
  subst hgo
  exact res_of s0_203 h
theorem t0_205 {go : GT} (hgo : go = R0 w vF) {n cs ss : Nat} {l0 l1 l2 l3 l4 l5 l6 l8 l9 l10 l11 l12 : Slot} {S : List Value} {H : AH} {q : QT} {v : Value} (hv : isA v = true) (h : Rsq (go n (207, [l0, l1, l2, l3, l4, l5, l6, .val v, l8, l9, l10, l11, l12], (v :: S), H, cs, ss)) q) : Rsq (go (n + 1) (205, [l0, l1, l2, l3, l4, l5, l6, .val v, l8, l9, l10, l11, l12], S, H, cs, ss)) q := by
  subst hgo
  refine res_of s0_205 ?_
  rw [gA_isA (L := [l0, l1, l2, l3, l4, l5, l6, .val v, l8, l9, l10, l11, l12]) (k := 7) (v := v) rfl hv]
  exact h
theorem t0_207 {go : GT} (hgo : go = R0 w vF) {n cs ss : Nat} {L : List Slot} {S : List Value} {H : AH} {q : QT} (h : Rsq (go n (209, L, (.int 6 :: S), H, cs, ss)) q) : Rsq (go (n + 1) (207, L, S, H, cs, ss)) q := by
  subst hgo
  exact res_of s0_207 h
theorem t0_209 {go : GT} (hgo : go = R0 w vF) {n cs ss : Nat} {l0 l1 l3 l4 l5 l6 l7 l8 l9 l10 l11 l12 : Slot} {S : List Value} {H : AH} {q : QT} {v : Int32} (h : Rsq (go n (210, [l0, l1, .val (.int v), l3, l4, l5, l6, l7, l8, l9, l10, l11, l12], (.int v :: S), H, cs, ss)) q) : Rsq (go (n + 1) (209, [l0, l1, .val (.int v), l3, l4, l5, l6, l7, l8, l9, l10, l11, l12], S, H, cs, ss)) q := by
  subst hgo
  exact res_of s0_209 h
theorem t0_210 {go : GT} (hgo : go = R0 w vF) {n cs ss : Nat} {l0 l1 l2 l3 l5 l6 l7 l8 l9 l10 l11 l12 : Slot} {S : List Value} {H : AH} {q : QT} {v : Int32} (h : Rsq (go n (212, [l0, l1, l2, l3, .val (.int v), l5, l6, l7, l8, l9, l10, l11, l12], (.int v :: S), H, cs, ss)) q) : Rsq (go (n + 1) (210, [l0, l1, l2, l3, .val (.int v), l5, l6, l7, l8, l9, l10, l11, l12], S, H, cs, ss)) q := by
  subst hgo
  exact res_of s0_210 h
theorem t0_212 {go : GT} (hgo : go = R0 w vF) {n cs ss : Nat} {l0 l1 l2 l3 l4 l6 l7 l8 l9 l10 l11 l12 : Slot} {S : List Value} {H : AH} {q : QT} {v : Int32} (h : Rsq (go n (214, [l0, l1, l2, l3, l4, .val (.int v), l6, l7, l8, l9, l10, l11, l12], (.int v :: S), H, cs, ss)) q) : Rsq (go (n + 1) (212, [l0, l1, l2, l3, l4, .val (.int v), l6, l7, l8, l9, l10, l11, l12], S, H, cs, ss)) q := by
  subst hgo
  exact res_of s0_212 h
theorem u0_214 {go : GT} (hgo : go = R0 w vF) {n cs ss : Nat} {L : List Slot} {S : List Value} {H : AH} : go (n + 1) (214, L, S, H, cs, ss) = (aCall 5 6 32 4288 0 0 (F3 w vF) S H cs ss).bind fun r => go n (217, L, r.1, r.2.1, r.2.2.1, r.2.2.2) := by
  subst hgo
  exact s0_214
theorem u0_217 {go : GT} (hgo : go = R0 w vF) {n cs ss : Nat} {L : List Slot} {S : List Value} {H : AH} : go (n + 1) (217, L, S, H, cs, ss) = ex ret (E0 w vF) 25 (go n) (.castore) 217 L S H cs ss := by
  subst hgo
  exact s0_217
theorem t0_218 {go : GT} (hgo : go = R0 w vF) {n cs ss : Nat} {l0 l1 l2 l3 l4 l5 l6 l7 l9 l10 l11 l12 : Slot} {S : List Value} {H : AH} {q : QT} {v : Int32} (h : Rsq (go n (220, [l0, l1, l2, l3, l4, l5, l6, l7, .val (.int v), l9, l10, l11, l12], (.int v :: S), H, cs, ss)) q) : Rsq (go (n + 1) (218, [l0, l1, l2, l3, l4, l5, l6, l7, .val (.int v), l9, l10, l11, l12], S, H, cs, ss)) q := by
  subst hgo
  exact res_of s0_218 h
theorem t0_220 {go : GT} (hgo : go = R0 w vF) {n cs ss : Nat} {L : List Slot} {S : List Value} {H : AH} {q : QT} (h : Rsq (go n (222, L, (.int 7 :: S), H, cs, ss)) q) : Rsq (go (n + 1) (220, L, S, H, cs, ss)) q := by
  subst hgo
  exact res_of s0_220 h
theorem t0_222t {go : GT} (hgo : go = R0 w vF) {n cs ss : Nat} {L : List Slot} {S : List Value} {H : AH} {q : QT} {x y : Int32} (hc : y < x) (h : Rsq (go n (225, L, S, H, cs, ss)) q) : Rsq (go (n + 1) (222, L, (.int y :: .int x :: S), H, cs, ss)) q := by
  subst hgo
  exact res_of s0_222 (res_t hc h)
theorem t0_222f {go : GT} (hgo : go = R0 w vF) {n cs ss : Nat} {L : List Slot} {S : List Value} {H : AH} {q : QT} {x y : Int32} (hc : ¬ y < x) (h : Rsq (go n (242, L, S, H, cs, ss)) q) : Rsq (go (n + 1) (222, L, (.int y :: .int x :: S), H, cs, ss)) q := by
  subst hgo
  exact res_of s0_222 (res_f hc h)
theorem t0_225 {go : GT} (hgo : go = R0 w vF) {n cs ss : Nat} {l0 l1 l2 l3 l4 l5 l6 l7 l8 l10 l11 l12 : Slot} {S : List Value} {H : AH} {q : QT} {v : Value} (hv : isA v = true) (h : Rsq (go n (227, [l0, l1, l2, l3, l4, l5, l6, l7, l8, .val v, l10, l11, l12], (v :: S), H, cs, ss)) q) : Rsq (go (n + 1) (225, [l0, l1, l2, l3, l4, l5, l6, l7, l8, .val v, l10, l11, l12], S, H, cs, ss)) q := by
  subst hgo
  refine res_of s0_225 ?_
  rw [gA_isA (L := [l0, l1, l2, l3, l4, l5, l6, l7, l8, .val v, l10, l11, l12]) (k := 9) (v := v) rfl hv]
  exact h
theorem t0_227 {go : GT} (hgo : go = R0 w vF) {n cs ss : Nat} {L : List Slot} {S : List Value} {H : AH} {q : QT} (h : Rsq (go n (229, L, (.int 7 :: S), H, cs, ss)) q) : Rsq (go (n + 1) (227, L, S, H, cs, ss)) q := by
  subst hgo
  exact res_of s0_227 h
theorem t0_229 {go : GT} (hgo : go = R0 w vF) {n cs ss : Nat} {l0 l1 l2 l3 l4 l5 l6 l8 l9 l10 l11 l12 : Slot} {S : List Value} {H : AH} {q : QT} {v : Value} (hv : isA v = true) (h : Rsq (go n (231, [l0, l1, l2, l3, l4, l5, l6, .val v, l8, l9, l10, l11, l12], (v :: S), H, cs, ss)) q) : Rsq (go (n + 1) (229, [l0, l1, l2, l3, l4, l5, l6, .val v, l8, l9, l10, l11, l12], S, H, cs, ss)) q := by
  subst hgo
  refine res_of s0_229 ?_
  rw [gA_isA (L := [l0, l1, l2, l3, l4, l5, l6, .val v, l8, l9, l10, l11, l12]) (k := 7) (v := v) rfl hv]
  exact h
theorem t0_231 {go : GT} (hgo : go = R0 w vF) {n cs ss : Nat} {L : List Slot} {S : List Value} {H : AH} {q : QT} (h : Rsq (go n (233, L, (.int 7 :: S), H, cs, ss)) q) : Rsq (go (n + 1) (231, L, S, H, cs, ss)) q := by
  subst hgo
  exact res_of s0_231 h
theorem t0_233 {go : GT} (hgo : go = R0 w vF) {n cs ss : Nat} {l0 l1 l3 l4 l5 l6 l7 l8 l9 l10 l11 l12 : Slot} {S : List Value} {H : AH} {q : QT} {v : Int32} (h : Rsq (go n (234, [l0, l1, .val (.int v), l3, l4, l5, l6, l7, l8, l9, l10, l11, l12], (.int v :: S), H, cs, ss)) q) : Rsq (go (n + 1) (233, [l0, l1, .val (.int v), l3, l4, l5, l6, l7, l8, l9, l10, l11, l12], S, H, cs, ss)) q := by
  subst hgo
  exact res_of s0_233 h
theorem t0_234 {go : GT} (hgo : go = R0 w vF) {n cs ss : Nat} {l0 l1 l2 l3 l5 l6 l7 l8 l9 l10 l11 l12 : Slot} {S : List Value} {H : AH} {q : QT} {v : Int32} (h : Rsq (go n (236, [l0, l1, l2, l3, .val (.int v), l5, l6, l7, l8, l9, l10, l11, l12], (.int v :: S), H, cs, ss)) q) : Rsq (go (n + 1) (234, [l0, l1, l2, l3, .val (.int v), l5, l6, l7, l8, l9, l10, l11, l12], S, H, cs, ss)) q := by
  subst hgo
  exact res_of s0_234 h
theorem t0_236 {go : GT} (hgo : go = R0 w vF) {n cs ss : Nat} {l0 l1 l2 l3 l4 l6 l7 l8 l9 l10 l11 l12 : Slot} {S : List Value} {H : AH} {q : QT} {v : Int32} (h : Rsq (go n (238, [l0, l1, l2, l3, l4, .val (.int v), l6, l7, l8, l9, l10, l11, l12], (.int v :: S), H, cs, ss)) q) : Rsq (go (n + 1) (236, [l0, l1, l2, l3, l4, .val (.int v), l6, l7, l8, l9, l10, l11, l12], S, H, cs, ss)) q := by
  subst hgo
  exact res_of s0_236 h
theorem u0_238 {go : GT} (hgo : go = R0 w vF) {n cs ss : Nat} {L : List Slot} {S : List Value} {H : AH} : go (n + 1) (238, L, S, H, cs, ss) = (aCall 5 6 32 4288 0 0 (F3 w vF) S H cs ss).bind fun r => go n (241, L, r.1, r.2.1, r.2.2.1, r.2.2.2) := by
  subst hgo
  exact s0_238
theorem u0_241 {go : GT} (hgo : go = R0 w vF) {n cs ss : Nat} {L : List Slot} {S : List Value} {H : AH} : go (n + 1) (241, L, S, H, cs, ss) = ex ret (E0 w vF) 25 (go n) (.castore) 241 L S H cs ss := by
  subst hgo
  exact s0_241
theorem t0_242 {go : GT} (hgo : go = R0 w vF) {n cs ss : Nat} {l0 l1 l2 l3 l4 l5 l6 l7 l9 l10 l11 l12 : Slot} {S : List Value} {H : AH} {q : QT} {v : Int32} (h : Rsq (go n (244, [l0, l1, l2, l3, l4, l5, l6, l7, .val (.int v), l9, l10, l11, l12], (.int v :: S), H, cs, ss)) q) : Rsq (go (n + 1) (242, [l0, l1, l2, l3, l4, l5, l6, l7, .val (.int v), l9, l10, l11, l12], S, H, cs, ss)) q := by
  subst hgo
  exact res_of s0_242 h
theorem t0_244 {go : GT} (hgo : go = R0 w vF) {n cs ss : Nat} {L : List Slot} {S : List Value} {H : AH} {q : QT} (h : Rsq (go n (246, L, (.int 8 :: S), H, cs, ss)) q) : Rsq (go (n + 1) (244, L, S, H, cs, ss)) q := by
  subst hgo
  exact res_of s0_244 h
theorem t0_246t {go : GT} (hgo : go = R0 w vF) {n cs ss : Nat} {L : List Slot} {S : List Value} {H : AH} {q : QT} {x y : Int32} (hc : y < x) (h : Rsq (go n (249, L, S, H, cs, ss)) q) : Rsq (go (n + 1) (246, L, (.int y :: .int x :: S), H, cs, ss)) q := by
  subst hgo
  exact res_of s0_246 (res_t hc h)
theorem t0_246f {go : GT} (hgo : go = R0 w vF) {n cs ss : Nat} {L : List Slot} {S : List Value} {H : AH} {q : QT} {x y : Int32} (hc : ¬ y < x) (h : Rsq (go n (266, L, S, H, cs, ss)) q) : Rsq (go (n + 1) (246, L, (.int y :: .int x :: S), H, cs, ss)) q := by
  subst hgo
  exact res_of s0_246 (res_f hc h)
theorem t0_249 {go : GT} (hgo : go = R0 w vF) {n cs ss : Nat} {l0 l1 l2 l3 l4 l5 l6 l7 l8 l10 l11 l12 : Slot} {S : List Value} {H : AH} {q : QT} {v : Value} (hv : isA v = true) (h : Rsq (go n (251, [l0, l1, l2, l3, l4, l5, l6, l7, l8, .val v, l10, l11, l12], (v :: S), H, cs, ss)) q) : Rsq (go (n + 1) (249, [l0, l1, l2, l3, l4, l5, l6, l7, l8, .val v, l10, l11, l12], S, H, cs, ss)) q := by
  subst hgo
  refine res_of s0_249 ?_
  rw [gA_isA (L := [l0, l1, l2, l3, l4, l5, l6, l7, l8, .val v, l10, l11, l12]) (k := 9) (v := v) rfl hv]
  exact h
theorem t0_251 {go : GT} (hgo : go = R0 w vF) {n cs ss : Nat} {L : List Slot} {S : List Value} {H : AH} {q : QT} (h : Rsq (go n (253, L, (.int 8 :: S), H, cs, ss)) q) : Rsq (go (n + 1) (251, L, S, H, cs, ss)) q := by
  subst hgo
  exact res_of s0_251 h
theorem t0_253 {go : GT} (hgo : go = R0 w vF) {n cs ss : Nat} {l0 l1 l2 l3 l4 l5 l6 l8 l9 l10 l11 l12 : Slot} {S : List Value} {H : AH} {q : QT} {v : Value} (hv : isA v = true) (h : Rsq (go n (255, [l0, l1, l2, l3, l4, l5, l6, .val v, l8, l9, l10, l11, l12], (v :: S), H, cs, ss)) q) : Rsq (go (n + 1) (253, [l0, l1, l2, l3, l4, l5, l6, .val v, l8, l9, l10, l11, l12], S, H, cs, ss)) q := by
  subst hgo
  refine res_of s0_253 ?_
  rw [gA_isA (L := [l0, l1, l2, l3, l4, l5, l6, .val v, l8, l9, l10, l11, l12]) (k := 7) (v := v) rfl hv]
  exact h
theorem t0_255 {go : GT} (hgo : go = R0 w vF) {n cs ss : Nat} {L : List Slot} {S : List Value} {H : AH} {q : QT} (h : Rsq (go n (257, L, (.int 8 :: S), H, cs, ss)) q) : Rsq (go (n + 1) (255, L, S, H, cs, ss)) q := by
  subst hgo
  exact res_of s0_255 h
theorem t0_257 {go : GT} (hgo : go = R0 w vF) {n cs ss : Nat} {l0 l1 l3 l4 l5 l6 l7 l8 l9 l10 l11 l12 : Slot} {S : List Value} {H : AH} {q : QT} {v : Int32} (h : Rsq (go n (258, [l0, l1, .val (.int v), l3, l4, l5, l6, l7, l8, l9, l10, l11, l12], (.int v :: S), H, cs, ss)) q) : Rsq (go (n + 1) (257, [l0, l1, .val (.int v), l3, l4, l5, l6, l7, l8, l9, l10, l11, l12], S, H, cs, ss)) q := by
  subst hgo
  exact res_of s0_257 h
theorem t0_258 {go : GT} (hgo : go = R0 w vF) {n cs ss : Nat} {l0 l1 l2 l3 l5 l6 l7 l8 l9 l10 l11 l12 : Slot} {S : List Value} {H : AH} {q : QT} {v : Int32} (h : Rsq (go n (260, [l0, l1, l2, l3, .val (.int v), l5, l6, l7, l8, l9, l10, l11, l12], (.int v :: S), H, cs, ss)) q) : Rsq (go (n + 1) (258, [l0, l1, l2, l3, .val (.int v), l5, l6, l7, l8, l9, l10, l11, l12], S, H, cs, ss)) q := by
  subst hgo
  exact res_of s0_258 h
theorem t0_260 {go : GT} (hgo : go = R0 w vF) {n cs ss : Nat} {l0 l1 l2 l3 l4 l6 l7 l8 l9 l10 l11 l12 : Slot} {S : List Value} {H : AH} {q : QT} {v : Int32} (h : Rsq (go n (262, [l0, l1, l2, l3, l4, .val (.int v), l6, l7, l8, l9, l10, l11, l12], (.int v :: S), H, cs, ss)) q) : Rsq (go (n + 1) (260, [l0, l1, l2, l3, l4, .val (.int v), l6, l7, l8, l9, l10, l11, l12], S, H, cs, ss)) q := by
  subst hgo
  exact res_of s0_260 h
theorem u0_262 {go : GT} (hgo : go = R0 w vF) {n cs ss : Nat} {L : List Slot} {S : List Value} {H : AH} : go (n + 1) (262, L, S, H, cs, ss) = (aCall 5 6 32 4288 0 0 (F3 w vF) S H cs ss).bind fun r => go n (265, L, r.1, r.2.1, r.2.2.1, r.2.2.2) := by
  subst hgo
  exact s0_262
theorem u0_265 {go : GT} (hgo : go = R0 w vF) {n cs ss : Nat} {L : List Slot} {S : List Value} {H : AH} : go (n + 1) (265, L, S, H, cs, ss) = ex ret (E0 w vF) 25 (go n) (.castore) 265 L S H cs ss := by
  subst hgo
  exact s0_265
theorem t0_266 {go : GT} (hgo : go = R0 w vF) {n cs ss : Nat} {l0 l1 l2 l3 l4 l5 l6 l7 l9 l10 l11 l12 : Slot} {S : List Value} {H : AH} {q : QT} {v : Int32} (h : Rsq (go n (268, [l0, l1, l2, l3, l4, l5, l6, l7, .val (.int v), l9, l10, l11, l12], (.int v :: S), H, cs, ss)) q) : Rsq (go (n + 1) (266, [l0, l1, l2, l3, l4, l5, l6, l7, .val (.int v), l9, l10, l11, l12], S, H, cs, ss)) q := by
  subst hgo
  exact res_of s0_266 h
theorem t0_268 {go : GT} (hgo : go = R0 w vF) {n cs ss : Nat} {L : List Slot} {S : List Value} {H : AH} {q : QT} (h : Rsq (go n (270, L, (.int 9 :: S), H, cs, ss)) q) : Rsq (go (n + 1) (268, L, S, H, cs, ss)) q := by
  subst hgo
  exact res_of s0_268 h
theorem t0_270t {go : GT} (hgo : go = R0 w vF) {n cs ss : Nat} {L : List Slot} {S : List Value} {H : AH} {q : QT} {x y : Int32} (hc : y < x) (h : Rsq (go n (273, L, S, H, cs, ss)) q) : Rsq (go (n + 1) (270, L, (.int y :: .int x :: S), H, cs, ss)) q := by
  subst hgo
  exact res_of s0_270 (res_t hc h)
theorem t0_270f {go : GT} (hgo : go = R0 w vF) {n cs ss : Nat} {L : List Slot} {S : List Value} {H : AH} {q : QT} {x y : Int32} (hc : ¬ y < x) (h : Rsq (go n (290, L, S, H, cs, ss)) q) : Rsq (go (n + 1) (270, L, (.int y :: .int x :: S), H, cs, ss)) q := by
  subst hgo
  exact res_of s0_270 (res_f hc h)
theorem t0_273 {go : GT} (hgo : go = R0 w vF) {n cs ss : Nat} {l0 l1 l2 l3 l4 l5 l6 l7 l8 l10 l11 l12 : Slot} {S : List Value} {H : AH} {q : QT} {v : Value} (hv : isA v = true) (h : Rsq (go n (275, [l0, l1, l2, l3, l4, l5, l6, l7, l8, .val v, l10, l11, l12], (v :: S), H, cs, ss)) q) : Rsq (go (n + 1) (273, [l0, l1, l2, l3, l4, l5, l6, l7, l8, .val v, l10, l11, l12], S, H, cs, ss)) q := by
  subst hgo
  refine res_of s0_273 ?_
  rw [gA_isA (L := [l0, l1, l2, l3, l4, l5, l6, l7, l8, .val v, l10, l11, l12]) (k := 9) (v := v) rfl hv]
  exact h
theorem t0_275 {go : GT} (hgo : go = R0 w vF) {n cs ss : Nat} {L : List Slot} {S : List Value} {H : AH} {q : QT} (h : Rsq (go n (277, L, (.int 9 :: S), H, cs, ss)) q) : Rsq (go (n + 1) (275, L, S, H, cs, ss)) q := by
  subst hgo
  exact res_of s0_275 h
theorem t0_277 {go : GT} (hgo : go = R0 w vF) {n cs ss : Nat} {l0 l1 l2 l3 l4 l5 l6 l8 l9 l10 l11 l12 : Slot} {S : List Value} {H : AH} {q : QT} {v : Value} (hv : isA v = true) (h : Rsq (go n (279, [l0, l1, l2, l3, l4, l5, l6, .val v, l8, l9, l10, l11, l12], (v :: S), H, cs, ss)) q) : Rsq (go (n + 1) (277, [l0, l1, l2, l3, l4, l5, l6, .val v, l8, l9, l10, l11, l12], S, H, cs, ss)) q := by
  subst hgo
  refine res_of s0_277 ?_
  rw [gA_isA (L := [l0, l1, l2, l3, l4, l5, l6, .val v, l8, l9, l10, l11, l12]) (k := 7) (v := v) rfl hv]
  exact h
theorem t0_279 {go : GT} (hgo : go = R0 w vF) {n cs ss : Nat} {L : List Slot} {S : List Value} {H : AH} {q : QT} (h : Rsq (go n (281, L, (.int 9 :: S), H, cs, ss)) q) : Rsq (go (n + 1) (279, L, S, H, cs, ss)) q := by
  subst hgo
  exact res_of s0_279 h
theorem t0_281 {go : GT} (hgo : go = R0 w vF) {n cs ss : Nat} {l0 l1 l3 l4 l5 l6 l7 l8 l9 l10 l11 l12 : Slot} {S : List Value} {H : AH} {q : QT} {v : Int32} (h : Rsq (go n (282, [l0, l1, .val (.int v), l3, l4, l5, l6, l7, l8, l9, l10, l11, l12], (.int v :: S), H, cs, ss)) q) : Rsq (go (n + 1) (281, [l0, l1, .val (.int v), l3, l4, l5, l6, l7, l8, l9, l10, l11, l12], S, H, cs, ss)) q := by
  subst hgo
  exact res_of s0_281 h
theorem t0_282 {go : GT} (hgo : go = R0 w vF) {n cs ss : Nat} {l0 l1 l2 l3 l5 l6 l7 l8 l9 l10 l11 l12 : Slot} {S : List Value} {H : AH} {q : QT} {v : Int32} (h : Rsq (go n (284, [l0, l1, l2, l3, .val (.int v), l5, l6, l7, l8, l9, l10, l11, l12], (.int v :: S), H, cs, ss)) q) : Rsq (go (n + 1) (282, [l0, l1, l2, l3, .val (.int v), l5, l6, l7, l8, l9, l10, l11, l12], S, H, cs, ss)) q := by
  subst hgo
  exact res_of s0_282 h
theorem t0_284 {go : GT} (hgo : go = R0 w vF) {n cs ss : Nat} {l0 l1 l2 l3 l4 l6 l7 l8 l9 l10 l11 l12 : Slot} {S : List Value} {H : AH} {q : QT} {v : Int32} (h : Rsq (go n (286, [l0, l1, l2, l3, l4, .val (.int v), l6, l7, l8, l9, l10, l11, l12], (.int v :: S), H, cs, ss)) q) : Rsq (go (n + 1) (284, [l0, l1, l2, l3, l4, .val (.int v), l6, l7, l8, l9, l10, l11, l12], S, H, cs, ss)) q := by
  subst hgo
  exact res_of s0_284 h
theorem u0_286 {go : GT} (hgo : go = R0 w vF) {n cs ss : Nat} {L : List Slot} {S : List Value} {H : AH} : go (n + 1) (286, L, S, H, cs, ss) = (aCall 5 6 32 4288 0 0 (F3 w vF) S H cs ss).bind fun r => go n (289, L, r.1, r.2.1, r.2.2.1, r.2.2.2) := by
  subst hgo
  exact s0_286
theorem u0_289 {go : GT} (hgo : go = R0 w vF) {n cs ss : Nat} {L : List Slot} {S : List Value} {H : AH} : go (n + 1) (289, L, S, H, cs, ss) = ex ret (E0 w vF) 25 (go n) (.castore) 289 L S H cs ss := by
  subst hgo
  exact s0_289
theorem t0_290 {go : GT} (hgo : go = R0 w vF) {n cs ss : Nat} {l0 l1 l2 l3 l4 l5 l6 l7 l9 l10 l11 l12 : Slot} {S : List Value} {H : AH} {q : QT} {v : Int32} (h : Rsq (go n (292, [l0, l1, l2, l3, l4, l5, l6, l7, .val (.int v), l9, l10, l11, l12], (.int v :: S), H, cs, ss)) q) : Rsq (go (n + 1) (290, [l0, l1, l2, l3, l4, l5, l6, l7, .val (.int v), l9, l10, l11, l12], S, H, cs, ss)) q := by
  subst hgo
  exact res_of s0_290 h
theorem t0_292 {go : GT} (hgo : go = R0 w vF) {n cs ss : Nat} {L : List Slot} {S : List Value} {H : AH} {q : QT} (h : Rsq (go n (294, L, (.int 10 :: S), H, cs, ss)) q) : Rsq (go (n + 1) (292, L, S, H, cs, ss)) q := by
  subst hgo
  exact res_of s0_292 h
theorem t0_294t {go : GT} (hgo : go = R0 w vF) {n cs ss : Nat} {L : List Slot} {S : List Value} {H : AH} {q : QT} {x y : Int32} (hc : y < x) (h : Rsq (go n (297, L, S, H, cs, ss)) q) : Rsq (go (n + 1) (294, L, (.int y :: .int x :: S), H, cs, ss)) q := by
  subst hgo
  exact res_of s0_294 (res_t hc h)
theorem t0_294f {go : GT} (hgo : go = R0 w vF) {n cs ss : Nat} {L : List Slot} {S : List Value} {H : AH} {q : QT} {x y : Int32} (hc : ¬ y < x) (h : Rsq (go n (314, L, S, H, cs, ss)) q) : Rsq (go (n + 1) (294, L, (.int y :: .int x :: S), H, cs, ss)) q := by
  subst hgo
  exact res_of s0_294 (res_f hc h)
theorem t0_297 {go : GT} (hgo : go = R0 w vF) {n cs ss : Nat} {l0 l1 l2 l3 l4 l5 l6 l7 l8 l10 l11 l12 : Slot} {S : List Value} {H : AH} {q : QT} {v : Value} (hv : isA v = true) (h : Rsq (go n (299, [l0, l1, l2, l3, l4, l5, l6, l7, l8, .val v, l10, l11, l12], (v :: S), H, cs, ss)) q) : Rsq (go (n + 1) (297, [l0, l1, l2, l3, l4, l5, l6, l7, l8, .val v, l10, l11, l12], S, H, cs, ss)) q := by
  subst hgo
  refine res_of s0_297 ?_
  rw [gA_isA (L := [l0, l1, l2, l3, l4, l5, l6, l7, l8, .val v, l10, l11, l12]) (k := 9) (v := v) rfl hv]
  exact h
theorem t0_299 {go : GT} (hgo : go = R0 w vF) {n cs ss : Nat} {L : List Slot} {S : List Value} {H : AH} {q : QT} (h : Rsq (go n (301, L, (.int 10 :: S), H, cs, ss)) q) : Rsq (go (n + 1) (299, L, S, H, cs, ss)) q := by
  subst hgo
  exact res_of s0_299 h
theorem t0_301 {go : GT} (hgo : go = R0 w vF) {n cs ss : Nat} {l0 l1 l2 l3 l4 l5 l6 l8 l9 l10 l11 l12 : Slot} {S : List Value} {H : AH} {q : QT} {v : Value} (hv : isA v = true) (h : Rsq (go n (303, [l0, l1, l2, l3, l4, l5, l6, .val v, l8, l9, l10, l11, l12], (v :: S), H, cs, ss)) q) : Rsq (go (n + 1) (301, [l0, l1, l2, l3, l4, l5, l6, .val v, l8, l9, l10, l11, l12], S, H, cs, ss)) q := by
  subst hgo
  refine res_of s0_301 ?_
  rw [gA_isA (L := [l0, l1, l2, l3, l4, l5, l6, .val v, l8, l9, l10, l11, l12]) (k := 7) (v := v) rfl hv]
  exact h
theorem t0_303 {go : GT} (hgo : go = R0 w vF) {n cs ss : Nat} {L : List Slot} {S : List Value} {H : AH} {q : QT} (h : Rsq (go n (305, L, (.int 10 :: S), H, cs, ss)) q) : Rsq (go (n + 1) (303, L, S, H, cs, ss)) q := by
  subst hgo
  exact res_of s0_303 h
theorem t0_305 {go : GT} (hgo : go = R0 w vF) {n cs ss : Nat} {l0 l1 l3 l4 l5 l6 l7 l8 l9 l10 l11 l12 : Slot} {S : List Value} {H : AH} {q : QT} {v : Int32} (h : Rsq (go n (306, [l0, l1, .val (.int v), l3, l4, l5, l6, l7, l8, l9, l10, l11, l12], (.int v :: S), H, cs, ss)) q) : Rsq (go (n + 1) (305, [l0, l1, .val (.int v), l3, l4, l5, l6, l7, l8, l9, l10, l11, l12], S, H, cs, ss)) q := by
  subst hgo
  exact res_of s0_305 h
theorem t0_306 {go : GT} (hgo : go = R0 w vF) {n cs ss : Nat} {l0 l1 l2 l3 l5 l6 l7 l8 l9 l10 l11 l12 : Slot} {S : List Value} {H : AH} {q : QT} {v : Int32} (h : Rsq (go n (308, [l0, l1, l2, l3, .val (.int v), l5, l6, l7, l8, l9, l10, l11, l12], (.int v :: S), H, cs, ss)) q) : Rsq (go (n + 1) (306, [l0, l1, l2, l3, .val (.int v), l5, l6, l7, l8, l9, l10, l11, l12], S, H, cs, ss)) q := by
  subst hgo
  exact res_of s0_306 h
theorem t0_308 {go : GT} (hgo : go = R0 w vF) {n cs ss : Nat} {l0 l1 l2 l3 l4 l6 l7 l8 l9 l10 l11 l12 : Slot} {S : List Value} {H : AH} {q : QT} {v : Int32} (h : Rsq (go n (310, [l0, l1, l2, l3, l4, .val (.int v), l6, l7, l8, l9, l10, l11, l12], (.int v :: S), H, cs, ss)) q) : Rsq (go (n + 1) (308, [l0, l1, l2, l3, l4, .val (.int v), l6, l7, l8, l9, l10, l11, l12], S, H, cs, ss)) q := by
  subst hgo
  exact res_of s0_308 h
theorem u0_310 {go : GT} (hgo : go = R0 w vF) {n cs ss : Nat} {L : List Slot} {S : List Value} {H : AH} : go (n + 1) (310, L, S, H, cs, ss) = (aCall 5 6 32 4288 0 0 (F3 w vF) S H cs ss).bind fun r => go n (313, L, r.1, r.2.1, r.2.2.1, r.2.2.2) := by
  subst hgo
  exact s0_310
theorem u0_313 {go : GT} (hgo : go = R0 w vF) {n cs ss : Nat} {L : List Slot} {S : List Value} {H : AH} : go (n + 1) (313, L, S, H, cs, ss) = ex ret (E0 w vF) 25 (go n) (.castore) 313 L S H cs ss := by
  subst hgo
  exact s0_313
theorem t0_314 {go : GT} (hgo : go = R0 w vF) {n cs ss : Nat} {l0 l2 l3 l4 l5 l6 l7 l8 l9 l10 l11 l12 : Slot} {S : List Value} {H : AH} {q : QT} {v : Int32} (h : Rsq (go n (315, [l0, .val (.int v), l2, l3, l4, l5, l6, l7, l8, l9, l10, l11, l12], (.int v :: S), H, cs, ss)) q) : Rsq (go (n + 1) (314, [l0, .val (.int v), l2, l3, l4, l5, l6, l7, l8, l9, l10, l11, l12], S, H, cs, ss)) q := by
  subst hgo
  exact res_of s0_314 h
theorem t0_315 {go : GT} (hgo : go = R0 w vF) {n cs ss : Nat} {L : List Slot} {S : List Value} {H : AH} {q : QT} (h : Rsq (go n (316, L, (.int 1 :: S), H, cs, ss)) q) : Rsq (go (n + 1) (315, L, S, H, cs, ss)) q := by
  subst hgo
  exact res_of s0_315 h
theorem t0_316 {go : GT} (hgo : go = R0 w vF) {n cs ss : Nat} {L : List Slot} {S : List Value} {H : AH} {q : QT} {x y : Int32} (h : Rsq (go n (317, L, (.int (x &&& y) :: S), H, cs, ss)) q) : Rsq (go (n + 1) (316, L, (.int y :: .int x :: S), H, cs, ss)) q := by
  subst hgo
  exact res_of s0_316 h
theorem t0_317t {go : GT} (hgo : go = R0 w vF) {n cs ss : Nat} {L : List Slot} {S : List Value} {H : AH} {q : QT} {x : Int32} (hc : x = 0) (h : Rsq (go n (346, L, S, H, cs, ss)) q) : Rsq (go (n + 1) (317, L, (.int x :: S), H, cs, ss)) q := by
  subst hgo
  exact res_of s0_317 (res_t hc h)
theorem t0_317f {go : GT} (hgo : go = R0 w vF) {n cs ss : Nat} {L : List Slot} {S : List Value} {H : AH} {q : QT} {x : Int32} (hc : ¬ x = 0) (h : Rsq (go n (320, L, S, H, cs, ss)) q) : Rsq (go (n + 1) (317, L, (.int x :: S), H, cs, ss)) q := by
  subst hgo
  exact res_of s0_317 (res_f hc h)
theorem t0_320 {go : GT} (hgo : go = R0 w vF) {n cs ss : Nat} {l0 l2 l3 l4 l5 l6 l7 l8 l9 l10 l11 l12 : Slot} {S : List Value} {H : AH} {q : QT} {v : Int32} (h : Rsq (go n (321, [l0, .val (.int v), l2, l3, l4, l5, l6, l7, l8, l9, l10, l11, l12], (.int v :: S), H, cs, ss)) q) : Rsq (go (n + 1) (320, [l0, .val (.int v), l2, l3, l4, l5, l6, l7, l8, l9, l10, l11, l12], S, H, cs, ss)) q := by
  subst hgo
  exact res_of s0_320 h
theorem t0_321 {go : GT} (hgo : go = R0 w vF) {n cs ss : Nat} {L : List Slot} {S : List Value} {H : AH} {q : QT} (h : Rsq (go n (322, L, (.int 1 :: S), H, cs, ss)) q) : Rsq (go (n + 1) (321, L, S, H, cs, ss)) q := by
  subst hgo
  exact res_of s0_321 h
theorem t0_322 {go : GT} (hgo : go = R0 w vF) {n cs ss : Nat} {L : List Slot} {S : List Value} {H : AH} {q : QT} {x y : Int32} (h : Rsq (go n (323, L, (.int ((x.toUInt32 >>> (y &&& 31).toUInt32).toInt32) :: S), H, cs, ss)) q) : Rsq (go (n + 1) (322, L, (.int y :: .int x :: S), H, cs, ss)) q := by
  subst hgo
  exact res_of s0_322 h
theorem t0_323 {go : GT} (hgo : go = R0 w vF) {n cs ss : Nat} {L : List Slot} {S : List Value} {H : AH} {q : QT} (h : Rsq (go n (325, L, (.int 11 :: S), H, cs, ss)) q) : Rsq (go (n + 1) (323, L, S, H, cs, ss)) q := by
  subst hgo
  exact res_of s0_323 h
theorem t0_325 {go : GT} (hgo : go = R0 w vF) {n cs ss : Nat} {L : List Slot} {S : List Value} {H : AH} {q : QT} {x y : Int32} (hz : ¬ y = 0) (h : Rsq (go n (326, L, (.int (x % y) :: S), H, cs, ss)) q) : Rsq (go (n + 1) (325, L, (.int y :: .int x :: S), H, cs, ss)) q := by
  subst hgo
  exact res_of s0_325 (res_f hz h)
theorem t0_326 {go : GT} (hgo : go = R0 w vF) {n cs ss : Nat} {l0 l1 l2 l3 l4 l5 l6 l7 l8 l9 l10 l11 l12 : Slot} {S : List Value} {H : AH} {q : QT} {x : Int32} (hk : so l10 = true) (h : Rsq (go n (328, [l0, l1, l2, l3, l4, l5, l6, l7, l8, l9, .val (.int x), l11, l12], S, H, cs, ss)) q) : Rsq (go (n + 1) (326, [l0, l1, l2, l3, l4, l5, l6, l7, l8, l9, l10, l11, l12], (.int x :: S), H, cs, ss)) q := by
  subst hgo
  refine res_of s0_326 ?_
  rw [pI_int, st1_so (L := [l0, l1, l2, l3, l4, l5, l6, l7, l8, l9, l10, l11, l12]) (k := 10) (l := l10) rfl hk]
  exact h
theorem t0_328 {go : GT} (hgo : go = R0 w vF) {n cs ss : Nat} {l0 l1 l2 l3 l4 l5 l6 l7 l8 l9 l11 l12 : Slot} {S : List Value} {H : AH} {q : QT} {v : Int32} (h : Rsq (go n (330, [l0, l1, l2, l3, l4, l5, l6, l7, l8, l9, .val (.int v), l11, l12], (.int v :: S), H, cs, ss)) q) : Rsq (go (n + 1) (328, [l0, l1, l2, l3, l4, l5, l6, l7, l8, l9, .val (.int v), l11, l12], S, H, cs, ss)) q := by
  subst hgo
  exact res_of s0_328 h
theorem t0_330 {go : GT} (hgo : go = R0 w vF) {n cs ss : Nat} {l0 l1 l2 l3 l4 l5 l6 l7 l9 l10 l11 l12 : Slot} {S : List Value} {H : AH} {q : QT} {v : Int32} (h : Rsq (go n (332, [l0, l1, l2, l3, l4, l5, l6, l7, .val (.int v), l9, l10, l11, l12], (.int v :: S), H, cs, ss)) q) : Rsq (go (n + 1) (330, [l0, l1, l2, l3, l4, l5, l6, l7, .val (.int v), l9, l10, l11, l12], S, H, cs, ss)) q := by
  subst hgo
  exact res_of s0_330 h
theorem t0_332t {go : GT} (hgo : go = R0 w vF) {n cs ss : Nat} {L : List Slot} {S : List Value} {H : AH} {q : QT} {x y : Int32} (hc : x < y) (h : Rsq (go n (335, L, S, H, cs, ss)) q) : Rsq (go (n + 1) (332, L, (.int y :: .int x :: S), H, cs, ss)) q := by
  subst hgo
  exact res_of s0_332 (res_t hc h)
theorem t0_332f {go : GT} (hgo : go = R0 w vF) {n cs ss : Nat} {L : List Slot} {S : List Value} {H : AH} {q : QT} {x y : Int32} (hc : ¬ x < y) (h : Rsq (go n (346, L, S, H, cs, ss)) q) : Rsq (go (n + 1) (332, L, (.int y :: .int x :: S), H, cs, ss)) q := by
  subst hgo
  exact res_of s0_332 (res_f hc h)
theorem t0_335 {go : GT} (hgo : go = R0 w vF) {n cs ss : Nat} {l0 l1 l2 l3 l4 l5 l6 l7 l8 l10 l11 l12 : Slot} {S : List Value} {H : AH} {q : QT} {v : Value} (hv : isA v = true) (h : Rsq (go n (337, [l0, l1, l2, l3, l4, l5, l6, l7, l8, .val v, l10, l11, l12], (v :: S), H, cs, ss)) q) : Rsq (go (n + 1) (335, [l0, l1, l2, l3, l4, l5, l6, l7, l8, .val v, l10, l11, l12], S, H, cs, ss)) q := by
  subst hgo
  refine res_of s0_335 ?_
  rw [gA_isA (L := [l0, l1, l2, l3, l4, l5, l6, l7, l8, .val v, l10, l11, l12]) (k := 9) (v := v) rfl hv]
  exact h
theorem t0_337 {go : GT} (hgo : go = R0 w vF) {n cs ss : Nat} {l0 l1 l2 l3 l4 l5 l6 l7 l8 l9 l11 l12 : Slot} {S : List Value} {H : AH} {q : QT} {v : Int32} (h : Rsq (go n (339, [l0, l1, l2, l3, l4, l5, l6, l7, l8, l9, .val (.int v), l11, l12], (.int v :: S), H, cs, ss)) q) : Rsq (go (n + 1) (337, [l0, l1, l2, l3, l4, l5, l6, l7, l8, l9, .val (.int v), l11, l12], S, H, cs, ss)) q := by
  subst hgo
  exact res_of s0_337 h
theorem t0_339 {go : GT} (hgo : go = R0 w vF) {n cs ss : Nat} {l0 l1 l3 l4 l5 l6 l7 l8 l9 l10 l11 l12 : Slot} {S : List Value} {H : AH} {q : QT} {v : Int32} (h : Rsq (go n (340, [l0, l1, .val (.int v), l3, l4, l5, l6, l7, l8, l9, l10, l11, l12], (.int v :: S), H, cs, ss)) q) : Rsq (go (n + 1) (339, [l0, l1, .val (.int v), l3, l4, l5, l6, l7, l8, l9, l10, l11, l12], S, H, cs, ss)) q := by
  subst hgo
  exact res_of s0_339 h
theorem t0_340 {go : GT} (hgo : go = R0 w vF) {n cs ss : Nat} {L : List Slot} {S : List Value} {H : AH} {q : QT} (h : Rsq (go n (343, L, (.int 255 :: S), H, cs, ss)) q) : Rsq (go (n + 1) (340, L, S, H, cs, ss)) q := by
  subst hgo
  exact res_of s0_340 h
theorem t0_343 {go : GT} (hgo : go = R0 w vF) {n cs ss : Nat} {L : List Slot} {S : List Value} {H : AH} {q : QT} {x y : Int32} (h : Rsq (go n (344, L, (.int (x &&& y) :: S), H, cs, ss)) q) : Rsq (go (n + 1) (343, L, (.int y :: .int x :: S), H, cs, ss)) q := by
  subst hgo
  exact res_of s0_343 h
theorem t0_344 {go : GT} (hgo : go = R0 w vF) {n cs ss : Nat} {L : List Slot} {S : List Value} {H : AH} {q : QT} {x : Int32} (h : Rsq (go n (345, L, (.int (x.toUInt32.toUInt16.toUInt32.toInt32) :: S), H, cs, ss)) q) : Rsq (go (n + 1) (344, L, (.int x :: S), H, cs, ss)) q := by
  subst hgo
  exact res_of s0_344 h
theorem u0_345 {go : GT} (hgo : go = R0 w vF) {n cs ss : Nat} {L : List Slot} {S : List Value} {H : AH} : go (n + 1) (345, L, S, H, cs, ss) = ex ret (E0 w vF) 25 (go n) (.castore) 345 L S H cs ss := by
  subst hgo
  exact s0_345
theorem u0_346 {go : GT} (hgo : go = R0 w vF) {n cs ss : Nat} {L : List Slot} {S : List Value} {H : AH} : go (n + 1) (346, L, S, H, cs, ss) = (aNew 0 4 32 4288 [.null, (.int 0)] S H cs ss).bind fun r => go n (349, L, r.1, r.2.1, r.2.2.1, r.2.2.2) := by
  subst hgo
  exact s0_346
theorem t0_349 {go : GT} (hgo : go = R0 w vF) {n cs ss : Nat} {L : List Slot} {S : List Value} {H : AH} {q : QT} {v : Value} (hv : isS v = true) (h : Rsq (go n (350, L, (v :: v :: S), H, cs, ss)) q) : Rsq (go (n + 1) (349, L, (v :: S), H, cs, ss)) q := by
  subst hgo
  refine res_of s0_349 ?_
  rw [ex_dup, p1_isS hv]
  exact h
theorem t0_350 {go : GT} (hgo : go = R0 w vF) {n cs ss : Nat} {l0 l1 l2 l3 l4 l5 l6 l7 l8 l10 l11 l12 : Slot} {S : List Value} {H : AH} {q : QT} {v : Value} (hv : isA v = true) (h : Rsq (go n (352, [l0, l1, l2, l3, l4, l5, l6, l7, l8, .val v, l10, l11, l12], (v :: S), H, cs, ss)) q) : Rsq (go (n + 1) (350, [l0, l1, l2, l3, l4, l5, l6, l7, l8, .val v, l10, l11, l12], S, H, cs, ss)) q := by
  subst hgo
  refine res_of s0_350 ?_
  rw [gA_isA (L := [l0, l1, l2, l3, l4, l5, l6, l7, l8, .val v, l10, l11, l12]) (k := 9) (v := v) rfl hv]
  exact h
theorem u0_352 {go : GT} (hgo : go = R0 w vF) {n cs ss : Nat} {L : List Slot} {S : List Value} {H : AH} : go (n + 1) (352, L, S, H, cs, ss) = if (fr3 H.length 21 L S [] && fr3 H.length 23 L S []) = true then (aRecv 1 0 6 32 4288 6 40 (F9 w vF) S H cs ss).bind fun r => go n (355, L, r.1, r.2.1, r.2.2.1, r.2.2.2) else none := by
  subst hgo
  exact s0_352
theorem t0_355 {go : GT} (hgo : go = R0 w vF) {n cs ss : Nat} {l0 l1 l2 l3 l4 l5 l6 l7 l8 l9 l10 l11 l12 : Slot} {S : List Value} {H : AH} {q : QT} {v : Value} (hv : isA v = true) (hk : so l10 = true) (h : Rsq (go n (357, [l0, l1, l2, l3, l4, l5, l6, l7, l8, l9, .val v, l11, l12], S, H, cs, ss)) q) : Rsq (go (n + 1) (355, [l0, l1, l2, l3, l4, l5, l6, l7, l8, l9, l10, l11, l12], (v :: S), H, cs, ss)) q := by
  subst hgo
  refine res_of s0_355 ?_
  rw [pA_isA hv, st1_so (L := [l0, l1, l2, l3, l4, l5, l6, l7, l8, l9, l10, l11, l12]) (k := 10) (l := l10) rfl hk]
  exact h
theorem t0_357 {go : GT} (hgo : go = R0 w vF) {n cs ss : Nat} {L : List Slot} {S : List Value} {H : AH} {q : QT} (h : Rsq (go n (358, L, (.null :: S), H, cs, ss)) q) : Rsq (go (n + 1) (357, L, S, H, cs, ss)) q := by
  subst hgo
  exact res_of s0_357 h
theorem t0_358 {go : GT} (hgo : go = R0 w vF) {n cs ss : Nat} {l0 l1 l2 l3 l4 l5 l6 l7 l8 l9 l10 l11 l12 : Slot} {S : List Value} {H : AH} {q : QT} {v : Value} (hv : isA v = true) (hk : so l11 = true) (h : Rsq (go n (360, [l0, l1, l2, l3, l4, l5, l6, l7, l8, l9, l10, .val v, l12], S, H, cs, ss)) q) : Rsq (go (n + 1) (358, [l0, l1, l2, l3, l4, l5, l6, l7, l8, l9, l10, l11, l12], (v :: S), H, cs, ss)) q := by
  subst hgo
  refine res_of s0_358 ?_
  rw [pA_isA hv, st1_so (L := [l0, l1, l2, l3, l4, l5, l6, l7, l8, l9, l10, l11, l12]) (k := 11) (l := l11) rfl hk]
  exact h
theorem t0_360 {go : GT} (hgo : go = R0 w vF) {n cs ss : Nat} {l0 l1 l2 l3 l4 l5 l6 l7 l8 l9 l11 l12 : Slot} {S : List Value} {H : AH} {q : QT} {v : Value} (hv : isA v = true) (h : Rsq (go n (362, [l0, l1, l2, l3, l4, l5, l6, l7, l8, l9, .val v, l11, l12], (v :: S), H, cs, ss)) q) : Rsq (go (n + 1) (360, [l0, l1, l2, l3, l4, l5, l6, l7, l8, l9, .val v, l11, l12], S, H, cs, ss)) q := by
  subst hgo
  refine res_of s0_360 ?_
  rw [gA_isA (L := [l0, l1, l2, l3, l4, l5, l6, l7, l8, l9, .val v, l11, l12]) (k := 10) (v := v) rfl hv]
  exact h
theorem u0_362 {go : GT} (hgo : go = R0 w vF) {n cs ss : Nat} {L : List Slot} {S : List Value} {H : AH} : go (n + 1) (362, L, S, H, cs, ss) = if fr3 H.length (slt H 9) L S H = true then (aLit 9 0 20 32 4288 [.int 101, .int 113, .int 117, .int 97, .int 108] S H cs ss).bind fun r => go n (364, L, r.1, r.2.1, r.2.2.1, r.2.2.2) else none := by
  subst hgo
  exact s0_362
theorem u0_364 {go : GT} (hgo : go = R0 w vF) {n cs ss : Nat} {L : List Slot} {S : List Value} {H : AH} : go (n + 1) (364, L, S, H, cs, ss) = (aRecv 1 0 6 32 4288 0 0 (F14 w vF) S H cs ss).bind fun r => go n (367, L, r.1, r.2.1, r.2.2.1, r.2.2.2) := by
  subst hgo
  exact s0_364
theorem t0_367t {go : GT} (hgo : go = R0 w vF) {n cs ss : Nat} {L : List Slot} {S : List Value} {H : AH} {q : QT} {x : Int32} (hc : x = 0) (h : Rsq (go n (378, L, S, H, cs, ss)) q) : Rsq (go (n + 1) (367, L, (.int x :: S), H, cs, ss)) q := by
  subst hgo
  exact res_of s0_367 (res_t hc h)
theorem t0_367f {go : GT} (hgo : go = R0 w vF) {n cs ss : Nat} {L : List Slot} {S : List Value} {H : AH} {q : QT} {x : Int32} (hc : ¬ x = 0) (h : Rsq (go n (370, L, S, H, cs, ss)) q) : Rsq (go (n + 1) (367, L, (.int x :: S), H, cs, ss)) q := by
  subst hgo
  exact res_of s0_367 (res_f hc h)
theorem u0_370 {go : GT} (hgo : go = R0 w vF) {n cs ss : Nat} {L : List Slot} {S : List Value} {H : AH} : go (n + 1) (370, L, S, H, cs, ss) = (aSta (.ref 0) S H cs ss).bind fun r => go n (373, L, r.1, r.2.1, r.2.2.1, r.2.2.2) := by
  subst hgo
  exact s0_370
theorem t0_373 {go : GT} (hgo : go = R0 w vF) {n cs ss : Nat} {l0 l1 l2 l3 l4 l5 l6 l7 l8 l9 l10 l11 l12 : Slot} {S : List Value} {H : AH} {q : QT} {v : Value} (hv : isA v = true) (hk : so l11 = true) (h : Rsq (go n (375, [l0, l1, l2, l3, l4, l5, l6, l7, l8, l9, l10, .val v, l12], S, H, cs, ss)) q) : Rsq (go (n + 1) (373, [l0, l1, l2, l3, l4, l5, l6, l7, l8, l9, l10, l11, l12], (v :: S), H, cs, ss)) q := by
  subst hgo
  refine res_of s0_373 ?_
  rw [pA_isA hv, st1_so (L := [l0, l1, l2, l3, l4, l5, l6, l7, l8, l9, l10, l11, l12]) (k := 11) (l := l11) rfl hk]
  exact h
theorem t0_375 {go : GT} (hgo : go = R0 w vF) {n cs ss : Nat} {L : List Slot} {S : List Value} {H : AH} {q : QT} (h : Rsq (go n (393, L, S, H, cs, ss)) q) : Rsq (go (n + 1) (375, L, S, H, cs, ss)) q := by
  subst hgo
  exact res_of s0_375 h
theorem t0_378 {go : GT} (hgo : go = R0 w vF) {n cs ss : Nat} {l0 l1 l2 l3 l4 l5 l6 l7 l8 l9 l11 l12 : Slot} {S : List Value} {H : AH} {q : QT} {v : Value} (hv : isA v = true) (h : Rsq (go n (380, [l0, l1, l2, l3, l4, l5, l6, l7, l8, l9, .val v, l11, l12], (v :: S), H, cs, ss)) q) : Rsq (go (n + 1) (378, [l0, l1, l2, l3, l4, l5, l6, l7, l8, l9, .val v, l11, l12], S, H, cs, ss)) q := by
  subst hgo
  refine res_of s0_378 ?_
  rw [gA_isA (L := [l0, l1, l2, l3, l4, l5, l6, l7, l8, l9, .val v, l11, l12]) (k := 10) (v := v) rfl hv]
  exact h
theorem u0_380 {go : GT} (hgo : go = R0 w vF) {n cs ss : Nat} {L : List Slot} {S : List Value} {H : AH} : go (n + 1) (380, L, S, H, cs, ss) = if fr3 H.length (slt H 13) L S H = true then (aLit 13 0 40 32 4288 [.int 108, .int 111, .int 103, .int 45, .int 100, .int 101, .int 103, .int 114, .int 101, .int 101] S H cs ss).bind fun r => go n (382, L, r.1, r.2.1, r.2.2.1, r.2.2.2) else none := by
  subst hgo
  exact s0_380
theorem u0_382 {go : GT} (hgo : go = R0 w vF) {n cs ss : Nat} {L : List Slot} {S : List Value} {H : AH} : go (n + 1) (382, L, S, H, cs, ss) = (aRecv 1 0 6 32 4288 0 0 (F14 w vF) S H cs ss).bind fun r => go n (385, L, r.1, r.2.1, r.2.2.1, r.2.2.2) := by
  subst hgo
  exact s0_382
theorem t0_385t {go : GT} (hgo : go = R0 w vF) {n cs ss : Nat} {L : List Slot} {S : List Value} {H : AH} {q : QT} {x : Int32} (hc : x = 0) (h : Rsq (go n (393, L, S, H, cs, ss)) q) : Rsq (go (n + 1) (385, L, (.int x :: S), H, cs, ss)) q := by
  subst hgo
  exact res_of s0_385 (res_t hc h)
theorem t0_385f {go : GT} (hgo : go = R0 w vF) {n cs ss : Nat} {L : List Slot} {S : List Value} {H : AH} {q : QT} {x : Int32} (hc : ¬ x = 0) (h : Rsq (go n (388, L, S, H, cs, ss)) q) : Rsq (go (n + 1) (385, L, (.int x :: S), H, cs, ss)) q := by
  subst hgo
  exact res_of s0_385 (res_f hc h)
theorem u0_388 {go : GT} (hgo : go = R0 w vF) {n cs ss : Nat} {L : List Slot} {S : List Value} {H : AH} : go (n + 1) (388, L, S, H, cs, ss) = (aSta (.ref 1) S H cs ss).bind fun r => go n (391, L, r.1, r.2.1, r.2.2.1, r.2.2.2) := by
  subst hgo
  exact s0_388
theorem t0_391 {go : GT} (hgo : go = R0 w vF) {n cs ss : Nat} {l0 l1 l2 l3 l4 l5 l6 l7 l8 l9 l10 l11 l12 : Slot} {S : List Value} {H : AH} {q : QT} {v : Value} (hv : isA v = true) (hk : so l11 = true) (h : Rsq (go n (393, [l0, l1, l2, l3, l4, l5, l6, l7, l8, l9, l10, .val v, l12], S, H, cs, ss)) q) : Rsq (go (n + 1) (391, [l0, l1, l2, l3, l4, l5, l6, l7, l8, l9, l10, l11, l12], (v :: S), H, cs, ss)) q := by
  subst hgo
  refine res_of s0_391 ?_
  rw [pA_isA hv, st1_so (L := [l0, l1, l2, l3, l4, l5, l6, l7, l8, l9, l10, l11, l12]) (k := 11) (l := l11) rfl hk]
  exact h
theorem t0_393 {go : GT} (hgo : go = R0 w vF) {n cs ss : Nat} {l0 l1 l2 l3 l4 l5 l6 l7 l8 l9 l11 l12 : Slot} {S : List Value} {H : AH} {q : QT} {v : Value} (hv : isA v = true) (h : Rsq (go n (395, [l0, l1, l2, l3, l4, l5, l6, l7, l8, l9, .val v, l11, l12], (v :: S), H, cs, ss)) q) : Rsq (go (n + 1) (393, [l0, l1, l2, l3, l4, l5, l6, l7, l8, l9, .val v, l11, l12], S, H, cs, ss)) q := by
  subst hgo
  refine res_of s0_393 ?_
  rw [gA_isA (L := [l0, l1, l2, l3, l4, l5, l6, l7, l8, l9, .val v, l11, l12]) (k := 10) (v := v) rfl hv]
  exact h
theorem u0_395 {go : GT} (hgo : go = R0 w vF) {n cs ss : Nat} {L : List Slot} {S : List Value} {H : AH} : go (n + 1) (395, L, S, H, cs, ss) = (aCall 1 6 32 4288 2 10 (F16 w vF) S H cs ss).bind fun r => go n (398, L, r.1, r.2.1, r.2.2.1, r.2.2.2) := by
  subst hgo
  exact s0_395
theorem t0_398 {go : GT} (hgo : go = R0 w vF) {n cs ss : Nat} {l0 l1 l2 l3 l4 l5 l6 l7 l8 l9 l10 l11 l12 : Slot} {S : List Value} {H : AH} {q : QT} {v : Value} (hv : isA v = true) (hk : so l12 = true) (h : Rsq (go n (400, [l0, l1, l2, l3, l4, l5, l6, l7, l8, l9, l10, l11, .val v], S, H, cs, ss)) q) : Rsq (go (n + 1) (398, [l0, l1, l2, l3, l4, l5, l6, l7, l8, l9, l10, l11, l12], (v :: S), H, cs, ss)) q := by
  subst hgo
  refine res_of s0_398 ?_
  rw [pA_isA hv, st1_so (L := [l0, l1, l2, l3, l4, l5, l6, l7, l8, l9, l10, l11, l12]) (k := 12) (l := l12) rfl hk]
  exact h
theorem t0_400 {go : GT} (hgo : go = R0 w vF) {n cs ss : Nat} {l0 l1 l2 l3 l4 l5 l6 l7 l8 l9 l10 l12 : Slot} {S : List Value} {H : AH} {q : QT} {v : Value} (hv : isA v = true) (h : Rsq (go n (402, [l0, l1, l2, l3, l4, l5, l6, l7, l8, l9, l10, .val v, l12], (v :: S), H, cs, ss)) q) : Rsq (go (n + 1) (400, [l0, l1, l2, l3, l4, l5, l6, l7, l8, l9, l10, .val v, l12], S, H, cs, ss)) q := by
  subst hgo
  refine res_of s0_400 ?_
  rw [gA_isA (L := [l0, l1, l2, l3, l4, l5, l6, l7, l8, l9, l10, .val v, l12]) (k := 11) (v := v) rfl hv]
  exact h
theorem t0_402t {go : GT} (hgo : go = R0 w vF) {n cs ss : Nat} {L : List Slot} {S : List Value} {H : AH} {q : QT} (h : Rsq (go n (405, L, S, H, cs, ss)) q) : Rsq (go (n + 1) (402, L, (.null :: S), H, cs, ss)) q := by
  subst hgo
  refine res_of s0_402 ?_
  simp only [nr_i, nr_j, nr_a, nr_o, nr_b, nr_b1, nr_b0, ft_i, ft_j, ft_a, ft_o, ft_b, ft_b1, ft_b0, rV_nil, b_1, b_0, b_1r, b_0r, b_bb, b_and, i_10, i_01, eq_self, iff_self, not_true_eq_false, not_false_eq_true, ite_not, cat_int, cat_long, cat_ref, cat_null, and11, and01, Nat.reduceAdd, Nat.reduceSub, Nat.reduceMul, Nat.reduceLT, Nat.reduceLeDiff, Nat.reduceEqDiff, Int32.reduceAdd, Int32.reduceSub, Int32.reduceMul, Int32.reduceMod, Int32.reduceLT, Int32.reduceLE, Int32.reduceToNatClampNeg, Int64.reduceAdd, Int64.reduceSub, Int64.reduceLT, Nat.le_refl, Nat.zero_add, Nat.add_zero, and_self, Option.bind_some, Option.bind_none, gI, gL, gA, st1, st2, pI_int, pL_long, pA_ref, pA_null, pR_ref, p1_int, p1_ref, p1_null, ex_ishl, ex_ishr, ex_iushr, ex_idiv, ex_irem, ex_ineg, ex_i2b, ex_i2c, ex_i2s, ex_i2l, ex_l2i, ex_lneg, ex_lshl, ex_lshr, ex_lushr, ex_ldiv, ex_lrem, ex_lcmp, ex_dup, ex_pop, ex_dup_x1, ex_dup2, ex_ifnull, ex_ifnonnull, ex_if_acmp, ex_arraylength, ex_iaload, ex_baload, ex_caload, ex_laload, ex_aaload, ex_iastore, ex_bastore, ex_castore, ex_lastore, ex_ldc, ex_ldc_w, ex_ldc2_w, ex_getfield, ex_putfield, ex_getstatic, ex_new, ex_invokestatic, ex_invokespecial, ex_invokevirtual, ex_checkcast, ex_instanceof, ex_anewarray, ex_newarray, ex_ireturn, ex_lreturn, ex_areturn, ex_return, br_d, br_n, br_t, br_f, spc, look, aI, aJ, aGet, aPut, aNew, aArr, aObj, aCall, aRecv, obj, arr, ald, ast, astL, isT, isBZ, atn, refEq, acV, List.getElem?_cons_zero, List.getElem?_cons_succ, List.set_cons_zero, List.set_cons_succ, List.take_succ_cons, List.take_zero, List.drop_succ_cons, List.drop_zero, List.reverse_cons, List.reverse_nil, List.nil_append, List.cons_append, List.map_cons, List.map_nil, List.sum_cons, List.sum_nil, List.length_cons, List.length_nil, Option.toList_some, Option.toList_none, List.append_nil, true_and, and_true, not_false_eq_true, decide_true, decide_false, Bool.not_true, Bool.not_false, if_true, if_false, reduceIte, Option.map_some, nar, defaultValue, List.replicate_zero, List.replicate_succ, ln0, ln1, ln2, ln3, ln4, ln5, ln6, ln7, ln8, ln9, ln10, ln11, ln12, ln13, ln14, ln15, ln16, ln17, ln18, ln19, ln20, ln21, ln22, ln23, ln24, ln25, ln26, ln27, ln28, ln29, ln30, ln31, ln32, ln33, ln34, ln35, ln36, aSta]
  exact h
theorem t0_402f {go : GT} (hgo : go = R0 w vF) {n cs ss : Nat} {L : List Slot} {S : List Value} {H : AH} {q : QT} {a : Nat} (h : Rsq (go n (419, L, S, H, cs, ss)) q) : Rsq (go (n + 1) (402, L, (.ref a :: S), H, cs, ss)) q := by
  subst hgo
  refine res_of s0_402 ?_
  simp only [nr_i, nr_j, nr_a, nr_o, nr_b, nr_b1, nr_b0, ft_i, ft_j, ft_a, ft_o, ft_b, ft_b1, ft_b0, rV_nil, b_1, b_0, b_1r, b_0r, b_bb, b_and, i_10, i_01, eq_self, iff_self, not_true_eq_false, not_false_eq_true, ite_not, cat_int, cat_long, cat_ref, cat_null, and11, and01, Nat.reduceAdd, Nat.reduceSub, Nat.reduceMul, Nat.reduceLT, Nat.reduceLeDiff, Nat.reduceEqDiff, Int32.reduceAdd, Int32.reduceSub, Int32.reduceMul, Int32.reduceMod, Int32.reduceLT, Int32.reduceLE, Int32.reduceToNatClampNeg, Int64.reduceAdd, Int64.reduceSub, Int64.reduceLT, Nat.le_refl, Nat.zero_add, Nat.add_zero, and_self, Option.bind_some, Option.bind_none, gI, gL, gA, st1, st2, pI_int, pL_long, pA_ref, pA_null, pR_ref, p1_int, p1_ref, p1_null, ex_ishl, ex_ishr, ex_iushr, ex_idiv, ex_irem, ex_ineg, ex_i2b, ex_i2c, ex_i2s, ex_i2l, ex_l2i, ex_lneg, ex_lshl, ex_lshr, ex_lushr, ex_ldiv, ex_lrem, ex_lcmp, ex_dup, ex_pop, ex_dup_x1, ex_dup2, ex_ifnull, ex_ifnonnull, ex_if_acmp, ex_arraylength, ex_iaload, ex_baload, ex_caload, ex_laload, ex_aaload, ex_iastore, ex_bastore, ex_castore, ex_lastore, ex_ldc, ex_ldc_w, ex_ldc2_w, ex_getfield, ex_putfield, ex_getstatic, ex_new, ex_invokestatic, ex_invokespecial, ex_invokevirtual, ex_checkcast, ex_instanceof, ex_anewarray, ex_newarray, ex_ireturn, ex_lreturn, ex_areturn, ex_return, br_d, br_n, br_t, br_f, spc, look, aI, aJ, aGet, aPut, aNew, aArr, aObj, aCall, aRecv, obj, arr, ald, ast, astL, isT, isBZ, atn, refEq, acV, List.getElem?_cons_zero, List.getElem?_cons_succ, List.set_cons_zero, List.set_cons_succ, List.take_succ_cons, List.take_zero, List.drop_succ_cons, List.drop_zero, List.reverse_cons, List.reverse_nil, List.nil_append, List.cons_append, List.map_cons, List.map_nil, List.sum_cons, List.sum_nil, List.length_cons, List.length_nil, Option.toList_some, Option.toList_none, List.append_nil, true_and, and_true, not_false_eq_true, decide_true, decide_false, Bool.not_true, Bool.not_false, if_true, if_false, reduceIte, Option.map_some, nar, defaultValue, List.replicate_zero, List.replicate_succ, ln0, ln1, ln2, ln3, ln4, ln5, ln6, ln7, ln8, ln9, ln10, ln11, ln12, ln13, ln14, ln15, ln16, ln17, ln18, ln19, ln20, ln21, ln22, ln23, ln24, ln25, ln26, ln27, ln28, ln29, ln30, ln31, ln32, ln33, ln34, ln35, ln36, aSta]
  exact h
theorem t0_405 {go : GT} (hgo : go = R0 w vF) {n cs ss : Nat} {l0 l1 l2 l3 l4 l5 l6 l7 l8 l9 l10 l11 : Slot} {S : List Value} {H : AH} {q : QT} {v : Value} (hv : isA v = true) (h : Rsq (go n (407, [l0, l1, l2, l3, l4, l5, l6, l7, l8, l9, l10, l11, .val v], (v :: S), H, cs, ss)) q) : Rsq (go (n + 1) (405, [l0, l1, l2, l3, l4, l5, l6, l7, l8, l9, l10, l11, .val v], S, H, cs, ss)) q := by
  subst hgo
  refine res_of s0_405 ?_
  rw [gA_isA (L := [l0, l1, l2, l3, l4, l5, l6, l7, l8, l9, l10, l11, .val v]) (k := 12) (v := v) rfl hv]
  exact h
theorem u0_407 {go : GT} (hgo : go = R0 w vF) {n cs ss : Nat} {L : List Slot} {S : List Value} {H : AH} : go (n + 1) (407, L, S, H, cs, ss) = (aRecv 0 1 6 32 4288 0 0 (F19 w vF) S H cs ss).bind fun r => go n (410, L, r.1, r.2.1, r.2.2.1, r.2.2.2) := by
  subst hgo
  exact s0_407
theorem t0_410t {go : GT} (hgo : go = R0 w vF) {n cs ss : Nat} {L : List Slot} {S : List Value} {H : AH} {q : QT} {x : Int32} (hc : x = 0) (h : Rsq (go n (413, L, S, H, cs, ss)) q) : Rsq (go (n + 1) (410, L, (.int x :: S), H, cs, ss)) q := by
  subst hgo
  exact res_of s0_410 (res_t hc h)
theorem t0_413 {go : GT} (hgo : go = R0 w vF) {n cs ss : Nat} {L : List Slot} {S : List Value} {H : AH} {q : QT} (h : Rsq (go n (414, L, (.int 1 :: S), H, cs, ss)) q) : Rsq (go (n + 1) (413, L, S, H, cs, ss)) q := by
  subst hgo
  exact res_of s0_413 h
theorem t0_414 {go : GT} (hgo : go = R0 w vF) {n cs ss : Nat} {L : List Slot} {S : List Value} {H : AH} {q : QT} (h : Rsq (go n (418, L, S, H, cs, ss)) q) : Rsq (go (n + 1) (414, L, S, H, cs, ss)) q := by
  subst hgo
  exact res_of s0_414 h
theorem t0_418 {go : GT} (hgo : go = R0 w vF) {n cs ss : Nat} {L : List Slot} {S : List Value} {H : AH} {q : QT} {z : Int32} (h : q (some (some (.int (z &&& 1)), H))) : Rsq (go (n + 1) (418, L, (.int z :: S), H, cs, ss)) q := by
  subst hgo
  exact res_of s0_418 h
theorem t0_419 {go : GT} (hgo : go = R0 w vF) {n cs ss : Nat} {l0 l1 l2 l3 l4 l5 l6 l7 l8 l9 l10 l11 : Slot} {S : List Value} {H : AH} {q : QT} {v : Value} (hv : isA v = true) (h : Rsq (go n (421, [l0, l1, l2, l3, l4, l5, l6, l7, l8, l9, l10, l11, .val v], (v :: S), H, cs, ss)) q) : Rsq (go (n + 1) (419, [l0, l1, l2, l3, l4, l5, l6, l7, l8, l9, l10, l11, .val v], S, H, cs, ss)) q := by
  subst hgo
  refine res_of s0_419 ?_
  rw [gA_isA (L := [l0, l1, l2, l3, l4, l5, l6, l7, l8, l9, l10, l11, .val v]) (k := 12) (v := v) rfl hv]
  exact h
theorem u0_421 {go : GT} (hgo : go = R0 w vF) {n cs ss : Nat} {L : List Slot} {S : List Value} {H : AH} : go (n + 1) (421, L, S, H, cs, ss) = (aRecv 0 1 6 32 4288 0 0 (F19 w vF) S H cs ss).bind fun r => go n (424, L, r.1, r.2.1, r.2.2.1, r.2.2.2) := by
  subst hgo
  exact s0_421
theorem t0_424f {go : GT} (hgo : go = R0 w vF) {n cs ss : Nat} {L : List Slot} {S : List Value} {H : AH} {q : QT} {x : Int32} (hc : ¬ x = 0) (h : Rsq (go n (427, L, S, H, cs, ss)) q) : Rsq (go (n + 1) (424, L, (.int x :: S), H, cs, ss)) q := by
  subst hgo
  exact res_of s0_424 (res_f hc h)
theorem t0_427 {go : GT} (hgo : go = R0 w vF) {n cs ss : Nat} {l0 l1 l2 l3 l4 l5 l6 l7 l8 l9 l10 l11 : Slot} {S : List Value} {H : AH} {q : QT} {v : Value} (hv : isA v = true) (h : Rsq (go n (429, [l0, l1, l2, l3, l4, l5, l6, l7, l8, l9, l10, l11, .val v], (v :: S), H, cs, ss)) q) : Rsq (go (n + 1) (427, [l0, l1, l2, l3, l4, l5, l6, l7, l8, l9, l10, l11, .val v], S, H, cs, ss)) q := by
  subst hgo
  refine res_of s0_427 ?_
  rw [gA_isA (L := [l0, l1, l2, l3, l4, l5, l6, l7, l8, l9, l10, l11, .val v]) (k := 12) (v := v) rfl hv]
  exact h
theorem u0_429 {go : GT} (hgo : go = R0 w vF) {n cs ss : Nat} {L : List Slot} {S : List Value} {H : AH} : go (n + 1) (429, L, S, H, cs, ss) = (aRecv 0 1 6 32 4288 0 0 (F23 w vF) S H cs ss).bind fun r => go n (432, L, r.1, r.2.1, r.2.2.1, r.2.2.2) := by
  subst hgo
  exact s0_429
theorem t0_432 {go : GT} (hgo : go = R0 w vF) {n cs ss : Nat} {l0 l1 l2 l3 l4 l5 l6 l7 l8 l9 l10 l12 : Slot} {S : List Value} {H : AH} {q : QT} {v : Value} (hv : isA v = true) (h : Rsq (go n (434, [l0, l1, l2, l3, l4, l5, l6, l7, l8, l9, l10, .val v, l12], (v :: S), H, cs, ss)) q) : Rsq (go (n + 1) (432, [l0, l1, l2, l3, l4, l5, l6, l7, l8, l9, l10, .val v, l12], S, H, cs, ss)) q := by
  subst hgo
  refine res_of s0_432 ?_
  rw [gA_isA (L := [l0, l1, l2, l3, l4, l5, l6, l7, l8, l9, l10, .val v, l12]) (k := 11) (v := v) rfl hv]
  exact h
theorem t0_434t {go : GT} (hgo : go = R0 w vF) {n cs ss : Nat} {L : List Slot} {S : List Value} {H : AH} {q : QT} {a b : Nat} (hc : a = b) (ho : okc 25 (.ref a) (.ref b) = true) (h : Rsq (go n (437, L, S, H, cs, ss)) q) : Rsq (go (n + 1) (434, L, (.ref b :: .ref a :: S), H, cs, ss)) q := by
  subst hgo
  subst hc
  refine res_of s0_434 ?_
  simp only [nr_i, nr_j, nr_a, nr_o, nr_b, nr_b1, nr_b0, ft_i, ft_j, ft_a, ft_o, ft_b, ft_b1, ft_b0, rV_nil, b_1, b_0, b_1r, b_0r, b_bb, b_and, i_10, i_01, eq_self, iff_self, not_true_eq_false, not_false_eq_true, ite_not, cat_int, cat_long, cat_ref, cat_null, and11, and01, Nat.reduceAdd, Nat.reduceSub, Nat.reduceMul, Nat.reduceLT, Nat.reduceLeDiff, Nat.reduceEqDiff, Int32.reduceAdd, Int32.reduceSub, Int32.reduceMul, Int32.reduceMod, Int32.reduceLT, Int32.reduceLE, Int32.reduceToNatClampNeg, Int64.reduceAdd, Int64.reduceSub, Int64.reduceLT, Nat.le_refl, Nat.zero_add, Nat.add_zero, and_self, Option.bind_some, Option.bind_none, gI, gL, gA, st1, st2, pI_int, pL_long, pA_ref, pA_null, pR_ref, p1_int, p1_ref, p1_null, ex_ishl, ex_ishr, ex_iushr, ex_idiv, ex_irem, ex_ineg, ex_i2b, ex_i2c, ex_i2s, ex_i2l, ex_l2i, ex_lneg, ex_lshl, ex_lshr, ex_lushr, ex_ldiv, ex_lrem, ex_lcmp, ex_dup, ex_pop, ex_dup_x1, ex_dup2, ex_ifnull, ex_ifnonnull, ex_if_acmp, ex_arraylength, ex_iaload, ex_baload, ex_caload, ex_laload, ex_aaload, ex_iastore, ex_bastore, ex_castore, ex_lastore, ex_ldc, ex_ldc_w, ex_ldc2_w, ex_getfield, ex_putfield, ex_getstatic, ex_new, ex_invokestatic, ex_invokespecial, ex_invokevirtual, ex_checkcast, ex_instanceof, ex_anewarray, ex_newarray, ex_ireturn, ex_lreturn, ex_areturn, ex_return, br_d, br_n, br_t, br_f, spc, look, aI, aJ, aGet, aPut, aNew, aArr, aObj, aCall, aRecv, obj, arr, ald, ast, astL, isT, isBZ, atn, refEq, acV, List.getElem?_cons_zero, List.getElem?_cons_succ, List.set_cons_zero, List.set_cons_succ, List.take_succ_cons, List.take_zero, List.drop_succ_cons, List.drop_zero, List.reverse_cons, List.reverse_nil, List.nil_append, List.cons_append, List.map_cons, List.map_nil, List.sum_cons, List.sum_nil, List.length_cons, List.length_nil, Option.toList_some, Option.toList_none, List.append_nil, true_and, and_true, not_false_eq_true, decide_true, decide_false, Bool.not_true, Bool.not_false, if_true, if_false, reduceIte, Option.map_some, nar, defaultValue, List.replicate_zero, List.replicate_succ, ln0, ln1, ln2, ln3, ln4, ln5, ln6, ln7, ln8, ln9, ln10, ln11, ln12, ln13, ln14, ln15, ln16, ln17, ln18, ln19, ln20, ln21, ln22, ln23, ln24, ln25, ln26, ln27, ln28, ln29, ln30, ln31, ln32, ln33, ln34, ln35, ln36, aSta, ho]
  exact h
theorem t0_437 {go : GT} (hgo : go = R0 w vF) {n cs ss : Nat} {L : List Slot} {S : List Value} {H : AH} {q : QT} (h : Rsq (go n (438, L, (.int 1 :: S), H, cs, ss)) q) : Rsq (go (n + 1) (437, L, S, H, cs, ss)) q := by
  subst hgo
  exact res_of s0_437 h
theorem t0_438 {go : GT} (hgo : go = R0 w vF) {n cs ss : Nat} {L : List Slot} {S : List Value} {H : AH} {q : QT} (h : Rsq (go n (442, L, S, H, cs, ss)) q) : Rsq (go (n + 1) (438, L, S, H, cs, ss)) q := by
  subst hgo
  exact res_of s0_438 h
theorem t0_442 {go : GT} (hgo : go = R0 w vF) {n cs ss : Nat} {L : List Slot} {S : List Value} {H : AH} {q : QT} {z : Int32} (h : q (some (some (.int (z &&& 1)), H))) : Rsq (go (n + 1) (442, L, (.int z :: S), H, cs, ss)) q := by
  subst hgo
  exact res_of s0_442 h
theorem qb_6 : (Int8.ofInt 6).toInt32 = 6 := by decide
theorem qb_7 : (Int8.ofInt 7).toInt32 = 7 := by decide
theorem qb_8 : (Int8.ofInt 8).toInt32 = 8 := by decide
theorem qb_9 : (Int8.ofInt 9).toInt32 = 9 := by decide
theorem qb_10 : (Int8.ofInt 10).toInt32 = 10 := by decide
theorem qb_11 : (Int8.ofInt 11).toInt32 = 11 := by decide
theorem qb_12 : (Int8.ofInt 12).toInt32 = 12 := by decide
theorem qb_31 : (Int8.ofInt 31).toInt32 = 31 := by decide
theorem qc_0 : Int32.ofInt 0 = 0 := by decide
theorem qc_1 : Int32.ofInt 1 = 1 := by decide
theorem qc_2 : Int32.ofInt 2 = 2 := by decide
theorem qc_3 : Int32.ofInt 3 = 3 := by decide
theorem qc_4 : Int32.ofInt 4 = 4 := by decide
theorem qc_5 : Int32.ofInt 5 = 5 := by decide
theorem qs_255 : (Int16.ofInt 255).toInt32 = 255 := by decide
-- BASE END
def H0 : AH := [.inl (2, [.ref 3]), .inl (2, [.ref 5]), .inr (.object "com/example/mithi/mithi/importer/EdgeWeighting$Scheme", [.ref 0, .ref 1]), .inl (0, [.ref 4, .int 0]), .inr (.byte, [.int 101, .int 113, .int 117, .int 97, .int 108]), .inl (0, [.ref 6, .int 0]), .inr (.byte, [.int 108, .int 111, .int 103, .int 45, .int 100, .int 101, .int 103, .int 114, .int 101, .int 101]), .inl (1, [.null]), opq, opq, opq, opq, opq, opq, opq, opq, opq, opq, opq, opq, opq, opq, opq, opq, opq]
theorem ap {H T : AH} {k : Nat} {o : Ob} (h : H[k]? = some o) : (H ++ T)[k]? = some o := by
  rw [List.getElem?_append_left (List.getElem?_eq_some_iff.mp h).1]; exact h
theorem nw {H : AH} {o : Ob} : (H ++ [o])[H.length]? = some o := by simp
theorem st_ne {H : AH} {k j : Nat} {o o' : Ob} (h : H[k]? = some o) (ne : j ≠ k) : (H.set j o')[k]? = some o := by rw [List.getElem?_set_ne ne]; exact h
theorem st_se {H : AH} {k : Nat} {o o' : Ob} (h : H[k]? = some o) : (H.set k o')[k]? = some o' := by rw [List.getElem?_set_self (List.getElem?_eq_some_iff.mp h).1]
theorem lt_of {x y : Int32} {a b : Int} (hx : x.toInt = a) (hy : y.toInt = b) (h : a < b) : x < y := by
  rw [Int32.lt_iff_toInt_lt]; omega
theorem nlt_of {x y : Int32} {a b : Int} (hx : x.toInt = a) (hy : y.toInt = b) (h : ¬ a < b) : ¬ x < y := by
  rw [Int32.lt_iff_toInt_lt]; omega
def chr (x : Int32) : Int32 := x.toUInt32.toUInt16.toUInt32.toInt32
def Chr (c : Int32) : Prop := 0 ≤ c.toInt ∧ c.toInt ≤ 255
theorem own_fin {u : Int32} (h : Chr u) : ∃ k : Fin 256, u = Int32.ofNat k.1 := by
  have h1 := h.1
  have h2 := h.2
  refine ⟨⟨u.toInt.toNat, by omega⟩, ?_⟩
  show u = Int32.ofNat u.toInt.toNat
  rw [← Int32.toInt_inj, Int32.toInt_ofNat_small (by omega)]; omega
theorem chr_k : ∀ k : Fin 256, chr (Int32.ofNat k.1) = Int32.ofNat k.1 := by decide +kernel
theorem chr_id {u : Int32} (h : Chr u) : chr u = u := by
  obtain ⟨k, rfl⟩ := own_fin h; exact chr_k k
theorem chr_and (x : Int32) : Chr (x &&& 255) := by
  have := c_and x 255 (by decide)
  have e : (255 : Int32).toInt = 255 := by decide
  exact ⟨this.1, by omega⟩
theorem chr_1 (x : Int32) : Chr (chr (x &&& 255)) := by rw [chr_id (chr_and x)]; exact chr_and x
theorem chr_2 (x : Int32) : Chr (chr (chr (x &&& 255))) := by rw [chr_id (chr_1 x)]; exact chr_1 x
theorem chr_3 (x : Int32) : Chr (chr (chr (chr (x &&& 255)))) := by rw [chr_id (chr_2 x)]; exact chr_2 x
theorem chr_4 (x : Int32) : Chr (chr (chr (chr (chr (x &&& 255))))) := by rw [chr_id (chr_3 x)]; exact chr_3 x
theorem sr0 {x : Int32} : x >>> ((0 : Int32) &&& 31) = x := by
  have : ((0 : Int32) &&& 31) = 0 := by decide
  rw [this]; simp
theorem F2_eq {a : Nat} {vv : Value} {H : AH} (hw0 : w ≠ 0) (hS : H[a]? = some (.inl (0, [vv, .int 0]))) : (F2 w vF) [.ref a] H = some (some (.int 0), H) := by
  refine is_of f2_in fun go hgo => ?_
  refine res_of (u2_0 hgo) ?_
  simp only [eq_self, and_self, true_and, and_true, not_true_eq_false, not_false_eq_true, if_true, if_false, reduceIte, Option.bind_some, List.getElem?_cons_zero, List.getElem?_cons_succ, Nat.reduceAdd, Nat.reduceSub, Nat.reduceLT, Nat.reduceLeDiff, Nat.le_refl, Nat.zero_add, Nat.add_zero, List.length_cons, List.length_nil, Int32.reduceLT, Int32.reduceToNatClampNeg, Int32.reduceAdd, Int32.reduceSub, Int32.reduceMul, decide_true, aSta, hS]
  refine t2_3f hgo hw0 ?_
  refine t2_6 hgo rfl ?_
  refine res_of (u2_7 hgo) ?_
  simp only [eq_self, and_self, true_and, and_true, not_true_eq_false, not_false_eq_true, if_true, if_false, reduceIte, Option.bind_some, List.getElem?_cons_zero, List.getElem?_cons_succ, Nat.reduceAdd, Nat.reduceSub, Nat.reduceLT, Nat.reduceLeDiff, Nat.le_refl, Nat.zero_add, Nat.add_zero, List.length_cons, List.length_nil, Int32.reduceLT, Int32.reduceToNatClampNeg, Int32.reduceAdd, Int32.reduceSub, Int32.reduceMul, decide_true, aGet, obj, hS]
  refine t2_10 hgo ?_
  refine t2_14 hgo ?_
  exact is_i (by decide) rfl
theorem F1_eq {a v : Nat} {bs : List Value} {H : AH} (hw0 : w ≠ 0) (hS : H[a]? = some (.inl (0, [.ref v, .int 0]))) (hv : H[v]? = some (.inr (.byte, bs))) : (F1 w vF) [.ref a] H = some (some (.int (ln bs)), H) := by
  refine is_of f1_in fun go hgo => ?_
  refine t1_0 hgo rfl ?_
  refine res_of (u1_1 hgo) ?_
  simp only [eq_self, and_self, true_and, and_true, not_true_eq_false, not_false_eq_true, if_true, if_false, reduceIte, Option.bind_some, List.getElem?_cons_zero, List.getElem?_cons_succ, Nat.reduceAdd, Nat.reduceSub, Nat.reduceLT, Nat.reduceLeDiff, Nat.le_refl, Nat.zero_add, Nat.add_zero, List.length_cons, List.length_nil, Int32.reduceLT, Int32.reduceToNatClampNeg, Int32.reduceAdd, Int32.reduceSub, Int32.reduceMul, decide_true, aGet, obj, hS, hv, F2_eq hw0 hS]
  refine res_of (u1_4 hgo) ?_
  simp only [eq_self, and_self, true_and, and_true, not_true_eq_false, not_false_eq_true, if_true, if_false, reduceIte, Option.bind_some, List.getElem?_cons_zero, List.getElem?_cons_succ, Nat.reduceAdd, Nat.reduceSub, Nat.reduceLT, Nat.reduceLeDiff, Nat.le_refl, Nat.zero_add, Nat.add_zero, List.length_cons, List.length_nil, Int32.reduceLT, Int32.reduceToNatClampNeg, Int32.reduceAdd, Int32.reduceSub, Int32.reduceMul, decide_true, pR_ref, arr, ln0, ln1, ln2, ln3, ln4, ln5, ln6, ln7, ln8, ln9, ln10, ln11, ln12, ln13, ln14, ln15, ln16, ln17, ln18, ln19, ln20, ln21, ln22, ln23, ln24, ln25, ln26, ln27, ln28, ln29, ln30, ln31, ln32, ln33, ln34, ln35, ln36, hS, hv, F2_eq hw0 hS]
  refine t1_5 hgo rfl ?_
  refine res_of (u1_6 hgo) ?_
  simp only [eq_self, and_self, true_and, and_true, not_true_eq_false, not_false_eq_true, if_true, if_false, reduceIte, Option.bind_some, List.getElem?_cons_zero, List.getElem?_cons_succ, Nat.reduceAdd, Nat.reduceSub, Nat.reduceLT, Nat.reduceLeDiff, Nat.le_refl, Nat.zero_add, Nat.add_zero, List.length_cons, List.length_nil, Int32.reduceLT, Int32.reduceToNatClampNeg, Int32.reduceAdd, Int32.reduceSub, Int32.reduceMul, decide_true, aCall, aRecv, aObj, obj, List.take_succ_cons, List.take_zero, List.drop_succ_cons, List.drop_zero, List.reverse_cons, List.reverse_nil, List.nil_append, List.cons_append, List.append_nil, List.map_cons, List.map_nil, List.sum_cons, List.sum_nil, cat_int, cat_long, cat_ref, cat_null, Option.toList_some, Option.toList_none, hS, hv, F2_eq hw0 hS]
  refine t1_9 hgo ?_
  refine t1_10 hgo ?_
  exact is_i sr0 rfl
theorem F5_eq {a : Nat} {vv : Value} {H : AH} (hw0 : w ≠ 0) (hS : H[a]? = some (.inl (0, [vv, .int 0]))) : (F5 w vF) [.ref a] H = some (some (.int 1), H) := by
  refine is_of f5_in fun go hgo => ?_
  refine res_of (u5_0 hgo) ?_
  simp only [eq_self, and_self, true_and, and_true, not_true_eq_false, not_false_eq_true, if_true, if_false, reduceIte, Option.bind_some, List.getElem?_cons_zero, List.getElem?_cons_succ, Nat.reduceAdd, Nat.reduceSub, Nat.reduceLT, Nat.reduceLeDiff, Nat.le_refl, Nat.zero_add, Nat.add_zero, List.length_cons, List.length_nil, Int32.reduceLT, Int32.reduceToNatClampNeg, Int32.reduceAdd, Int32.reduceSub, Int32.reduceMul, decide_true, aSta, hS]
  refine t5_3f hgo hw0 ?_
  refine t5_6 hgo rfl ?_
  refine res_of (u5_7 hgo) ?_
  simp only [eq_self, and_self, true_and, and_true, not_true_eq_false, not_false_eq_true, if_true, if_false, reduceIte, Option.bind_some, List.getElem?_cons_zero, List.getElem?_cons_succ, Nat.reduceAdd, Nat.reduceSub, Nat.reduceLT, Nat.reduceLeDiff, Nat.le_refl, Nat.zero_add, Nat.add_zero, List.length_cons, List.length_nil, Int32.reduceLT, Int32.reduceToNatClampNeg, Int32.reduceAdd, Int32.reduceSub, Int32.reduceMul, decide_true, aGet, obj, hS]
  refine t5_10t hgo (by decide) ?_
  refine t5_13 hgo ?_
  refine t5_14 hgo ?_
  refine t5_18 hgo ?_
  exact is_1
theorem F8_eq {i n : Int32} {H : AH} (hvF : vF = .null ∨ vF = .ref 8) (h0 : ¬ i < 0) (h1 : i < n) : (F8 w vF) [.int i, .int n, vF] H = some (some (.int i), H) := by
  rcases hvF with rfl | rfl
  · refine is_of f8_inn fun go hgo => ?_
    refine t8_0 hgo ?_
    refine t8_1f hgo h0 ?_
    refine t8_4 hgo ?_
    refine t8_5 hgo ?_
    refine t8_6t hgo h1 ?_
    refine t8_16 hgo ?_
    refine t8_17 hgo ?_
    exact is_r
  · refine is_of f8_in fun go hgo => ?_
    refine t8_0 hgo ?_
    refine t8_1f hgo h0 ?_
    refine t8_4 hgo ?_
    refine t8_5 hgo ?_
    refine t8_6t hgo h1 ?_
    refine t8_16 hgo ?_
    refine t8_17 hgo ?_
    exact is_r
theorem F7_eq {i n : Int32} {H : AH} (hvF : vF = .null ∨ vF = .ref 8) (h0 : ¬ i < 0) (h1 : i < n) : (F7 w vF) [.int i, .int n] H = some (none, H) := by
  refine is_of f7_in fun go hgo => ?_
  refine t7_0 hgo ?_
  refine t7_1 hgo ?_
  refine res_of (u7_2 hgo) ?_
  simp only [eq_self, and_self, true_and, and_true, not_true_eq_false, not_false_eq_true, if_true, if_false, reduceIte, Option.bind_some, List.getElem?_cons_zero, List.getElem?_cons_succ, Nat.reduceAdd, Nat.reduceSub, Nat.reduceLT, Nat.reduceLeDiff, Nat.le_refl, Nat.zero_add, Nat.add_zero, List.length_cons, List.length_nil, Int32.reduceLT, Int32.reduceToNatClampNeg, Int32.reduceAdd, Int32.reduceSub, Int32.reduceMul, decide_true, aSta, F8_eq hvF h0 h1]
  refine res_of (u7_5 hgo) ?_
  simp only [eq_self, and_self, true_and, and_true, not_true_eq_false, not_false_eq_true, if_true, if_false, reduceIte, Option.bind_some, List.getElem?_cons_zero, List.getElem?_cons_succ, Nat.reduceAdd, Nat.reduceSub, Nat.reduceLT, Nat.reduceLeDiff, Nat.le_refl, Nat.zero_add, Nat.add_zero, List.length_cons, List.length_nil, Int32.reduceLT, Int32.reduceToNatClampNeg, Int32.reduceAdd, Int32.reduceSub, Int32.reduceMul, decide_true, aCall, aRecv, aObj, obj, List.take_succ_cons, List.take_zero, List.drop_succ_cons, List.drop_zero, List.reverse_cons, List.reverse_nil, List.nil_append, List.cons_append, List.append_nil, List.map_cons, List.map_nil, List.sum_cons, List.sum_nil, cat_int, cat_long, cat_ref, cat_null, Option.toList_some, Option.toList_none, F8_eq hvF h0 h1]
  refine t7_8 hgo rfl ?_
  refine t7_9 hgo ?_
  exact is_r
theorem F6_eq {v : Nat} {i b : Int32} {bs : List Value} {H : AH} (hvF : vF = .null ∨ vF = .ref 8) (hv : H[v]? = some (.inr (.byte, bs))) (h0 : ¬ i < 0) (h1 : i < ln bs) (hb : bs[i.toNatClampNeg]? = some (.int b)) : (F6 w vF) [.ref v, .int i] H = some (some (.int (chr (chr (b &&& 255)))), H) := by
  refine is_of f6_in fun go hgo => ?_
  refine t6_0 hgo ?_
  refine t6_1 hgo rfl ?_
  refine res_of (u6_2 hgo) ?_
  simp only [eq_self, and_self, true_and, and_true, not_true_eq_false, not_false_eq_true, if_true, if_false, reduceIte, Option.bind_some, List.getElem?_cons_zero, List.getElem?_cons_succ, Nat.reduceAdd, Nat.reduceSub, Nat.reduceLT, Nat.reduceLeDiff, Nat.le_refl, Nat.zero_add, Nat.add_zero, List.length_cons, List.length_nil, Int32.reduceLT, Int32.reduceToNatClampNeg, Int32.reduceAdd, Int32.reduceSub, Int32.reduceMul, decide_true, pR_ref, arr, ln0, ln1, ln2, ln3, ln4, ln5, ln6, ln7, ln8, ln9, ln10, ln11, ln12, ln13, ln14, ln15, ln16, ln17, ln18, ln19, ln20, ln21, ln22, ln23, ln24, ln25, ln26, ln27, ln28, ln29, ln30, ln31, ln32, ln33, ln34, ln35, ln36, hv, h0, hb, F7_eq hvF h0 h1]
  refine res_of (u6_3 hgo) ?_
  simp only [eq_self, and_self, true_and, and_true, not_true_eq_false, not_false_eq_true, if_true, if_false, reduceIte, Option.bind_some, List.getElem?_cons_zero, List.getElem?_cons_succ, Nat.reduceAdd, Nat.reduceSub, Nat.reduceLT, Nat.reduceLeDiff, Nat.le_refl, Nat.zero_add, Nat.add_zero, List.length_cons, List.length_nil, Int32.reduceLT, Int32.reduceToNatClampNeg, Int32.reduceAdd, Int32.reduceSub, Int32.reduceMul, decide_true, aCall, aRecv, aObj, obj, List.take_succ_cons, List.take_zero, List.drop_succ_cons, List.drop_zero, List.reverse_cons, List.reverse_nil, List.nil_append, List.cons_append, List.append_nil, List.map_cons, List.map_nil, List.sum_cons, List.sum_nil, cat_int, cat_long, cat_ref, cat_null, Option.toList_some, Option.toList_none, hv, h0, hb, F7_eq hvF h0 h1]
  refine t6_6 hgo rfl ?_
  refine t6_7 hgo ?_
  refine res_of (u6_8 hgo) ?_
  simp only [eq_self, and_self, true_and, and_true, not_true_eq_false, not_false_eq_true, if_true, if_false, reduceIte, Option.bind_some, List.getElem?_cons_zero, List.getElem?_cons_succ, Nat.reduceAdd, Nat.reduceSub, Nat.reduceLT, Nat.reduceLeDiff, Nat.le_refl, Nat.zero_add, Nat.add_zero, List.length_cons, List.length_nil, Int32.reduceLT, Int32.reduceToNatClampNeg, Int32.reduceAdd, Int32.reduceSub, Int32.reduceMul, decide_true, ex_baload, ald, pI_int, pR_ref, arr, isT, isBZ, hv, h0, hb, F7_eq hvF h0 h1]
  refine t6_9 hgo ?_
  refine t6_12 hgo ?_
  refine t6_13 hgo ?_
  refine t6_14 hgo ?_
  exact is_r
theorem F4_eq {a v : Nat} {i b : Int32} {bs : List Value} {H : AH} (hw0 : w ≠ 0) (hvF : vF = .null ∨ vF = .ref 8) (hS : H[a]? = some (.inl (0, [.ref v, .int 0]))) (hv : H[v]? = some (.inr (.byte, bs))) (h0 : ¬ i < 0) (h1 : i < ln bs) (hb : bs[i.toNatClampNeg]? = some (.int b)) : (F4 w vF) [.ref a, .int i] H = some (some (.int (chr (chr (chr (b &&& 255))))), H) := by
  refine is_of f4_in fun go hgo => ?_
  refine t4_0 hgo rfl ?_
  refine res_of (u4_1 hgo) ?_
  simp only [eq_self, and_self, true_and, and_true, not_true_eq_false, not_false_eq_true, if_true, if_false, reduceIte, Option.bind_some, List.getElem?_cons_zero, List.getElem?_cons_succ, Nat.reduceAdd, Nat.reduceSub, Nat.reduceLT, Nat.reduceLeDiff, Nat.le_refl, Nat.zero_add, Nat.add_zero, List.length_cons, List.length_nil, Int32.reduceLT, Int32.reduceToNatClampNeg, Int32.reduceAdd, Int32.reduceSub, Int32.reduceMul, decide_true, aCall, aRecv, aObj, obj, List.take_succ_cons, List.take_zero, List.drop_succ_cons, List.drop_zero, List.reverse_cons, List.reverse_nil, List.nil_append, List.cons_append, List.append_nil, List.map_cons, List.map_nil, List.sum_cons, List.sum_nil, cat_int, cat_long, cat_ref, cat_null, Option.toList_some, Option.toList_none, hS, hv, F5_eq hw0 hS, F6_eq hvF hv h0 h1 hb]
  refine t4_4f hgo (by decide) ?_
  refine t4_7 hgo rfl ?_
  refine res_of (u4_8 hgo) ?_
  simp only [eq_self, and_self, true_and, and_true, not_true_eq_false, not_false_eq_true, if_true, if_false, reduceIte, Option.bind_some, List.getElem?_cons_zero, List.getElem?_cons_succ, Nat.reduceAdd, Nat.reduceSub, Nat.reduceLT, Nat.reduceLeDiff, Nat.le_refl, Nat.zero_add, Nat.add_zero, List.length_cons, List.length_nil, Int32.reduceLT, Int32.reduceToNatClampNeg, Int32.reduceAdd, Int32.reduceSub, Int32.reduceMul, decide_true, aGet, obj, hS, hv, F5_eq hw0 hS, F6_eq hvF hv h0 h1 hb]
  refine t4_11 hgo ?_
  refine res_of (u4_12 hgo) ?_
  simp only [eq_self, and_self, true_and, and_true, not_true_eq_false, not_false_eq_true, if_true, if_false, reduceIte, Option.bind_some, List.getElem?_cons_zero, List.getElem?_cons_succ, Nat.reduceAdd, Nat.reduceSub, Nat.reduceLT, Nat.reduceLeDiff, Nat.le_refl, Nat.zero_add, Nat.add_zero, List.length_cons, List.length_nil, Int32.reduceLT, Int32.reduceToNatClampNeg, Int32.reduceAdd, Int32.reduceSub, Int32.reduceMul, decide_true, aCall, aRecv, aObj, obj, List.take_succ_cons, List.take_zero, List.drop_succ_cons, List.drop_zero, List.reverse_cons, List.reverse_nil, List.nil_append, List.cons_append, List.append_nil, List.map_cons, List.map_nil, List.sum_cons, List.sum_nil, cat_int, cat_long, cat_ref, cat_null, Option.toList_some, Option.toList_none, hS, hv, F5_eq hw0 hS, F6_eq hvF hv h0 h1 hb]
  refine t4_15 hgo ?_
  exact is_r
theorem F3_ex {a v : Nat} {i ch p q : Int32} {k : Nat} {xs : List Int32} {H : AH} (hw0 : w ≠ 0) (hvF : vF = .null ∨ vF = .ref 8) (hS : H[a]? = some (.inl (0, [.ref v, .int 0]))) (hv : H[v]? = some (.inr (.byte, xs.map Value.int))) (hx : xs.length ≤ 10) (hi : i.toInt = (k : Int)) : ∃ c, Chr c ∧ (F3 w vF) [.ref a, .int i, .int ch, .int p, .int q] H = some (some (.int c), H) := by
  have e0 : (0 : Int32).toInt = 0 := by decide
  have e4 : (4 : Int32).toInt = 4 := by decide
  have e8 : (8 : Int32).toInt = 8 := by decide
  have h0 : ¬ i < 0 := nlt_of hi e0 (by omega)
  have hk : i.toNatClampNeg = k := by show i.toInt.toNat = k; omega
  have hl : (ln (xs.map Value.int)).toInt = (xs.length : Int) := by
    unfold ln; rw [List.length_map]; exact Int32.toInt_ofNat_small (by omega)
  refine rsq_of (q := fun r => ∃ c, Chr c ∧ r = some (some (.int c), H)) f3_in fun go hgo => ?_
  by_cases h1 : (k : Int) < (xs.length : Int)
  · have h1' : i < ln (xs.map Value.int) := lt_of hi hl h1
    have hb : (xs.map Value.int)[i.toNatClampNeg]? = some (.int (xs[k]'(by omega))) := by
      rw [hk, List.getElem?_map, List.getElem?_eq_getElem (by omega)]; rfl
    refine t3_0 hgo ?_
    refine t3_1 hgo rfl ?_
    refine res_of (u3_2 hgo) ?_
    simp only [eq_self, and_self, true_and, and_true, not_true_eq_false, not_false_eq_true, if_true, if_false, reduceIte, Option.bind_some, List.getElem?_cons_zero, List.getElem?_cons_succ, Nat.reduceAdd, Nat.reduceSub, Nat.reduceLT, Nat.reduceLeDiff, Nat.le_refl, Nat.zero_add, Nat.add_zero, List.length_cons, List.length_nil, Int32.reduceLT, Int32.reduceToNatClampNeg, Int32.reduceAdd, Int32.reduceSub, Int32.reduceMul, decide_true, aCall, aRecv, aObj, obj, List.take_succ_cons, List.take_zero, List.drop_succ_cons, List.drop_zero, List.reverse_cons, List.reverse_nil, List.nil_append, List.cons_append, List.append_nil, List.map_cons, List.map_nil, List.sum_cons, List.sum_nil, cat_int, cat_long, cat_ref, cat_null, Option.toList_some, Option.toList_none, hS, F1_eq hw0 hS hv, F4_eq hw0 hvF hS hv h0 h1' hb]
    refine t3_5t hgo h1' ?_
    refine t3_8 hgo rfl ?_
    refine t3_9 hgo ?_
    refine res_of (u3_10 hgo) ?_
    simp only [eq_self, and_self, true_and, and_true, not_true_eq_false, not_false_eq_true, if_true, if_false, reduceIte, Option.bind_some, List.getElem?_cons_zero, List.getElem?_cons_succ, Nat.reduceAdd, Nat.reduceSub, Nat.reduceLT, Nat.reduceLeDiff, Nat.le_refl, Nat.zero_add, Nat.add_zero, List.length_cons, List.length_nil, Int32.reduceLT, Int32.reduceToNatClampNeg, Int32.reduceAdd, Int32.reduceSub, Int32.reduceMul, decide_true, aCall, aRecv, aObj, obj, List.take_succ_cons, List.take_zero, List.drop_succ_cons, List.drop_zero, List.reverse_cons, List.reverse_nil, List.nil_append, List.cons_append, List.append_nil, List.map_cons, List.map_nil, List.sum_cons, List.sum_nil, cat_int, cat_long, cat_ref, cat_null, Option.toList_some, Option.toList_none, hS, F1_eq hw0 hS hv, F4_eq hw0 hvF hS hv h0 h1' hb]
    refine t3_13 hgo ?_
    exact ⟨_, chr_4 _, rfl⟩
  · have h1' : ¬ i < ln (xs.map Value.int) := nlt_of hi hl h1
    by_cases h4 : (k : Int) < 4
    · skip
      refine t3_0 hgo ?_
      refine t3_1 hgo rfl ?_
      refine res_of (u3_2 hgo) ?_
      simp only [eq_self, and_self, true_and, and_true, not_true_eq_false, not_false_eq_true, if_true, if_false, reduceIte, Option.bind_some, List.getElem?_cons_zero, List.getElem?_cons_succ, Nat.reduceAdd, Nat.reduceSub, Nat.reduceLT, Nat.reduceLeDiff, Nat.le_refl, Nat.zero_add, Nat.add_zero, List.length_cons, List.length_nil, Int32.reduceLT, Int32.reduceToNatClampNeg, Int32.reduceAdd, Int32.reduceSub, Int32.reduceMul, decide_true, aCall, aRecv, aObj, obj, List.take_succ_cons, List.take_zero, List.drop_succ_cons, List.drop_zero, List.reverse_cons, List.reverse_nil, List.nil_append, List.cons_append, List.append_nil, List.map_cons, List.map_nil, List.sum_cons, List.sum_nil, cat_int, cat_long, cat_ref, cat_null, Option.toList_some, Option.toList_none, hS, F1_eq hw0 hS hv]
      refine t3_5f hgo h1' ?_
      refine t3_14 hgo ?_
      refine t3_15 hgo ?_
      refine t3_16t hgo (lt_of hi e4 h4) ?_
      refine t3_19 hgo ?_
      refine t3_20 hgo ?_
      refine t3_35 hgo rfl ?_
      refine t3_37 hgo ?_
      refine t3_38 hgo ?_
      refine t3_40t hgo (lt_of hi e8 (Int.lt_trans h4 (by decide))) ?_
      refine t3_43 hgo ?_
      refine t3_45 hgo ?_
      refine t3_46 hgo ?_
      refine t3_47 hgo ?_
      refine t3_48 hgo ?_
      refine t3_49 hgo ?_
      refine t3_59 hgo rfl ?_
      refine t3_61 hgo ?_
      refine t3_63 hgo ?_
      refine t3_65 hgo ?_
      refine t3_66 hgo ?_
      refine t3_69 hgo ?_
      refine t3_70 hgo ?_
      refine t3_71 hgo ?_
      exact ⟨_, chr_2 _, rfl⟩
    · by_cases h8 : (k : Int) < 8
      · skip
        refine t3_0 hgo ?_
        refine t3_1 hgo rfl ?_
        refine res_of (u3_2 hgo) ?_
        simp only [eq_self, and_self, true_and, and_true, not_true_eq_false, not_false_eq_true, if_true, if_false, reduceIte, Option.bind_some, List.getElem?_cons_zero, List.getElem?_cons_succ, Nat.reduceAdd, Nat.reduceSub, Nat.reduceLT, Nat.reduceLeDiff, Nat.le_refl, Nat.zero_add, Nat.add_zero, List.length_cons, List.length_nil, Int32.reduceLT, Int32.reduceToNatClampNeg, Int32.reduceAdd, Int32.reduceSub, Int32.reduceMul, decide_true, aCall, aRecv, aObj, obj, List.take_succ_cons, List.take_zero, List.drop_succ_cons, List.drop_zero, List.reverse_cons, List.reverse_nil, List.nil_append, List.cons_append, List.append_nil, List.map_cons, List.map_nil, List.sum_cons, List.sum_nil, cat_int, cat_long, cat_ref, cat_null, Option.toList_some, Option.toList_none, hS, F1_eq hw0 hS hv]
        refine t3_5f hgo h1' ?_
        refine t3_14 hgo ?_
        refine t3_15 hgo ?_
        refine t3_16f hgo (nlt_of hi e4 h4) ?_
        refine t3_23 hgo ?_
        refine t3_24 hgo ?_
        refine t3_26t hgo (lt_of hi e8 h8) ?_
        refine t3_29 hgo ?_
        refine t3_31 hgo ?_
        refine t3_35 hgo rfl ?_
        refine t3_37 hgo ?_
        refine t3_38 hgo ?_
        refine t3_40t hgo (lt_of hi e8 h8) ?_
        refine t3_43 hgo ?_
        refine t3_45 hgo ?_
        refine t3_46 hgo ?_
        refine t3_47 hgo ?_
        refine t3_48 hgo ?_
        refine t3_49 hgo ?_
        refine t3_59 hgo rfl ?_
        refine t3_61 hgo ?_
        refine t3_63 hgo ?_
        refine t3_65 hgo ?_
        refine t3_66 hgo ?_
        refine t3_69 hgo ?_
        refine t3_70 hgo ?_
        refine t3_71 hgo ?_
        exact ⟨_, chr_2 _, rfl⟩
      · skip
        refine t3_0 hgo ?_
        refine t3_1 hgo rfl ?_
        refine res_of (u3_2 hgo) ?_
        simp only [eq_self, and_self, true_and, and_true, not_true_eq_false, not_false_eq_true, if_true, if_false, reduceIte, Option.bind_some, List.getElem?_cons_zero, List.getElem?_cons_succ, Nat.reduceAdd, Nat.reduceSub, Nat.reduceLT, Nat.reduceLeDiff, Nat.le_refl, Nat.zero_add, Nat.add_zero, List.length_cons, List.length_nil, Int32.reduceLT, Int32.reduceToNatClampNeg, Int32.reduceAdd, Int32.reduceSub, Int32.reduceMul, decide_true, aCall, aRecv, aObj, obj, List.take_succ_cons, List.take_zero, List.drop_succ_cons, List.drop_zero, List.reverse_cons, List.reverse_nil, List.nil_append, List.cons_append, List.append_nil, List.map_cons, List.map_nil, List.sum_cons, List.sum_nil, cat_int, cat_long, cat_ref, cat_null, Option.toList_some, Option.toList_none, hS, F1_eq hw0 hS hv]
        refine t3_5f hgo h1' ?_
        refine t3_14 hgo ?_
        refine t3_15 hgo ?_
        refine t3_16f hgo (nlt_of hi e4 h4) ?_
        refine t3_23 hgo ?_
        refine t3_24 hgo ?_
        refine t3_26f hgo (nlt_of hi e8 h8) ?_
        refine t3_34 hgo ?_
        refine t3_35 hgo rfl ?_
        refine t3_37 hgo ?_
        refine t3_38 hgo ?_
        refine t3_40f hgo (nlt_of hi e8 h8) ?_
        refine t3_52 hgo ?_
        refine t3_54 hgo ?_
        refine t3_55 hgo ?_
        refine t3_57 hgo ?_
        refine t3_58 hgo ?_
        refine t3_59 hgo rfl ?_
        refine t3_61 hgo ?_
        refine t3_63 hgo ?_
        refine t3_65 hgo ?_
        refine t3_66 hgo ?_
        refine t3_69 hgo ?_
        refine t3_70 hgo ?_
        refine t3_71 hgo ?_
        exact ⟨_, chr_2 _, rfl⟩
theorem i_add {i : Int32} {k : Nat} (hi : i.toInt = (k : Int)) (h : k < 1000) : (i + 1).toInt = ((k + 1 : Nat) : Int) := by
  have h1 := c_iadd i 1
  have h2 := rng32 (i + 1)
  have e1 : (1 : Int32).toInt = 1 := by decide
  omega
theorem i_idx {i : Int32} {k : Nat} (hi : i.toInt = (k : Int)) : ¬ i < 0 ∧ i.toNatClampNeg = k := by
  have e0 : (0 : Int32).toInt = 0 := by decide
  exact ⟨nlt_of hi e0 (by omega), by show i.toInt.toNat = k; omega⟩
theorem i_inj {i j : Int32} (h : i.toInt = j.toInt) : i = j := Int32.toInt_inj.mp h
theorem l12 {go : GT} (hgo : go = R12 w vF) {d b N : Nat} {n : Int32} {xs : List Int32} {H : AH} (hd : H[d]? = some (.inr (.char, xs.map Value.int))) (hb : ∃ o, H[b]? = some o) (hb25 : 25 ≤ b) (hdb : b ≠ d) (hx : xs.length = N) (hN : N ≤ 11) (hc : ∀ c ∈ xs, Chr c) (hn : n.toInt = (N : Int)) :
    ∀ (r k : Nat) (i : Int32) (l6 : Slot) (ys : List Int32) (m : Nat), k + r = N → i.toInt = (k : Int) → so l6 = true → ys.length = N → Rsq (go (m + (19 * r + 6)) (3, [.val (.ref d), .val (.int i), .val (.ref b), .val (.int i), .val (.int n), .val (.int i), l6], [], H.set b (.inr (.byte, ys.map Value.int)), 0, 0)) (fun z => ∃ bs : List Int32, bs.length = N ∧ z = some (some (.int n), H.set b (.inr (.byte, bs.map Value.int)))) := by
  intro r
  induction r with
  | zero =>
    intro k i l6 ys m hk hi h6 hy
    have h1 : ¬ i < n := nlt_of hi hn (by omega)
    refine t12_3 hgo ?_
    refine t12_5 hgo ?_
    refine t12_7f hgo h1 ?_
    refine t12_44 hgo ?_
    refine t12_46 hgo ?_
    exact ⟨ys, hy, rfl⟩
  | succ r ih =>
    intro k i l6 ys m hk hi h6 hy
    have h1 : i < n := lt_of hi hn (by omega)
    obtain ⟨i1, i2⟩ := i_idx hi
    have hd' : (H.set b (.inr (.byte, ys.map Value.int)))[d]? = some (.inr (.char, xs.map Value.int)) := st_ne hd hdb
    obtain ⟨ob, hob⟩ := hb
    have hb' : (H.set b (.inr (.byte, ys.map Value.int)))[b]? = some (.inr (.byte, ys.map Value.int)) := st_se hob
    have hkl : k < xs.length := by omega
    have he : (xs.map Value.int)[k]? = some (.int xs[k]) := by rw [List.getElem?_map, List.getElem?_eq_getElem hkl]; rfl
    have hcc := hc _ (List.getElem_mem hkl)
    have hle : ¬ (255 : Int32) < xs[k] := nlt_of (by decide : (255 : Int32).toInt = 255) rfl (by have := hcc.2; omega)
    have hyl : k < (ys.map Value.int).length := by rw [List.length_map]; omega
    rw [show m + (19 * (r + 1) + 6) = (m + (19 * r + 6)) + 19 by omega]
    refine t12_3 hgo ?_
    refine t12_5 hgo ?_
    refine t12_7t hgo h1 ?_
    refine t12_10 hgo rfl ?_
    refine t12_11 hgo ?_
    refine res_of (u12_12 hgo) ?_
    simp only [eq_self, and_self, true_and, and_true, not_true_eq_false, not_false_eq_true, if_true, if_false, reduceIte, Option.bind_some, List.getElem?_cons_zero, List.getElem?_cons_succ, Nat.reduceAdd, Nat.reduceSub, Nat.reduceLT, Nat.reduceLeDiff, Nat.le_refl, Nat.zero_add, Nat.add_zero, List.length_cons, List.length_nil, Int32.reduceLT, Int32.reduceToNatClampNeg, Int32.reduceAdd, Int32.reduceSub, Int32.reduceMul, decide_true, ex_caload, ald, pI_int, pR_ref, arr, isT, isBZ, hd', i1, i2, he]
    refine t12_13 hgo (by first | rfl | assumption) ?_
    refine t12_15 hgo ?_
    refine t12_17 hgo ?_
    refine t12_20f hgo hle ?_
    refine t12_26 hgo rfl ?_
    refine t12_27 hgo ?_
    refine t12_28 hgo ?_
    refine t12_30 hgo ?_
    refine res_of (u12_31 hgo) ?_
    simp only [eq_self, and_self, true_and, and_true, not_true_eq_false, not_false_eq_true, if_true, if_false, reduceIte, Option.bind_some, List.getElem?_cons_zero, List.getElem?_cons_succ, Nat.reduceAdd, Nat.reduceSub, Nat.reduceLT, Nat.reduceLeDiff, Nat.le_refl, Nat.zero_add, Nat.add_zero, List.length_cons, List.length_nil, Int32.reduceLT, Int32.reduceToNatClampNeg, Int32.reduceAdd, Int32.reduceSub, Int32.reduceMul, decide_true, ex_bastore, ast, astL, pI_int, pL_long, pR_ref, arr, isT, isBZ, nar, List.set_cons_zero, List.set_cons_succ, hb', i1, i2, hyl, hb25]
    refine t12_32 hgo ?_
    refine t12_35 hgo ?_
    refine t12_38 hgo ?_
    refine t12_41 hgo ?_
    simp only [List.set_set, ← List.map_set]
    exact ih (k + 1) (i + 1) _ _ m (by omega) (i_add hi (by omega)) rfl (by rw [List.length_set]; exact hy)
theorem rep_map {n : Nat} : List.replicate n (Value.int 0) = (List.replicate n (0 : Int32)).map Value.int := by simp
theorem F12_ex {d b N : Nat} {n : Int32} {xs ys : List Int32} {H : AH} (hd : H[d]? = some (.inr (.char, xs.map Value.int))) (hb : H[b]? = some (.inr (.byte, ys.map Value.int))) (hb25 : 25 ≤ b) (hdb : b ≠ d) (hx : xs.length = N) (hy : ys.length = N) (hN : N ≤ 11) (hc : ∀ c ∈ xs, Chr c) (hn : n.toInt = (N : Int)) :
    ∃ bs : List Int32, bs.length = N ∧ (F12 w vF) [.ref d, .int 0, .ref b, .int 0, .int n] H = some (some (.int n), H.set b (.inr (.byte, bs.map Value.int))) := by
  have hH : H = H.set b (.inr (.byte, ys.map Value.int)) := by
    apply List.ext_getElem?
    intro j
    by_cases q : b = j
    · subst q; rw [st_se hb, hb]
    · rw [List.getElem?_set_ne q]
  refine rsq_of (q := fun z => ∃ bs : List Int32, bs.length = N ∧ z = some (some (.int n), H.set b (.inr (.byte, bs.map Value.int)))) f12_in fun go hgo => ?_
  refine t12_0 hgo ?_
  refine t12_1 hgo rfl ?_
  have := l12 hgo hd ⟨_, hb⟩ hb25 hdb hx hN hc hn N 0 0 .unset ys (292 - 19 * N) (by omega) (by decide) rfl hy
  rw [← hH, show 292 - 19 * N + (19 * N + 6) = 298 by omega] at this
  exact this
theorem F11_ex {d N : Nat} {n : Int32} {xs : List Int32} {H : AH} (hd : H[d]? = some (.inr (.char, xs.map Value.int))) (hH : 25 ≤ H.length) (hx : xs.length = N) (hN : N ≤ 11) (hc : ∀ c ∈ xs, Chr c) (hn : n.toInt = (N : Int)) :
    ∃ bs : List Int32, bs.length = N ∧ (F11 w vF) [.ref d, .int 0, .int n] H = some (some (.ref H.length), H ++ [.inr (.byte, bs.map Value.int)]) := by
  obtain ⟨n1, n2⟩ := i_idx hn
  have hlt : d < H.length := (List.getElem?_eq_some_iff.mp hd).1
  obtain ⟨bs, hbs, e⟩ := F12_ex (w := w) (vF := vF) (H := H ++ [.inr (.byte, List.replicate N (.int 0))]) (n := n) (ys := List.replicate N 0) (b := H.length) (ap hd) (by rw [nw, rep_map]) hH (by omega) hx (by simp) hN hc hn
  rw [List.set_append_right _ _ (Nat.le_refl _), Nat.sub_self, List.set_cons_zero] at e
  refine ⟨bs, hbs, ?_⟩
  refine is_of f11_in fun go hgo => ?_
  have hN' : N ≤ 67108864 := by omega
  refine t11_0 hgo ?_
  refine res_of (u11_1 hgo) ?_
  simp only [eq_self, and_self, true_and, and_true, not_true_eq_false, not_false_eq_true, if_true, if_false, reduceIte, Option.bind_some, List.getElem?_cons_zero, List.getElem?_cons_succ, Nat.reduceAdd, Nat.reduceSub, Nat.reduceLT, Nat.reduceLeDiff, Nat.le_refl, Nat.zero_add, Nat.add_zero, List.length_cons, List.length_nil, Int32.reduceLT, Int32.reduceToNatClampNeg, Int32.reduceAdd, Int32.reduceSub, Int32.reduceMul, decide_true, aArr, List.nil_append, List.cons_append, List.replicate_zero, List.replicate_succ, defaultValue, n1, n2, hN, hN', e]
  refine t11_3 hgo rfl rfl ?_
  refine t11_4 hgo rfl ?_
  refine t11_5 hgo ?_
  refine t11_6 hgo rfl ?_
  refine t11_7 hgo ?_
  refine t11_8 hgo ?_
  refine res_of (u11_9 hgo) ?_
  simp only [eq_self, and_self, true_and, and_true, not_true_eq_false, not_false_eq_true, if_true, if_false, reduceIte, Option.bind_some, List.getElem?_cons_zero, List.getElem?_cons_succ, Nat.reduceAdd, Nat.reduceSub, Nat.reduceLT, Nat.reduceLeDiff, Nat.le_refl, Nat.zero_add, Nat.add_zero, List.length_cons, List.length_nil, Int32.reduceLT, Int32.reduceToNatClampNeg, Int32.reduceAdd, Int32.reduceSub, Int32.reduceMul, decide_true, aCall, aRecv, aObj, obj, List.take_succ_cons, List.take_zero, List.drop_succ_cons, List.drop_zero, List.reverse_cons, List.reverse_nil, List.nil_append, List.cons_append, List.append_nil, List.map_cons, List.map_nil, List.sum_cons, List.sum_nil, cat_int, cat_long, cat_ref, cat_null, Option.toList_some, Option.toList_none, n1, n2, hN, hN', e]
  refine t11_12 hgo rfl ?_
  refine t11_14 hgo ?_
  refine t11_16 hgo ?_
  refine t11_17t hgo rfl ?_
  refine t11_57 hgo rfl ?_
  refine t11_58 hgo rfl ?_
  exact is_r
theorem F13_eq {b : Nat} {n : Int32} {bs : List Value} {H : AH} (hb : H[b]? = some (.inr (.byte, bs))) (hn : ln bs = n) : (F13 w vF) [.ref b, .int n] H = some (some (.int 0), H) := by
  refine is_of f13_in fun go hgo => ?_
  refine t13_0 hgo ?_
  refine t13_1 hgo rfl ?_
  refine res_of (u13_2 hgo) ?_
  simp only [eq_self, and_self, true_and, and_true, not_true_eq_false, not_false_eq_true, if_true, if_false, reduceIte, Option.bind_some, List.getElem?_cons_zero, List.getElem?_cons_succ, Nat.reduceAdd, Nat.reduceSub, Nat.reduceLT, Nat.reduceLeDiff, Nat.le_refl, Nat.zero_add, Nat.add_zero, List.length_cons, List.length_nil, Int32.reduceLT, Int32.reduceToNatClampNeg, Int32.reduceAdd, Int32.reduceSub, Int32.reduceMul, decide_true, pR_ref, arr, ln0, ln1, ln2, ln3, ln4, ln5, ln6, ln7, ln8, ln9, ln10, ln11, ln12, ln13, ln14, ln15, ln16, ln17, ln18, ln19, ln20, ln21, ln22, ln23, ln24, ln25, ln26, ln27, ln28, ln29, ln30, ln31, ln32, ln33, ln34, ln35, ln36, hb, hn]
  refine t13_3 hgo ?_
  refine t13_4 hgo ?_
  refine t13_6 hgo ?_
  refine t13_7 hgo ?_
  refine t13_8 hgo ?_
  have e : n - n = 0 := by simp
  exact is_i (by rw [e]; decide) rfl
theorem nr_B0 : narrow .byte (.int 0) = .int 0 := rfl
theorem ft_B0 : fits .byte (.int 0) = true := rfl
theorem ln_map {xs : List Int32} {n : Int32} {N : Nat} (hx : xs.length = N) (hN : N ≤ 100) (hn : n.toInt = (N : Int)) : ln (xs.map Value.int) = n := by
  apply i_inj
  unfold ln; rw [List.length_map, hn, ← hx]; exact Int32.toInt_ofNat_small (by omega)
theorem F10_ex {s d N : Nat} {n : Int32} {xs : List Int32} {H : AH} (hw0 : w ≠ 0) (hs : H[s]? = some (.inl (0, [.null, .int 0]))) (hs25 : 25 ≤ s) (hd : H[d]? = some (.inr (.char, xs.map Value.int))) (hx : xs.length = N) (hN : N ≤ 11) (h1 : 1 ≤ N) (hc : ∀ c ∈ xs, Chr c) (hn : n.toInt = (N : Int)) :
    ∃ bs : List Int32, bs.length = N ∧ (F10 w vF) [.ref s, .ref d, .int 0, .int n, .null] H = some (none, (H ++ [Sum.inr (FieldType.byte, bs.map Value.int)]).set s (Sum.inl (0, [Value.ref H.length, Value.int 0]))) := by
  have hlt : s < H.length := (List.getElem?_eq_some_iff.mp hs).1
  obtain ⟨bs, hbs, e⟩ := F11_ex (w := w) (vF := vF) hd (by omega) hx hN hc hn
  refine ⟨bs, hbs, ?_⟩
  have z : ¬ n = 0 := fun u => by rw [u] at hn; have : (0 : Int32).toInt = 0 := by decide
                                  omega
  have e13 := F13_eq (w := w) (vF := vF) (H := (H ++ [Sum.inr (FieldType.byte, bs.map Value.int)] : AH)) (b := H.length) nw (ln_map hbs (by omega) hn)
  have s1 : (H ++ [Sum.inr (FieldType.byte, bs.map Value.int)])[s]? = some (.inl (0, [.null, .int 0])) := ap hs
  have s2 : ((H ++ [Sum.inr (FieldType.byte, bs.map Value.int)]).set s (.inl (0, [.null, .int 0])))[s]? = some (.inl (0, [.null, .int 0])) := st_se s1
  refine is_of f10_inn fun go hgo => ?_
  refine t10_0 hgo rfl ?_
  refine res_of (u10_1 hgo) ?_
  simp only [eq_self, and_self, true_and, and_true, not_true_eq_false, not_false_eq_true, if_true, if_false, reduceIte, Option.bind_some, List.getElem?_cons_zero, List.getElem?_cons_succ, Nat.reduceAdd, Nat.reduceSub, Nat.reduceLT, Nat.reduceLeDiff, Nat.le_refl, Nat.zero_add, Nat.add_zero, List.length_cons, List.length_nil, Int32.reduceLT, Int32.reduceToNatClampNeg, Int32.reduceAdd, Int32.reduceSub, Int32.reduceMul, decide_true, aCall, aRecv, aObj, obj, List.take_succ_cons, List.take_zero, List.drop_succ_cons, List.drop_zero, List.reverse_cons, List.reverse_nil, List.nil_append, List.cons_append, List.append_nil, List.map_cons, List.map_nil, List.sum_cons, List.sum_nil, cat_int, cat_long, cat_ref, cat_null, Option.toList_some, Option.toList_none, e, e13, s1, s2, hs25, nr_B0, ft_B0, List.set_set]
  refine t10_4 hgo ?_
  refine t10_5f hgo z ?_
  refine res_of (u10_27 hgo) ?_
  simp only [eq_self, and_self, true_and, and_true, not_true_eq_false, not_false_eq_true, if_true, if_false, reduceIte, Option.bind_some, List.getElem?_cons_zero, List.getElem?_cons_succ, Nat.reduceAdd, Nat.reduceSub, Nat.reduceLT, Nat.reduceLeDiff, Nat.le_refl, Nat.zero_add, Nat.add_zero, List.length_cons, List.length_nil, Int32.reduceLT, Int32.reduceToNatClampNeg, Int32.reduceAdd, Int32.reduceSub, Int32.reduceMul, decide_true, aSta, e, e13, s1, s2, hs25, nr_B0, ft_B0, List.set_set]
  refine t10_30f hgo hw0 ?_
  refine t10_33 hgo rfl ?_
  refine t10_34 hgo ?_
  refine t10_35 hgo ?_
  refine res_of (u10_36 hgo) ?_
  simp only [eq_self, and_self, true_and, and_true, not_true_eq_false, not_false_eq_true, if_true, if_false, reduceIte, Option.bind_some, List.getElem?_cons_zero, List.getElem?_cons_succ, Nat.reduceAdd, Nat.reduceSub, Nat.reduceLT, Nat.reduceLeDiff, Nat.le_refl, Nat.zero_add, Nat.add_zero, List.length_cons, List.length_nil, Int32.reduceLT, Int32.reduceToNatClampNeg, Int32.reduceAdd, Int32.reduceSub, Int32.reduceMul, decide_true, aCall, aRecv, aObj, obj, List.take_succ_cons, List.take_zero, List.drop_succ_cons, List.drop_zero, List.reverse_cons, List.reverse_nil, List.nil_append, List.cons_append, List.append_nil, List.map_cons, List.map_nil, List.sum_cons, List.sum_nil, cat_int, cat_long, cat_ref, cat_null, Option.toList_some, Option.toList_none, e, e13, s1, s2, hs25, nr_B0, ft_B0, List.set_set]
  refine t10_39 hgo rfl rfl ?_
  refine t10_41 hgo rfl ?_
  refine t10_42 hgo rfl ?_
  refine t10_44 hgo ?_
  refine res_of (u10_45 hgo) ?_
  simp only [eq_self, and_self, true_and, and_true, not_true_eq_false, not_false_eq_true, if_true, if_false, reduceIte, Option.bind_some, List.getElem?_cons_zero, List.getElem?_cons_succ, Nat.reduceAdd, Nat.reduceSub, Nat.reduceLT, Nat.reduceLeDiff, Nat.le_refl, Nat.zero_add, Nat.add_zero, List.length_cons, List.length_nil, Int32.reduceLT, Int32.reduceToNatClampNeg, Int32.reduceAdd, Int32.reduceSub, Int32.reduceMul, decide_true, aCall, aRecv, aObj, obj, List.take_succ_cons, List.take_zero, List.drop_succ_cons, List.drop_zero, List.reverse_cons, List.reverse_nil, List.nil_append, List.cons_append, List.append_nil, List.map_cons, List.map_nil, List.sum_cons, List.sum_nil, cat_int, cat_long, cat_ref, cat_null, Option.toList_some, Option.toList_none, e, e13, s1, s2, hs25, nr_B0, ft_B0, List.set_set]
  refine res_of (u10_48 hgo) ?_
  simp only [eq_self, and_self, true_and, and_true, not_true_eq_false, not_false_eq_true, if_true, if_false, reduceIte, Option.bind_some, List.getElem?_cons_zero, List.getElem?_cons_succ, Nat.reduceAdd, Nat.reduceSub, Nat.reduceLT, Nat.reduceLeDiff, Nat.le_refl, Nat.zero_add, Nat.add_zero, List.length_cons, List.length_nil, Int32.reduceLT, Int32.reduceToNatClampNeg, Int32.reduceAdd, Int32.reduceSub, Int32.reduceMul, decide_true, aPut, obj, nr_i, nr_j, nr_a, nr_o, nr_b, nr_b1, nr_b0, ft_i, ft_j, ft_a, ft_o, ft_b, ft_b1, ft_b0, List.set_cons_zero, List.set_cons_succ, e, e13, s1, s2, hs25, nr_B0, ft_B0, List.set_set]
  refine t10_51 hgo rfl ?_
  refine t10_52 hgo rfl ?_
  refine res_of (u10_54 hgo) ?_
  simp only [eq_self, and_self, true_and, and_true, not_true_eq_false, not_false_eq_true, if_true, if_false, reduceIte, Option.bind_some, List.getElem?_cons_zero, List.getElem?_cons_succ, Nat.reduceAdd, Nat.reduceSub, Nat.reduceLT, Nat.reduceLeDiff, Nat.le_refl, Nat.zero_add, Nat.add_zero, List.length_cons, List.length_nil, Int32.reduceLT, Int32.reduceToNatClampNeg, Int32.reduceAdd, Int32.reduceSub, Int32.reduceMul, decide_true, aPut, obj, nr_i, nr_j, nr_a, nr_o, nr_b, nr_b1, nr_b0, ft_i, ft_j, ft_a, ft_o, ft_b, ft_b1, ft_b0, List.set_cons_zero, List.set_cons_succ, e, e13, s1, s2, hs25, nr_B0, ft_B0, List.set_set]
  refine t10_57 hgo ?_
  exact is_r
theorem okR_ge {n k j : Nat} (h1 : j < n) (h2 : 25 ≤ j) (h3 : k ≤ 23) : okR n k (.ref j) = true := decide_eq_true (p := j < n ∧ j ≠ k ∧ j ≠ k + 1) ⟨h1, by omega, by omega⟩
theorem fr_9 {n s d k : Nat} {z : Int32} (h1 : s < n) (h2 : d < n) (h3 : 25 ≤ s) (h4 : 25 ≤ d) (h5 : k ≤ 23) : fr3 n k [.val (.ref s), .val (.ref d)] [.null, .int z, .int 0, .ref d, .ref s] [] = true := by
  have e1 := okR_ge h1 h3 h5
  have e2 := okR_ge h2 h4 h5
  simp only [fr3, List.all_cons, List.all_nil, okS, e1, e2, Bool.and_true]
  rfl
theorem fr_9b {n s d : Nat} {z : Int32} (h1 : s < n) (h2 : d < n) (h3 : 25 ≤ s) (h4 : 25 ≤ d) : (fr3 n 21 [.val (.ref s), .val (.ref d)] [.null, .int z, .int 0, .ref d, .ref s] [] && fr3 n 23 [.val (.ref s), .val (.ref d)] [.null, .int z, .int 0, .ref d, .ref s] []) = true := by
  rw [fr_9 h1 h2 h3 h4 (by decide), fr_9 h1 h2 h3 h4 (by decide)]; rfl
theorem F9_ex {s d N : Nat} {n : Int32} {xs : List Int32} {H : AH} (hw0 : w ≠ 0) (hs : H[s]? = some (.inl (0, [.null, .int 0]))) (hs25 : 25 ≤ s) (hd : H[d]? = some (.inr (.char, xs.map Value.int))) (hd25 : 25 ≤ d) (hx : xs.length = N) (hN : N ≤ 11) (h1 : 1 ≤ N) (hc : ∀ c ∈ xs, Chr c) (hn : n.toInt = (N : Int)) :
    ∃ bs : List Int32, bs.length = N ∧ (F9 w vF) [.ref s, .ref d] H = some (none, (H ++ [Sum.inr (FieldType.byte, bs.map Value.int)]).set s (Sum.inl (0, [Value.ref H.length, Value.int 0]))) := by
  obtain ⟨bs, hbs, e⟩ := F10_ex (w := w) (vF := vF) hw0 hs hs25 hd hx hN h1 hc hn
  have hl := ln_map hx (by omega) hn
  have FR3 := fr_9b (z := n) (List.getElem?_eq_some_iff.mp hs).1 (List.getElem?_eq_some_iff.mp hd).1 hs25 hd25
  refine ⟨bs, hbs, ?_⟩
  refine is_of f9_in fun go hgo => ?_
  refine t9_0 hgo rfl ?_
  refine t9_1 hgo rfl ?_
  refine t9_2 hgo ?_
  refine t9_3 hgo rfl ?_
  refine res_of (u9_4 hgo) ?_
  simp only [eq_self, and_self, true_and, and_true, not_true_eq_false, not_false_eq_true, if_true, if_false, reduceIte, Option.bind_some, List.getElem?_cons_zero, List.getElem?_cons_succ, Nat.reduceAdd, Nat.reduceSub, Nat.reduceLT, Nat.reduceLeDiff, Nat.le_refl, Nat.zero_add, Nat.add_zero, List.length_cons, List.length_nil, Int32.reduceLT, Int32.reduceToNatClampNeg, Int32.reduceAdd, Int32.reduceSub, Int32.reduceMul, decide_true, pR_ref, arr, ln0, ln1, ln2, ln3, ln4, ln5, ln6, ln7, ln8, ln9, ln10, ln11, ln12, ln13, ln14, ln15, ln16, ln17, ln18, ln19, ln20, ln21, ln22, ln23, ln24, ln25, ln26, ln27, ln28, ln29, ln30, ln31, ln32, ln33, ln34, ln35, ln36, hd, hs, hl, e]
  refine t9_5 hgo ?_
  refine res_of (u9_6 hgo) ?_
  refine res_t (by first | exact FR3 | (simp only [fr3, List.length_cons, List.length_nil, Nat.reduceAdd, Nat.zero_add, List.all_cons, List.all_nil, okO, all_int, Bool.true_and, Bool.and_true] <;> rfl) | rfl) ?_
  simp only [eq_self, and_self, true_and, and_true, not_true_eq_false, not_false_eq_true, if_true, if_false, reduceIte, Option.bind_some, List.getElem?_cons_zero, List.getElem?_cons_succ, Nat.reduceAdd, Nat.reduceSub, Nat.reduceLT, Nat.reduceLeDiff, Nat.le_refl, Nat.zero_add, Nat.add_zero, List.length_cons, List.length_nil, Int32.reduceLT, Int32.reduceToNatClampNeg, Int32.reduceAdd, Int32.reduceSub, Int32.reduceMul, decide_true, aCall, aRecv, aObj, obj, List.take_succ_cons, List.take_zero, List.drop_succ_cons, List.drop_zero, List.reverse_cons, List.reverse_nil, List.nil_append, List.cons_append, List.append_nil, List.map_cons, List.map_nil, List.sum_cons, List.sum_nil, cat_int, cat_long, cat_ref, cat_null, Option.toList_some, Option.toList_none, hd, hs, hl, e]
  refine t9_9 hgo ?_
  exact is_r
theorem ln_int {xs : List Int32} (hx : xs.length ≤ 100) : (ln (xs.map Value.int)).toInt = (xs.length : Int) := by
  unfold ln; rw [List.length_map]; exact Int32.toInt_ofNat_small (by omega)
theorem l15 {go : GT} (hgo : go = R15 w vF) {a b : Nat} {xs ys : List Int32} {H : AH} (ha : H[a]? = some (.inr (.byte, xs.map Value.int))) (hb : H[b]? = some (.inr (.byte, ys.map Value.int))) (hx : xs.length ≤ 11) (hxy : xs.length = ys.length) :
    ∀ (r k : Nat) (i : Int32) (m : Nat), k + r = xs.length → i.toInt = (k : Int) → Rsq (go (m + (13 * r + 6)) (9, [.val (.ref a), .val (.ref b), .val (.int i)], [], H, 0, 0)) (Is (some (some (.int (if xs.drop k = ys.drop k then 1 else 0)), H))) := by
  have hl := ln_int (xs := xs) (by omega)
  intro r
  induction r with
  | zero =>
    intro k i m hk hi
    have h1 : ¬ i < ln (xs.map Value.int) := nlt_of hi hl (by omega)
    have e : xs.drop k = ys.drop k := by rw [List.drop_eq_nil_of_le (by omega), List.drop_eq_nil_of_le (by omega)]
    refine t15_9 hgo ?_
    refine t15_10 hgo rfl ?_
    refine res_of (u15_11 hgo) ?_
    simp only [eq_self, and_self, true_and, and_true, not_true_eq_false, not_false_eq_true, if_true, if_false, reduceIte, Option.bind_some, List.getElem?_cons_zero, List.getElem?_cons_succ, Nat.reduceAdd, Nat.reduceSub, Nat.reduceLT, Nat.reduceLeDiff, Nat.le_refl, Nat.zero_add, Nat.add_zero, List.length_cons, List.length_nil, Int32.reduceLT, Int32.reduceToNatClampNeg, Int32.reduceAdd, Int32.reduceSub, Int32.reduceMul, decide_true, pR_ref, arr, ln0, ln1, ln2, ln3, ln4, ln5, ln6, ln7, ln8, ln9, ln10, ln11, ln12, ln13, ln14, ln15, ln16, ln17, ln18, ln19, ln20, ln21, ln22, ln23, ln24, ln25, ln26, ln27, ln28, ln29, ln30, ln31, ln32, ln33, ln34, ln35, ln36, ha]
    refine t15_12f hgo h1 ?_
    refine t15_32 hgo ?_
    refine t15_33 hgo ?_
    rw [if_pos e]; exact is_1
  | succ r ih =>
    intro k i m hk hi
    have h1 : i < ln (xs.map Value.int) := lt_of hi hl (by omega)
    obtain ⟨i1, i2⟩ := i_idx hi
    have kx : k < xs.length := by omega
    have ky : k < ys.length := by omega
    have ex : (xs.map Value.int)[k]? = some (.int xs[k]) := by rw [List.getElem?_map, List.getElem?_eq_getElem kx]; rfl
    have ey : (ys.map Value.int)[k]? = some (.int ys[k]) := by rw [List.getElem?_map, List.getElem?_eq_getElem ky]; rfl
    rw [show m + (13 * (r + 1) + 6) = (m + (13 * r + 6)) + 13 by omega]
    refine t15_9 hgo ?_
    refine t15_10 hgo rfl ?_
    refine res_of (u15_11 hgo) ?_
    simp only [eq_self, and_self, true_and, and_true, not_true_eq_false, not_false_eq_true, if_true, if_false, reduceIte, Option.bind_some, List.getElem?_cons_zero, List.getElem?_cons_succ, Nat.reduceAdd, Nat.reduceSub, Nat.reduceLT, Nat.reduceLeDiff, Nat.le_refl, Nat.zero_add, Nat.add_zero, List.length_cons, List.length_nil, Int32.reduceLT, Int32.reduceToNatClampNeg, Int32.reduceAdd, Int32.reduceSub, Int32.reduceMul, decide_true, pR_ref, arr, ln0, ln1, ln2, ln3, ln4, ln5, ln6, ln7, ln8, ln9, ln10, ln11, ln12, ln13, ln14, ln15, ln16, ln17, ln18, ln19, ln20, ln21, ln22, ln23, ln24, ln25, ln26, ln27, ln28, ln29, ln30, ln31, ln32, ln33, ln34, ln35, ln36, ha, hb, i1, i2, ex, ey]
    refine t15_12t hgo h1 ?_
    refine t15_15 hgo rfl ?_
    refine t15_16 hgo ?_
    refine res_of (u15_17 hgo) ?_
    simp only [eq_self, and_self, true_and, and_true, not_true_eq_false, not_false_eq_true, if_true, if_false, reduceIte, Option.bind_some, List.getElem?_cons_zero, List.getElem?_cons_succ, Nat.reduceAdd, Nat.reduceSub, Nat.reduceLT, Nat.reduceLeDiff, Nat.le_refl, Nat.zero_add, Nat.add_zero, List.length_cons, List.length_nil, Int32.reduceLT, Int32.reduceToNatClampNeg, Int32.reduceAdd, Int32.reduceSub, Int32.reduceMul, decide_true, ex_baload, ald, pI_int, pR_ref, arr, isT, isBZ, ha, hb, i1, i2, ex, ey]
    refine t15_18 hgo rfl ?_
    refine t15_19 hgo ?_
    refine res_of (u15_20 hgo) ?_
    simp only [eq_self, and_self, true_and, and_true, not_true_eq_false, not_false_eq_true, if_true, if_false, reduceIte, Option.bind_some, List.getElem?_cons_zero, List.getElem?_cons_succ, Nat.reduceAdd, Nat.reduceSub, Nat.reduceLT, Nat.reduceLeDiff, Nat.le_refl, Nat.zero_add, Nat.add_zero, List.length_cons, List.length_nil, Int32.reduceLT, Int32.reduceToNatClampNeg, Int32.reduceAdd, Int32.reduceSub, Int32.reduceMul, decide_true, ex_baload, ald, pI_int, pR_ref, arr, isT, isBZ, ha, hb, i1, i2, ex, ey]
    by_cases q : xs[k] = ys[k]
    · have e : (xs.drop k = ys.drop k) = (xs.drop (k + 1) = ys.drop (k + 1)) := by
        rw [List.drop_eq_getElem_cons kx, List.drop_eq_getElem_cons ky, List.cons.injEq]
        simp [q]
      refine t15_21t hgo q ?_
      refine t15_26 hgo ?_
      refine t15_29 hgo ?_
      simp only [e]
      exact ih (k + 1) (i + 1) _ (by omega) (i_add hi (by omega))
    · have e : ¬ xs.drop k = ys.drop k := by
        rw [List.drop_eq_getElem_cons kx, List.drop_eq_getElem_cons ky, List.cons.injEq]
        exact fun u => q u.1
      refine t15_21f hgo q ?_
      refine t15_24 hgo ?_
      refine t15_25 hgo ?_
      rw [if_neg e]; exact is_0
theorem F15_eq {a b : Nat} {xs ys : List Int32} {H : AH} (ha : H[a]? = some (.inr (.byte, xs.map Value.int))) (hb : H[b]? = some (.inr (.byte, ys.map Value.int))) (hx : xs.length ≤ 11) (hy : ys.length ≤ 11) : (F15 w vF) [.ref a, .ref b] H = some (some (.int (if xs = ys then 1 else 0)), H) := by
  have hl := ln_int (xs := xs) (by omega)
  have hl' := ln_int (xs := ys) (by omega)
  refine is_of f15_in fun go hgo => ?_
  refine t15_0 hgo rfl ?_
  refine res_of (u15_1 hgo) ?_
  simp only [eq_self, and_self, true_and, and_true, not_true_eq_false, not_false_eq_true, if_true, if_false, reduceIte, Option.bind_some, List.getElem?_cons_zero, List.getElem?_cons_succ, Nat.reduceAdd, Nat.reduceSub, Nat.reduceLT, Nat.reduceLeDiff, Nat.le_refl, Nat.zero_add, Nat.add_zero, List.length_cons, List.length_nil, Int32.reduceLT, Int32.reduceToNatClampNeg, Int32.reduceAdd, Int32.reduceSub, Int32.reduceMul, decide_true, pR_ref, arr, ln0, ln1, ln2, ln3, ln4, ln5, ln6, ln7, ln8, ln9, ln10, ln11, ln12, ln13, ln14, ln15, ln16, ln17, ln18, ln19, ln20, ln21, ln22, ln23, ln24, ln25, ln26, ln27, ln28, ln29, ln30, ln31, ln32, ln33, ln34, ln35, ln36, ha, hb]
  refine t15_2 hgo rfl ?_
  refine res_of (u15_3 hgo) ?_
  simp only [eq_self, and_self, true_and, and_true, not_true_eq_false, not_false_eq_true, if_true, if_false, reduceIte, Option.bind_some, List.getElem?_cons_zero, List.getElem?_cons_succ, Nat.reduceAdd, Nat.reduceSub, Nat.reduceLT, Nat.reduceLeDiff, Nat.le_refl, Nat.zero_add, Nat.add_zero, List.length_cons, List.length_nil, Int32.reduceLT, Int32.reduceToNatClampNeg, Int32.reduceAdd, Int32.reduceSub, Int32.reduceMul, decide_true, pR_ref, arr, ln0, ln1, ln2, ln3, ln4, ln5, ln6, ln7, ln8, ln9, ln10, ln11, ln12, ln13, ln14, ln15, ln16, ln17, ln18, ln19, ln20, ln21, ln22, ln23, ln24, ln25, ln26, ln27, ln28, ln29, ln30, ln31, ln32, ln33, ln34, ln35, ln36, ha, hb]
  by_cases q : xs.length = ys.length
  · skip
    refine t15_4t hgo (i_inj (by omega)) ?_
    refine t15_7 hgo ?_
    refine t15_8 hgo rfl ?_
    have := l15 hgo ha hb hx q xs.length 0 0 (287 - 13 * xs.length) (by omega) (by decide)
    rw [show 287 - 13 * xs.length + (13 * xs.length + 6) = 293 by omega] at this
    simpa only [List.drop_zero] using this
  · have e : ¬ xs = ys := fun u => q (by rw [u])
    refine t15_4f hgo (fun u => q (by rw [u] at hl; omega)) ?_
    refine t15_34 hgo ?_
    refine t15_35 hgo ?_
    rw [if_neg e]; exact is_0
theorem F14_eq {a b va vb : Nat} {xs ys : List Int32} {H : AH} (hw0 : w ≠ 0) (ab : ¬ a = b) (hab : okc 25 (.ref a) (.ref b) = true) (hA : H[a]? = some (.inl (0, [.ref va, .int 0]))) (hB : H[b]? = some (.inl (0, [.ref vb, .int 0]))) (ha : H[va]? = some (.inr (.byte, xs.map Value.int))) (hb : H[vb]? = some (.inr (.byte, ys.map Value.int))) (hx : xs.length ≤ 11) (hy : ys.length ≤ 11) : (F14 w vF) [.ref a, .ref b] H = some (some (.int (if xs = ys then 1 else 0)), H) := by
  have e := F15_eq (w := w) (vF := vF) ha hb hx hy
  refine is_of f14_in fun go hgo => ?_
  by_cases q : xs = ys
  · rw [if_pos q] at e ⊢
    refine t14_0 hgo rfl ?_
    refine t14_1 hgo rfl ?_
    refine t14_2f hgo ab hab ?_
    refine t14_7 hgo rfl ?_
    refine res_of (u14_8 hgo) ?_
    simp only [eq_self, and_self, true_and, and_true, not_true_eq_false, not_false_eq_true, if_true, if_false, reduceIte, Option.bind_some, List.getElem?_cons_zero, List.getElem?_cons_succ, Nat.reduceAdd, Nat.reduceSub, Nat.reduceLT, Nat.reduceLeDiff, Nat.le_refl, Nat.zero_add, Nat.add_zero, List.length_cons, List.length_nil, Int32.reduceLT, Int32.reduceToNatClampNeg, Int32.reduceAdd, Int32.reduceSub, Int32.reduceMul, decide_true, aInst, obj, hA, hB, e]
    refine t14_11f hgo (by decide) ?_
    refine t14_14 hgo rfl ?_
    refine res_of (u14_15 hgo) ?_
    simp only [eq_self, and_self, true_and, and_true, not_true_eq_false, not_false_eq_true, if_true, if_false, reduceIte, Option.bind_some, List.getElem?_cons_zero, List.getElem?_cons_succ, Nat.reduceAdd, Nat.reduceSub, Nat.reduceLT, Nat.reduceLeDiff, Nat.le_refl, Nat.zero_add, Nat.add_zero, List.length_cons, List.length_nil, Int32.reduceLT, Int32.reduceToNatClampNeg, Int32.reduceAdd, Int32.reduceSub, Int32.reduceMul, decide_true, aCastO, obj, hA, hB, e]
    refine t14_18 hgo rfl rfl ?_
    refine res_of (u14_19 hgo) ?_
    simp only [eq_self, and_self, true_and, and_true, not_true_eq_false, not_false_eq_true, if_true, if_false, reduceIte, Option.bind_some, List.getElem?_cons_zero, List.getElem?_cons_succ, Nat.reduceAdd, Nat.reduceSub, Nat.reduceLT, Nat.reduceLeDiff, Nat.le_refl, Nat.zero_add, Nat.add_zero, List.length_cons, List.length_nil, Int32.reduceLT, Int32.reduceToNatClampNeg, Int32.reduceAdd, Int32.reduceSub, Int32.reduceMul, decide_true, aSta, hA, hB, e]
    refine t14_22f hgo hw0 ?_
    refine t14_25 hgo rfl ?_
    refine res_of (u14_26 hgo) ?_
    simp only [eq_self, and_self, true_and, and_true, not_true_eq_false, not_false_eq_true, if_true, if_false, reduceIte, Option.bind_some, List.getElem?_cons_zero, List.getElem?_cons_succ, Nat.reduceAdd, Nat.reduceSub, Nat.reduceLT, Nat.reduceLeDiff, Nat.le_refl, Nat.zero_add, Nat.add_zero, List.length_cons, List.length_nil, Int32.reduceLT, Int32.reduceToNatClampNeg, Int32.reduceAdd, Int32.reduceSub, Int32.reduceMul, decide_true, aGet, obj, hA, hB, e]
    refine t14_29 hgo rfl ?_
    refine res_of (u14_30 hgo) ?_
    simp only [eq_self, and_self, true_and, and_true, not_true_eq_false, not_false_eq_true, if_true, if_false, reduceIte, Option.bind_some, List.getElem?_cons_zero, List.getElem?_cons_succ, Nat.reduceAdd, Nat.reduceSub, Nat.reduceLT, Nat.reduceLeDiff, Nat.le_refl, Nat.zero_add, Nat.add_zero, List.length_cons, List.length_nil, Int32.reduceLT, Int32.reduceToNatClampNeg, Int32.reduceAdd, Int32.reduceSub, Int32.reduceMul, decide_true, aGet, obj, hA, hB, e]
    refine t14_33t hgo rfl ?_
    refine t14_36 hgo rfl ?_
    refine res_of (u14_37 hgo) ?_
    simp only [eq_self, and_self, true_and, and_true, not_true_eq_false, not_false_eq_true, if_true, if_false, reduceIte, Option.bind_some, List.getElem?_cons_zero, List.getElem?_cons_succ, Nat.reduceAdd, Nat.reduceSub, Nat.reduceLT, Nat.reduceLeDiff, Nat.le_refl, Nat.zero_add, Nat.add_zero, List.length_cons, List.length_nil, Int32.reduceLT, Int32.reduceToNatClampNeg, Int32.reduceAdd, Int32.reduceSub, Int32.reduceMul, decide_true, aGet, obj, hA, hB, e]
    refine t14_40 hgo rfl ?_
    refine res_of (u14_41 hgo) ?_
    simp only [eq_self, and_self, true_and, and_true, not_true_eq_false, not_false_eq_true, if_true, if_false, reduceIte, Option.bind_some, List.getElem?_cons_zero, List.getElem?_cons_succ, Nat.reduceAdd, Nat.reduceSub, Nat.reduceLT, Nat.reduceLeDiff, Nat.le_refl, Nat.zero_add, Nat.add_zero, List.length_cons, List.length_nil, Int32.reduceLT, Int32.reduceToNatClampNeg, Int32.reduceAdd, Int32.reduceSub, Int32.reduceMul, decide_true, aGet, obj, hA, hB, e]
    refine res_of (u14_44 hgo) ?_
    simp only [eq_self, and_self, true_and, and_true, not_true_eq_false, not_false_eq_true, if_true, if_false, reduceIte, Option.bind_some, List.getElem?_cons_zero, List.getElem?_cons_succ, Nat.reduceAdd, Nat.reduceSub, Nat.reduceLT, Nat.reduceLeDiff, Nat.le_refl, Nat.zero_add, Nat.add_zero, List.length_cons, List.length_nil, Int32.reduceLT, Int32.reduceToNatClampNeg, Int32.reduceAdd, Int32.reduceSub, Int32.reduceMul, decide_true, aCall, aRecv, aObj, obj, List.take_succ_cons, List.take_zero, List.drop_succ_cons, List.drop_zero, List.reverse_cons, List.reverse_nil, List.nil_append, List.cons_append, List.append_nil, List.map_cons, List.map_nil, List.sum_cons, List.sum_nil, cat_int, cat_long, cat_ref, cat_null, Option.toList_some, Option.toList_none, hA, hB, e]
    refine t14_47f hgo (by decide) ?_
    refine t14_50 hgo ?_
    refine t14_51 hgo ?_
    refine t14_55 hgo ?_
    exact is_1
  · rw [if_neg q] at e ⊢
    refine t14_0 hgo rfl ?_
    refine t14_1 hgo rfl ?_
    refine t14_2f hgo ab hab ?_
    refine t14_7 hgo rfl ?_
    refine res_of (u14_8 hgo) ?_
    simp only [eq_self, and_self, true_and, and_true, not_true_eq_false, not_false_eq_true, if_true, if_false, reduceIte, Option.bind_some, List.getElem?_cons_zero, List.getElem?_cons_succ, Nat.reduceAdd, Nat.reduceSub, Nat.reduceLT, Nat.reduceLeDiff, Nat.le_refl, Nat.zero_add, Nat.add_zero, List.length_cons, List.length_nil, Int32.reduceLT, Int32.reduceToNatClampNeg, Int32.reduceAdd, Int32.reduceSub, Int32.reduceMul, decide_true, aInst, obj, hA, hB, e]
    refine t14_11f hgo (by decide) ?_
    refine t14_14 hgo rfl ?_
    refine res_of (u14_15 hgo) ?_
    simp only [eq_self, and_self, true_and, and_true, not_true_eq_false, not_false_eq_true, if_true, if_false, reduceIte, Option.bind_some, List.getElem?_cons_zero, List.getElem?_cons_succ, Nat.reduceAdd, Nat.reduceSub, Nat.reduceLT, Nat.reduceLeDiff, Nat.le_refl, Nat.zero_add, Nat.add_zero, List.length_cons, List.length_nil, Int32.reduceLT, Int32.reduceToNatClampNeg, Int32.reduceAdd, Int32.reduceSub, Int32.reduceMul, decide_true, aCastO, obj, hA, hB, e]
    refine t14_18 hgo rfl rfl ?_
    refine res_of (u14_19 hgo) ?_
    simp only [eq_self, and_self, true_and, and_true, not_true_eq_false, not_false_eq_true, if_true, if_false, reduceIte, Option.bind_some, List.getElem?_cons_zero, List.getElem?_cons_succ, Nat.reduceAdd, Nat.reduceSub, Nat.reduceLT, Nat.reduceLeDiff, Nat.le_refl, Nat.zero_add, Nat.add_zero, List.length_cons, List.length_nil, Int32.reduceLT, Int32.reduceToNatClampNeg, Int32.reduceAdd, Int32.reduceSub, Int32.reduceMul, decide_true, aSta, hA, hB, e]
    refine t14_22f hgo hw0 ?_
    refine t14_25 hgo rfl ?_
    refine res_of (u14_26 hgo) ?_
    simp only [eq_self, and_self, true_and, and_true, not_true_eq_false, not_false_eq_true, if_true, if_false, reduceIte, Option.bind_some, List.getElem?_cons_zero, List.getElem?_cons_succ, Nat.reduceAdd, Nat.reduceSub, Nat.reduceLT, Nat.reduceLeDiff, Nat.le_refl, Nat.zero_add, Nat.add_zero, List.length_cons, List.length_nil, Int32.reduceLT, Int32.reduceToNatClampNeg, Int32.reduceAdd, Int32.reduceSub, Int32.reduceMul, decide_true, aGet, obj, hA, hB, e]
    refine t14_29 hgo rfl ?_
    refine res_of (u14_30 hgo) ?_
    simp only [eq_self, and_self, true_and, and_true, not_true_eq_false, not_false_eq_true, if_true, if_false, reduceIte, Option.bind_some, List.getElem?_cons_zero, List.getElem?_cons_succ, Nat.reduceAdd, Nat.reduceSub, Nat.reduceLT, Nat.reduceLeDiff, Nat.le_refl, Nat.zero_add, Nat.add_zero, List.length_cons, List.length_nil, Int32.reduceLT, Int32.reduceToNatClampNeg, Int32.reduceAdd, Int32.reduceSub, Int32.reduceMul, decide_true, aGet, obj, hA, hB, e]
    refine t14_33t hgo rfl ?_
    refine t14_36 hgo rfl ?_
    refine res_of (u14_37 hgo) ?_
    simp only [eq_self, and_self, true_and, and_true, not_true_eq_false, not_false_eq_true, if_true, if_false, reduceIte, Option.bind_some, List.getElem?_cons_zero, List.getElem?_cons_succ, Nat.reduceAdd, Nat.reduceSub, Nat.reduceLT, Nat.reduceLeDiff, Nat.le_refl, Nat.zero_add, Nat.add_zero, List.length_cons, List.length_nil, Int32.reduceLT, Int32.reduceToNatClampNeg, Int32.reduceAdd, Int32.reduceSub, Int32.reduceMul, decide_true, aGet, obj, hA, hB, e]
    refine t14_40 hgo rfl ?_
    refine res_of (u14_41 hgo) ?_
    simp only [eq_self, and_self, true_and, and_true, not_true_eq_false, not_false_eq_true, if_true, if_false, reduceIte, Option.bind_some, List.getElem?_cons_zero, List.getElem?_cons_succ, Nat.reduceAdd, Nat.reduceSub, Nat.reduceLT, Nat.reduceLeDiff, Nat.le_refl, Nat.zero_add, Nat.add_zero, List.length_cons, List.length_nil, Int32.reduceLT, Int32.reduceToNatClampNeg, Int32.reduceAdd, Int32.reduceSub, Int32.reduceMul, decide_true, aGet, obj, hA, hB, e]
    refine res_of (u14_44 hgo) ?_
    simp only [eq_self, and_self, true_and, and_true, not_true_eq_false, not_false_eq_true, if_true, if_false, reduceIte, Option.bind_some, List.getElem?_cons_zero, List.getElem?_cons_succ, Nat.reduceAdd, Nat.reduceSub, Nat.reduceLT, Nat.reduceLeDiff, Nat.le_refl, Nat.zero_add, Nat.add_zero, List.length_cons, List.length_nil, Int32.reduceLT, Int32.reduceToNatClampNeg, Int32.reduceAdd, Int32.reduceSub, Int32.reduceMul, decide_true, aCall, aRecv, aObj, obj, List.take_succ_cons, List.take_zero, List.drop_succ_cons, List.drop_zero, List.reverse_cons, List.reverse_nil, List.nil_append, List.cons_append, List.append_nil, List.map_cons, List.map_nil, List.sum_cons, List.sum_nil, cat_int, cat_long, cat_ref, cat_null, Option.toList_some, Option.toList_none, hA, hB, e]
    refine t14_47t hgo (by decide) ?_
    refine t14_54 hgo ?_
    refine t14_55 hgo ?_
    exact is_0

theorem F17_eq {H : AH} (h2 : H[2]? = some (.inr (.object "com/example/mithi/mithi/importer/EdgeWeighting$Scheme", [.ref 0, .ref 1]))) : (F17 w vF) [] H = some (some (.ref H.length), H ++ [.inr (.object "com/example/mithi/mithi/importer/EdgeWeighting$Scheme", [.ref 0, .ref 1])]) := by
  have hn : (H ++ [Sum.inr (FieldType.object "com/example/mithi/mithi/importer/EdgeWeighting$Scheme", [Value.ref 0, Value.ref 1])])[H.length]? = some (.inr (.object "com/example/mithi/mithi/importer/EdgeWeighting$Scheme", [.ref 0, .ref 1])) := nw
  refine is_of f17_in fun go hgo => ?_
  refine res_of (u17_0 hgo) ?_
  simp only [eq_self, and_self, true_and, and_true, not_true_eq_false, not_false_eq_true, if_true, if_false, reduceIte, Option.bind_some, List.getElem?_cons_zero, List.getElem?_cons_succ, Nat.reduceAdd, Nat.reduceSub, Nat.reduceLT, Nat.reduceLeDiff, Nat.le_refl, Nat.zero_add, Nat.add_zero, List.length_cons, List.length_nil, Int32.reduceLT, Int32.reduceToNatClampNeg, Int32.reduceAdd, Int32.reduceSub, Int32.reduceMul, decide_true, aSta, h2, hn]
  refine res_of (u17_3 hgo) ?_
  simp only [eq_self, and_self, true_and, and_true, not_true_eq_false, not_false_eq_true, if_true, if_false, reduceIte, Option.bind_some, List.getElem?_cons_zero, List.getElem?_cons_succ, Nat.reduceAdd, Nat.reduceSub, Nat.reduceLT, Nat.reduceLeDiff, Nat.le_refl, Nat.zero_add, Nat.add_zero, List.length_cons, List.length_nil, Int32.reduceLT, Int32.reduceToNatClampNeg, Int32.reduceAdd, Int32.reduceSub, Int32.reduceMul, decide_true, aCloneR, arr, List.nil_append, List.cons_append, List.map_nil, List.sum_nil, h2, hn]
  refine res_of (u17_6 hgo) ?_
  simp only [eq_self, and_self, true_and, and_true, not_true_eq_false, not_false_eq_true, if_true, if_false, reduceIte, Option.bind_some, List.getElem?_cons_zero, List.getElem?_cons_succ, Nat.reduceAdd, Nat.reduceSub, Nat.reduceLT, Nat.reduceLeDiff, Nat.le_refl, Nat.zero_add, Nat.add_zero, List.length_cons, List.length_nil, Int32.reduceLT, Int32.reduceToNatClampNeg, Int32.reduceAdd, Int32.reduceSub, Int32.reduceMul, decide_true, aCastR, arr, h2, hn]
  refine t17_9 hgo rfl ?_
  exact is_r
theorem F21_eq {a : Nat} {H : AH} : (F21 w vF) [.ref a] H = some (some (.ref a), H) := by
  refine is_of f21_in fun go hgo => ?_
  refine t21_0 hgo rfl ?_
  refine t21_1f hgo ?_
  refine t21_12 hgo rfl ?_
  refine t21_13 hgo rfl ?_
  exact is_r
theorem F22_eq {a v : Nat} {H : AH} (ha : H[a]? = some (.inl (1, [.null]))) (h25 : 25 ≤ a) : (F22 w vF) [.ref a, .ref v] H = some (none, H.set a (.inl (1, [.ref v]))) := by
  refine is_of f22_in fun go hgo => ?_
  refine t22_0 hgo rfl ?_
  refine res_of (u22_1 hgo) ?_
  simp only [eq_self, and_self, true_and, and_true, not_true_eq_false, not_false_eq_true, if_true, if_false, reduceIte, Option.bind_some, List.getElem?_cons_zero, List.getElem?_cons_succ, Nat.reduceAdd, Nat.reduceSub, Nat.reduceLT, Nat.reduceLeDiff, Nat.le_refl, Nat.zero_add, Nat.add_zero, List.length_cons, List.length_nil, Int32.reduceLT, Int32.reduceToNatClampNeg, Int32.reduceAdd, Int32.reduceSub, Int32.reduceMul, decide_true, aCall, aRecv, aObj, obj, List.take_succ_cons, List.take_zero, List.drop_succ_cons, List.drop_zero, List.reverse_cons, List.reverse_nil, List.nil_append, List.cons_append, List.append_nil, List.map_cons, List.map_nil, List.sum_cons, List.sum_nil, cat_int, cat_long, cat_ref, cat_null, Option.toList_some, Option.toList_none, ha, h25]
  refine t22_4 hgo rfl ?_
  refine t22_5 hgo rfl ?_
  refine res_of (u22_6 hgo) ?_
  simp only [eq_self, and_self, true_and, and_true, not_true_eq_false, not_false_eq_true, if_true, if_false, reduceIte, Option.bind_some, List.getElem?_cons_zero, List.getElem?_cons_succ, Nat.reduceAdd, Nat.reduceSub, Nat.reduceLT, Nat.reduceLeDiff, Nat.le_refl, Nat.zero_add, Nat.add_zero, List.length_cons, List.length_nil, Int32.reduceLT, Int32.reduceToNatClampNeg, Int32.reduceAdd, Int32.reduceSub, Int32.reduceMul, decide_true, aPut, obj, nr_i, nr_j, nr_a, nr_o, nr_b, nr_b1, nr_b0, ft_i, ft_j, ft_a, ft_o, ft_b, ft_b1, ft_b0, List.set_cons_zero, List.set_cons_succ, ha, h25]
  refine t22_9 hgo ?_
  exact is_r
theorem F20_eq {v : Nat} {H : AH} (hH : 25 ≤ H.length) : (F20 w vF) [.ref v] H = some (some (.ref H.length), H ++ [.inl (1, [.ref v])]) := by
  have e := F22_eq (w := w) (vF := vF) (H := H ++ [.inl (1, [.null])]) (a := H.length) (v := v) nw hH
  rw [List.set_append_right _ _ (Nat.le_refl _), Nat.sub_self, List.set_cons_zero] at e
  have hn : (H ++ [Sum.inl (1, [Value.null])])[H.length]? = some (.inl (1, [.null])) := nw
  refine is_of f20_in fun go hgo => ?_
  refine res_of (u20_0 hgo) ?_
  simp only [eq_self, and_self, true_and, and_true, not_true_eq_false, not_false_eq_true, if_true, if_false, reduceIte, Option.bind_some, List.getElem?_cons_zero, List.getElem?_cons_succ, Nat.reduceAdd, Nat.reduceSub, Nat.reduceLT, Nat.reduceLeDiff, Nat.le_refl, Nat.zero_add, Nat.add_zero, List.length_cons, List.length_nil, Int32.reduceLT, Int32.reduceToNatClampNeg, Int32.reduceAdd, Int32.reduceSub, Int32.reduceMul, decide_true, aNew, List.nil_append, List.cons_append, F21_eq, e, hn]
  refine t20_3 hgo rfl ?_
  refine t20_4 hgo rfl ?_
  refine res_of (u20_5 hgo) ?_
  simp only [eq_self, and_self, true_and, and_true, not_true_eq_false, not_false_eq_true, if_true, if_false, reduceIte, Option.bind_some, List.getElem?_cons_zero, List.getElem?_cons_succ, Nat.reduceAdd, Nat.reduceSub, Nat.reduceLT, Nat.reduceLeDiff, Nat.le_refl, Nat.zero_add, Nat.add_zero, List.length_cons, List.length_nil, Int32.reduceLT, Int32.reduceToNatClampNeg, Int32.reduceAdd, Int32.reduceSub, Int32.reduceMul, decide_true, aCall, aRecv, aObj, obj, List.take_succ_cons, List.take_zero, List.drop_succ_cons, List.drop_zero, List.reverse_cons, List.reverse_nil, List.nil_append, List.cons_append, List.append_nil, List.map_cons, List.map_nil, List.sum_cons, List.sum_nil, cat_int, cat_long, cat_ref, cat_null, Option.toList_some, Option.toList_none, F21_eq, e, hn]
  refine res_of (u20_8 hgo) ?_
  simp only [eq_self, and_self, true_and, and_true, not_true_eq_false, not_false_eq_true, if_true, if_false, reduceIte, Option.bind_some, List.getElem?_cons_zero, List.getElem?_cons_succ, Nat.reduceAdd, Nat.reduceSub, Nat.reduceLT, Nat.reduceLeDiff, Nat.le_refl, Nat.zero_add, Nat.add_zero, List.length_cons, List.length_nil, Int32.reduceLT, Int32.reduceToNatClampNeg, Int32.reduceAdd, Int32.reduceSub, Int32.reduceMul, decide_true, aCall, aRecv, aObj, obj, List.take_succ_cons, List.take_zero, List.drop_succ_cons, List.drop_zero, List.reverse_cons, List.reverse_nil, List.nil_append, List.cons_append, List.append_nil, List.map_cons, List.map_nil, List.sum_cons, List.sum_nil, cat_int, cat_long, cat_ref, cat_null, Option.toList_some, Option.toList_none, F21_eq, e, hn]
  refine t20_11 hgo rfl ?_
  exact is_r
theorem F18_eq {H : AH} : (F18 w vF) [] H = some (some (.ref 7), H) := by
  refine is_of f18_in fun go hgo => ?_
  refine res_of (u18_0 hgo) ?_
  simp only [eq_self, and_self, true_and, and_true, not_true_eq_false, not_false_eq_true, if_true, if_false, reduceIte, Option.bind_some, List.getElem?_cons_zero, List.getElem?_cons_succ, Nat.reduceAdd, Nat.reduceSub, Nat.reduceLT, Nat.reduceLeDiff, Nat.le_refl, Nat.zero_add, Nat.add_zero, List.length_cons, List.length_nil, Int32.reduceLT, Int32.reduceToNatClampNeg, Int32.reduceAdd, Int32.reduceSub, Int32.reduceMul, decide_true, aSta]
  refine t18_3 hgo rfl rfl ?_
  refine t18_4 hgo rfl ?_
  refine t18_5 hgo rfl ?_
  exact is_r
theorem F19_n {a : Nat} {H : AH} (ha : H[a]? = some (.inl (1, [.null]))) : (F19 w vF) [.ref a] H = some (some (.int 0), H) := by
  refine is_of f19_in fun go hgo => ?_
  refine t19_0 hgo rfl ?_
  refine res_of (u19_1 hgo) ?_
  simp only [eq_self, and_self, true_and, and_true, not_true_eq_false, not_false_eq_true, if_true, if_false, reduceIte, Option.bind_some, List.getElem?_cons_zero, List.getElem?_cons_succ, Nat.reduceAdd, Nat.reduceSub, Nat.reduceLT, Nat.reduceLeDiff, Nat.le_refl, Nat.zero_add, Nat.add_zero, List.length_cons, List.length_nil, Int32.reduceLT, Int32.reduceToNatClampNeg, Int32.reduceAdd, Int32.reduceSub, Int32.reduceMul, decide_true, aGet, obj, ha]
  refine t19_4t hgo ?_
  refine t19_11 hgo ?_
  refine t19_12 hgo ?_
  exact is_0
theorem F19_r {a v : Nat} {H : AH} (ha : H[a]? = some (.inl (1, [.ref v]))) : (F19 w vF) [.ref a] H = some (some (.int 1), H) := by
  refine is_of f19_in fun go hgo => ?_
  refine t19_0 hgo rfl ?_
  refine res_of (u19_1 hgo) ?_
  simp only [eq_self, and_self, true_and, and_true, not_true_eq_false, not_false_eq_true, if_true, if_false, reduceIte, Option.bind_some, List.getElem?_cons_zero, List.getElem?_cons_succ, Nat.reduceAdd, Nat.reduceSub, Nat.reduceLT, Nat.reduceLeDiff, Nat.le_refl, Nat.zero_add, Nat.add_zero, List.length_cons, List.length_nil, Int32.reduceLT, Int32.reduceToNatClampNeg, Int32.reduceAdd, Int32.reduceSub, Int32.reduceMul, decide_true, aGet, obj, ha]
  refine t19_4f hgo ?_
  refine t19_7 hgo ?_
  refine t19_8 hgo ?_
  refine t19_12 hgo ?_
  exact is_1
theorem F23_eq {a v : Nat} {H : AH} (ha : H[a]? = some (.inl (1, [.ref v]))) : (F23 w vF) [.ref a] H = some (some (.ref v), H) := by
  refine is_of f23_in fun go hgo => ?_
  refine t23_0 hgo rfl ?_
  refine res_of (u23_1 hgo) ?_
  simp only [eq_self, and_self, true_and, and_true, not_true_eq_false, not_false_eq_true, if_true, if_false, reduceIte, Option.bind_some, List.getElem?_cons_zero, List.getElem?_cons_succ, Nat.reduceAdd, Nat.reduceSub, Nat.reduceLT, Nat.reduceLeDiff, Nat.le_refl, Nat.zero_add, Nat.add_zero, List.length_cons, List.length_nil, Int32.reduceLT, Int32.reduceToNatClampNeg, Int32.reduceAdd, Int32.reduceSub, Int32.reduceMul, decide_true, aGet, obj, ha]
  refine t23_4f hgo ?_
  refine t23_17 hgo rfl ?_
  refine res_of (u23_18 hgo) ?_
  simp only [eq_self, and_self, true_and, and_true, not_true_eq_false, not_false_eq_true, if_true, if_false, reduceIte, Option.bind_some, List.getElem?_cons_zero, List.getElem?_cons_succ, Nat.reduceAdd, Nat.reduceSub, Nat.reduceLT, Nat.reduceLeDiff, Nat.le_refl, Nat.zero_add, Nat.add_zero, List.length_cons, List.length_nil, Int32.reduceLT, Int32.reduceToNatClampNeg, Int32.reduceAdd, Int32.reduceSub, Int32.reduceMul, decide_true, aGet, obj, ha]
  refine t23_21 hgo rfl ?_
  exact is_r
def eqB : List Int32 := [101, 113, 117, 97, 108]
def lgB : List Int32 := [108, 111, 103, 45, 100, 101, 103, 114, 101, 101]
theorem okc_r {a s : Nat} (h : 25 ≤ s) (h8 : a ≠ 8) : okc 25 (.ref a) (.ref s) = true := decide_eq_true (p := a = s ∨ ((25 ≤ a ∨ 25 ≤ s) ∧ a ≠ 8 ∧ s ≠ 8) ∨ (a < 2 ∧ s < 2)) (Or.inr (Or.inl ⟨Or.inr h, h8, by omega⟩))
theorem okc_l {a s : Nat} (h : 25 ≤ s) (h8 : a ≠ 8) : okc 25 (.ref s) (.ref a) = true := decide_eq_true (p := s = a ∨ ((25 ≤ s ∨ 25 ≤ a) ∧ s ≠ 8 ∧ a ≠ 8) ∨ (s < 2 ∧ a < 2)) (Or.inr (Or.inl ⟨Or.inl h, by omega, h8⟩))
set_option maxRecDepth 65536 in
set_option maxHeartbeats 4000000 in
theorem F16_a {s v : Nat} {xs : List Int32} {H : AH} (hw0 : w ≠ 0) (h0 : H[0]? = some (.inl (2, [.ref 3]))) (h1 : H[1]? = some (.inl (2, [.ref 5]))) (h2 : H[2]? = some (Sum.inr (FieldType.object "com/example/mithi/mithi/importer/EdgeWeighting$Scheme", [Value.ref 0, Value.ref 1]))) (h3 : H[3]? = some (.inl (0, [.ref 4, .int 0]))) (h4 : H[4]? = some (.inr (.byte, eqB.map Value.int))) (h5 : H[5]? = some (.inl (0, [.ref 6, .int 0]))) (h6 : H[6]? = some (.inr (.byte, lgB.map Value.int))) (hs : H[s]? = some (.inl (0, [.ref v, .int 0]))) (hv : H[v]? = some (.inr (.byte, xs.map Value.int))) (hs25 : 25 ≤ s) (hx : xs.length ≤ 11) (e : eqB = xs) : (F16 w vF) [.ref s] H = some (some (.ref (H ++ [Sum.inr (FieldType.object "com/example/mithi/mithi/importer/EdgeWeighting$Scheme", [Value.ref 0, Value.ref 1])]).length), (H ++ [Sum.inr (FieldType.object "com/example/mithi/mithi/importer/EdgeWeighting$Scheme", [Value.ref 0, Value.ref 1])]) ++ [.inl (1, [.ref 0])]) := by
  have hH : 25 ≤ H.length := Nat.le_of_lt (Nat.lt_of_le_of_lt hs25 (List.getElem?_eq_some_iff.mp hs).1)
  have hn : (H ++ [Sum.inr (FieldType.object "com/example/mithi/mithi/importer/EdgeWeighting$Scheme", [Value.ref 0, Value.ref 1])])[H.length]? = some (Sum.inr (FieldType.object "com/example/mithi/mithi/importer/EdgeWeighting$Scheme", [Value.ref 0, Value.ref 1])) := nw
  have g0 : (H ++ [Sum.inr (FieldType.object "com/example/mithi/mithi/importer/EdgeWeighting$Scheme", [Value.ref 0, Value.ref 1])])[0]? = _ := ap h0
  have g1 : (H ++ [Sum.inr (FieldType.object "com/example/mithi/mithi/importer/EdgeWeighting$Scheme", [Value.ref 0, Value.ref 1])])[1]? = _ := ap h1
  have hH' : 25 ≤ (H ++ [Sum.inr (FieldType.object "com/example/mithi/mithi/importer/EdgeWeighting$Scheme", [Value.ref 0, Value.ref 1])]).length := by rw [List.length_append]; omega
  have g3 : (H ++ [Sum.inr (FieldType.object "com/example/mithi/mithi/importer/EdgeWeighting$Scheme", [Value.ref 0, Value.ref 1])])[3]? = _ := ap h3
  have g5 : (H ++ [Sum.inr (FieldType.object "com/example/mithi/mithi/importer/EdgeWeighting$Scheme", [Value.ref 0, Value.ref 1])])[5]? = _ := ap h5
  have e17 := F17_eq (w := w) (vF := vF) h2
  have qa := F14_eq (w := w) (vF := vF) (H := (H ++ [Sum.inr (FieldType.object "com/example/mithi/mithi/importer/EdgeWeighting$Scheme", [Value.ref 0, Value.ref 1])] : AH)) hw0 (show ¬ 3 = s by omega) (okc_r hs25 (by decide)) (ap h3) (ap hs) (ap h4) (ap hv) (by decide) hx
  have qb := F14_eq (w := w) (vF := vF) (H := (H ++ [Sum.inr (FieldType.object "com/example/mithi/mithi/importer/EdgeWeighting$Scheme", [Value.ref 0, Value.ref 1])] : AH)) hw0 (show ¬ 5 = s by omega) (okc_r hs25 (by decide)) (ap h5) (ap hs) (ap h6) (ap hv) (by decide) hx
  rw [if_pos e] at qa
  have e20 := F20_eq (w := w) (vF := vF) (H := (H ++ [Sum.inr (FieldType.object "com/example/mithi/mithi/importer/EdgeWeighting$Scheme", [Value.ref 0, Value.ref 1])] : AH)) (v := 0) hH'
  refine is_of f16_in fun go hgo => ?_
  refine res_of (u16_0 hgo) ?_
  simp only [eq_self, and_self, true_and, and_true, not_true_eq_false, not_false_eq_true, if_true, if_false, reduceIte, Option.bind_some, List.getElem?_cons_zero, List.getElem?_cons_succ, Nat.reduceAdd, Nat.reduceSub, Nat.reduceLT, Nat.reduceLeDiff, Nat.le_refl, Nat.zero_add, Nat.add_zero, List.length_cons, List.length_nil, Int32.reduceLT, Int32.reduceToNatClampNeg, Int32.reduceAdd, Int32.reduceSub, Int32.reduceMul, decide_true, aCall, aRecv, aObj, obj, List.take_succ_cons, List.take_zero, List.drop_succ_cons, List.drop_zero, List.reverse_cons, List.reverse_nil, List.nil_append, List.cons_append, List.append_nil, List.map_cons, List.map_nil, List.sum_cons, List.sum_nil, cat_int, cat_long, cat_ref, cat_null, Option.toList_some, Option.toList_none, e17, hn, g0, g1, g3, g5, qa, e20]
  refine t16_3 hgo rfl rfl ?_
  refine t16_4 hgo rfl ?_
  refine res_of (u16_5 hgo) ?_
  simp only [eq_self, and_self, true_and, and_true, not_true_eq_false, not_false_eq_true, if_true, if_false, reduceIte, Option.bind_some, List.getElem?_cons_zero, List.getElem?_cons_succ, Nat.reduceAdd, Nat.reduceSub, Nat.reduceLT, Nat.reduceLeDiff, Nat.le_refl, Nat.zero_add, Nat.add_zero, List.length_cons, List.length_nil, Int32.reduceLT, Int32.reduceToNatClampNeg, Int32.reduceAdd, Int32.reduceSub, Int32.reduceMul, decide_true, pR_ref, arr, ln0, ln1, ln2, ln3, ln4, ln5, ln6, ln7, ln8, ln9, ln10, ln11, ln12, ln13, ln14, ln15, ln16, ln17, ln18, ln19, ln20, ln21, ln22, ln23, ln24, ln25, ln26, ln27, ln28, ln29, ln30, ln31, ln32, ln33, ln34, ln35, ln36, e17, hn, g0, g1, g3, g5, qa, e20]
  refine t16_6 hgo rfl ?_
  refine t16_7 hgo ?_
  refine t16_8 hgo rfl ?_
  refine t16_9 hgo ?_
  refine t16_10 hgo ?_
  refine t16_11t hgo (by decide) ?_
  refine t16_14 hgo rfl ?_
  refine t16_15 hgo ?_
  refine res_of (u16_16 hgo) ?_
  simp only [eq_self, and_self, true_and, and_true, not_true_eq_false, not_false_eq_true, if_true, if_false, reduceIte, Option.bind_some, List.getElem?_cons_zero, List.getElem?_cons_succ, Nat.reduceAdd, Nat.reduceSub, Nat.reduceLT, Nat.reduceLeDiff, Nat.le_refl, Nat.zero_add, Nat.add_zero, List.length_cons, List.length_nil, Int32.reduceLT, Int32.reduceToNatClampNeg, Int32.reduceAdd, Int32.reduceSub, Int32.reduceMul, decide_true, ex_aaload, ald, pI_int, pR_ref, arr, isT, isBZ, e17, hn, g0, g1, g3, g5, qa, e20]
  refine t16_17 hgo rfl rfl ?_
  refine t16_19 hgo rfl ?_
  refine res_of (u16_21 hgo) ?_
  simp only [eq_self, and_self, true_and, and_true, not_true_eq_false, not_false_eq_true, if_true, if_false, reduceIte, Option.bind_some, List.getElem?_cons_zero, List.getElem?_cons_succ, Nat.reduceAdd, Nat.reduceSub, Nat.reduceLT, Nat.reduceLeDiff, Nat.le_refl, Nat.zero_add, Nat.add_zero, List.length_cons, List.length_nil, Int32.reduceLT, Int32.reduceToNatClampNeg, Int32.reduceAdd, Int32.reduceSub, Int32.reduceMul, decide_true, aGet, obj, e17, hn, g0, g1, g3, g5, qa, e20]
  refine t16_24 hgo rfl ?_
  refine res_of (u16_25 hgo) ?_
  simp only [eq_self, and_self, true_and, and_true, not_true_eq_false, not_false_eq_true, if_true, if_false, reduceIte, Option.bind_some, List.getElem?_cons_zero, List.getElem?_cons_succ, Nat.reduceAdd, Nat.reduceSub, Nat.reduceLT, Nat.reduceLeDiff, Nat.le_refl, Nat.zero_add, Nat.add_zero, List.length_cons, List.length_nil, Int32.reduceLT, Int32.reduceToNatClampNeg, Int32.reduceAdd, Int32.reduceSub, Int32.reduceMul, decide_true, aCall, aRecv, aObj, obj, List.take_succ_cons, List.take_zero, List.drop_succ_cons, List.drop_zero, List.reverse_cons, List.reverse_nil, List.nil_append, List.cons_append, List.append_nil, List.map_cons, List.map_nil, List.sum_cons, List.sum_nil, cat_int, cat_long, cat_ref, cat_null, Option.toList_some, Option.toList_none, e17, hn, g0, g1, g3, g5, qa, e20]
  refine t16_28f hgo (by decide) ?_
  refine t16_31 hgo rfl ?_
  refine res_of (u16_33 hgo) ?_
  simp only [eq_self, and_self, true_and, and_true, not_true_eq_false, not_false_eq_true, if_true, if_false, reduceIte, Option.bind_some, List.getElem?_cons_zero, List.getElem?_cons_succ, Nat.reduceAdd, Nat.reduceSub, Nat.reduceLT, Nat.reduceLeDiff, Nat.le_refl, Nat.zero_add, Nat.add_zero, List.length_cons, List.length_nil, Int32.reduceLT, Int32.reduceToNatClampNeg, Int32.reduceAdd, Int32.reduceSub, Int32.reduceMul, decide_true, aCall, aRecv, aObj, obj, List.take_succ_cons, List.take_zero, List.drop_succ_cons, List.drop_zero, List.reverse_cons, List.reverse_nil, List.nil_append, List.cons_append, List.append_nil, List.map_cons, List.map_nil, List.sum_cons, List.sum_nil, cat_int, cat_long, cat_ref, cat_null, Option.toList_some, Option.toList_none, e17, hn, g0, g1, g3, g5, qa, e20]
  refine t16_36 hgo rfl ?_
  exact is_r
set_option maxRecDepth 65536 in
set_option maxHeartbeats 4000000 in
theorem F16_b {s v : Nat} {xs : List Int32} {H : AH} (hw0 : w ≠ 0) (h0 : H[0]? = some (.inl (2, [.ref 3]))) (h1 : H[1]? = some (.inl (2, [.ref 5]))) (h2 : H[2]? = some (Sum.inr (FieldType.object "com/example/mithi/mithi/importer/EdgeWeighting$Scheme", [Value.ref 0, Value.ref 1]))) (h3 : H[3]? = some (.inl (0, [.ref 4, .int 0]))) (h4 : H[4]? = some (.inr (.byte, eqB.map Value.int))) (h5 : H[5]? = some (.inl (0, [.ref 6, .int 0]))) (h6 : H[6]? = some (.inr (.byte, lgB.map Value.int))) (hs : H[s]? = some (.inl (0, [.ref v, .int 0]))) (hv : H[v]? = some (.inr (.byte, xs.map Value.int))) (hs25 : 25 ≤ s) (hx : xs.length ≤ 11) (e : ¬ eqB = xs) (e' : lgB = xs) : (F16 w vF) [.ref s] H = some (some (.ref (H ++ [Sum.inr (FieldType.object "com/example/mithi/mithi/importer/EdgeWeighting$Scheme", [Value.ref 0, Value.ref 1])]).length), (H ++ [Sum.inr (FieldType.object "com/example/mithi/mithi/importer/EdgeWeighting$Scheme", [Value.ref 0, Value.ref 1])]) ++ [.inl (1, [.ref 1])]) := by
  have hH : 25 ≤ H.length := Nat.le_of_lt (Nat.lt_of_le_of_lt hs25 (List.getElem?_eq_some_iff.mp hs).1)
  have hn : (H ++ [Sum.inr (FieldType.object "com/example/mithi/mithi/importer/EdgeWeighting$Scheme", [Value.ref 0, Value.ref 1])])[H.length]? = some (Sum.inr (FieldType.object "com/example/mithi/mithi/importer/EdgeWeighting$Scheme", [Value.ref 0, Value.ref 1])) := nw
  have g0 : (H ++ [Sum.inr (FieldType.object "com/example/mithi/mithi/importer/EdgeWeighting$Scheme", [Value.ref 0, Value.ref 1])])[0]? = _ := ap h0
  have g1 : (H ++ [Sum.inr (FieldType.object "com/example/mithi/mithi/importer/EdgeWeighting$Scheme", [Value.ref 0, Value.ref 1])])[1]? = _ := ap h1
  have hH' : 25 ≤ (H ++ [Sum.inr (FieldType.object "com/example/mithi/mithi/importer/EdgeWeighting$Scheme", [Value.ref 0, Value.ref 1])]).length := by rw [List.length_append]; omega
  have g3 : (H ++ [Sum.inr (FieldType.object "com/example/mithi/mithi/importer/EdgeWeighting$Scheme", [Value.ref 0, Value.ref 1])])[3]? = _ := ap h3
  have g5 : (H ++ [Sum.inr (FieldType.object "com/example/mithi/mithi/importer/EdgeWeighting$Scheme", [Value.ref 0, Value.ref 1])])[5]? = _ := ap h5
  have e17 := F17_eq (w := w) (vF := vF) h2
  have qa := F14_eq (w := w) (vF := vF) (H := (H ++ [Sum.inr (FieldType.object "com/example/mithi/mithi/importer/EdgeWeighting$Scheme", [Value.ref 0, Value.ref 1])] : AH)) hw0 (show ¬ 3 = s by omega) (okc_r hs25 (by decide)) (ap h3) (ap hs) (ap h4) (ap hv) (by decide) hx
  have qb := F14_eq (w := w) (vF := vF) (H := (H ++ [Sum.inr (FieldType.object "com/example/mithi/mithi/importer/EdgeWeighting$Scheme", [Value.ref 0, Value.ref 1])] : AH)) hw0 (show ¬ 5 = s by omega) (okc_r hs25 (by decide)) (ap h5) (ap hs) (ap h6) (ap hv) (by decide) hx
  rw [if_neg e] at qa
  rw [if_pos e'] at qb
  have e20 := F20_eq (w := w) (vF := vF) (H := (H ++ [Sum.inr (FieldType.object "com/example/mithi/mithi/importer/EdgeWeighting$Scheme", [Value.ref 0, Value.ref 1])] : AH)) (v := 1) hH'
  refine is_of f16_in fun go hgo => ?_
  refine res_of (u16_0 hgo) ?_
  simp only [eq_self, and_self, true_and, and_true, not_true_eq_false, not_false_eq_true, if_true, if_false, reduceIte, Option.bind_some, List.getElem?_cons_zero, List.getElem?_cons_succ, Nat.reduceAdd, Nat.reduceSub, Nat.reduceLT, Nat.reduceLeDiff, Nat.le_refl, Nat.zero_add, Nat.add_zero, List.length_cons, List.length_nil, Int32.reduceLT, Int32.reduceToNatClampNeg, Int32.reduceAdd, Int32.reduceSub, Int32.reduceMul, decide_true, aCall, aRecv, aObj, obj, List.take_succ_cons, List.take_zero, List.drop_succ_cons, List.drop_zero, List.reverse_cons, List.reverse_nil, List.nil_append, List.cons_append, List.append_nil, List.map_cons, List.map_nil, List.sum_cons, List.sum_nil, cat_int, cat_long, cat_ref, cat_null, Option.toList_some, Option.toList_none, e17, hn, g0, g1, g3, g5, qa, qb, e20]
  refine t16_3 hgo rfl rfl ?_
  refine t16_4 hgo rfl ?_
  refine res_of (u16_5 hgo) ?_
  simp only [eq_self, and_self, true_and, and_true, not_true_eq_false, not_false_eq_true, if_true, if_false, reduceIte, Option.bind_some, List.getElem?_cons_zero, List.getElem?_cons_succ, Nat.reduceAdd, Nat.reduceSub, Nat.reduceLT, Nat.reduceLeDiff, Nat.le_refl, Nat.zero_add, Nat.add_zero, List.length_cons, List.length_nil, Int32.reduceLT, Int32.reduceToNatClampNeg, Int32.reduceAdd, Int32.reduceSub, Int32.reduceMul, decide_true, pR_ref, arr, ln0, ln1, ln2, ln3, ln4, ln5, ln6, ln7, ln8, ln9, ln10, ln11, ln12, ln13, ln14, ln15, ln16, ln17, ln18, ln19, ln20, ln21, ln22, ln23, ln24, ln25, ln26, ln27, ln28, ln29, ln30, ln31, ln32, ln33, ln34, ln35, ln36, e17, hn, g0, g1, g3, g5, qa, qb, e20]
  refine t16_6 hgo rfl ?_
  refine t16_7 hgo ?_
  refine t16_8 hgo rfl ?_
  refine t16_9 hgo ?_
  refine t16_10 hgo ?_
  refine t16_11t hgo (by decide) ?_
  refine t16_14 hgo rfl ?_
  refine t16_15 hgo ?_
  refine res_of (u16_16 hgo) ?_
  simp only [eq_self, and_self, true_and, and_true, not_true_eq_false, not_false_eq_true, if_true, if_false, reduceIte, Option.bind_some, List.getElem?_cons_zero, List.getElem?_cons_succ, Nat.reduceAdd, Nat.reduceSub, Nat.reduceLT, Nat.reduceLeDiff, Nat.le_refl, Nat.zero_add, Nat.add_zero, List.length_cons, List.length_nil, Int32.reduceLT, Int32.reduceToNatClampNeg, Int32.reduceAdd, Int32.reduceSub, Int32.reduceMul, decide_true, ex_aaload, ald, pI_int, pR_ref, arr, isT, isBZ, e17, hn, g0, g1, g3, g5, qa, qb, e20]
  refine t16_17 hgo rfl rfl ?_
  refine t16_19 hgo rfl ?_
  refine res_of (u16_21 hgo) ?_
  simp only [eq_self, and_self, true_and, and_true, not_true_eq_false, not_false_eq_true, if_true, if_false, reduceIte, Option.bind_some, List.getElem?_cons_zero, List.getElem?_cons_succ, Nat.reduceAdd, Nat.reduceSub, Nat.reduceLT, Nat.reduceLeDiff, Nat.le_refl, Nat.zero_add, Nat.add_zero, List.length_cons, List.length_nil, Int32.reduceLT, Int32.reduceToNatClampNeg, Int32.reduceAdd, Int32.reduceSub, Int32.reduceMul, decide_true, aGet, obj, e17, hn, g0, g1, g3, g5, qa, qb, e20]
  refine t16_24 hgo rfl ?_
  refine res_of (u16_25 hgo) ?_
  simp only [eq_self, and_self, true_and, and_true, not_true_eq_false, not_false_eq_true, if_true, if_false, reduceIte, Option.bind_some, List.getElem?_cons_zero, List.getElem?_cons_succ, Nat.reduceAdd, Nat.reduceSub, Nat.reduceLT, Nat.reduceLeDiff, Nat.le_refl, Nat.zero_add, Nat.add_zero, List.length_cons, List.length_nil, Int32.reduceLT, Int32.reduceToNatClampNeg, Int32.reduceAdd, Int32.reduceSub, Int32.reduceMul, decide_true, aCall, aRecv, aObj, obj, List.take_succ_cons, List.take_zero, List.drop_succ_cons, List.drop_zero, List.reverse_cons, List.reverse_nil, List.nil_append, List.cons_append, List.append_nil, List.map_cons, List.map_nil, List.sum_cons, List.sum_nil, cat_int, cat_long, cat_ref, cat_null, Option.toList_some, Option.toList_none, e17, hn, g0, g1, g3, g5, qa, qb, e20]
  refine t16_28t hgo (by decide) ?_
  refine t16_37 hgo ?_
  refine t16_40 hgo ?_
  refine t16_9 hgo ?_
  refine t16_10 hgo ?_
  refine t16_11t hgo (by decide) ?_
  refine t16_14 hgo rfl ?_
  refine t16_15 hgo ?_
  refine res_of (u16_16 hgo) ?_
  simp only [eq_self, and_self, true_and, and_true, not_true_eq_false, not_false_eq_true, if_true, if_false, reduceIte, Option.bind_some, List.getElem?_cons_zero, List.getElem?_cons_succ, Nat.reduceAdd, Nat.reduceSub, Nat.reduceLT, Nat.reduceLeDiff, Nat.le_refl, Nat.zero_add, Nat.add_zero, List.length_cons, List.length_nil, Int32.reduceLT, Int32.reduceToNatClampNeg, Int32.reduceAdd, Int32.reduceSub, Int32.reduceMul, decide_true, ex_aaload, ald, pI_int, pR_ref, arr, isT, isBZ, e17, hn, g0, g1, g3, g5, qa, qb, e20]
  refine t16_17 hgo rfl rfl ?_
  refine t16_19 hgo rfl ?_
  refine res_of (u16_21 hgo) ?_
  simp only [eq_self, and_self, true_and, and_true, not_true_eq_false, not_false_eq_true, if_true, if_false, reduceIte, Option.bind_some, List.getElem?_cons_zero, List.getElem?_cons_succ, Nat.reduceAdd, Nat.reduceSub, Nat.reduceLT, Nat.reduceLeDiff, Nat.le_refl, Nat.zero_add, Nat.add_zero, List.length_cons, List.length_nil, Int32.reduceLT, Int32.reduceToNatClampNeg, Int32.reduceAdd, Int32.reduceSub, Int32.reduceMul, decide_true, aGet, obj, e17, hn, g0, g1, g3, g5, qa, qb, e20]
  refine t16_24 hgo rfl ?_
  refine res_of (u16_25 hgo) ?_
  simp only [eq_self, and_self, true_and, and_true, not_true_eq_false, not_false_eq_true, if_true, if_false, reduceIte, Option.bind_some, List.getElem?_cons_zero, List.getElem?_cons_succ, Nat.reduceAdd, Nat.reduceSub, Nat.reduceLT, Nat.reduceLeDiff, Nat.le_refl, Nat.zero_add, Nat.add_zero, List.length_cons, List.length_nil, Int32.reduceLT, Int32.reduceToNatClampNeg, Int32.reduceAdd, Int32.reduceSub, Int32.reduceMul, decide_true, aCall, aRecv, aObj, obj, List.take_succ_cons, List.take_zero, List.drop_succ_cons, List.drop_zero, List.reverse_cons, List.reverse_nil, List.nil_append, List.cons_append, List.append_nil, List.map_cons, List.map_nil, List.sum_cons, List.sum_nil, cat_int, cat_long, cat_ref, cat_null, Option.toList_some, Option.toList_none, e17, hn, g0, g1, g3, g5, qa, qb, e20]
  refine t16_28f hgo (by decide) ?_
  refine t16_31 hgo rfl ?_
  refine res_of (u16_33 hgo) ?_
  simp only [eq_self, and_self, true_and, and_true, not_true_eq_false, not_false_eq_true, if_true, if_false, reduceIte, Option.bind_some, List.getElem?_cons_zero, List.getElem?_cons_succ, Nat.reduceAdd, Nat.reduceSub, Nat.reduceLT, Nat.reduceLeDiff, Nat.le_refl, Nat.zero_add, Nat.add_zero, List.length_cons, List.length_nil, Int32.reduceLT, Int32.reduceToNatClampNeg, Int32.reduceAdd, Int32.reduceSub, Int32.reduceMul, decide_true, aCall, aRecv, aObj, obj, List.take_succ_cons, List.take_zero, List.drop_succ_cons, List.drop_zero, List.reverse_cons, List.reverse_nil, List.nil_append, List.cons_append, List.append_nil, List.map_cons, List.map_nil, List.sum_cons, List.sum_nil, cat_int, cat_long, cat_ref, cat_null, Option.toList_some, Option.toList_none, e17, hn, g0, g1, g3, g5, qa, qb, e20]
  refine t16_36 hgo rfl ?_
  exact is_r
set_option maxRecDepth 65536 in
set_option maxHeartbeats 4000000 in
theorem F16_c {s v : Nat} {xs : List Int32} {H : AH} (hw0 : w ≠ 0) (h0 : H[0]? = some (.inl (2, [.ref 3]))) (h1 : H[1]? = some (.inl (2, [.ref 5]))) (h2 : H[2]? = some (Sum.inr (FieldType.object "com/example/mithi/mithi/importer/EdgeWeighting$Scheme", [Value.ref 0, Value.ref 1]))) (h3 : H[3]? = some (.inl (0, [.ref 4, .int 0]))) (h4 : H[4]? = some (.inr (.byte, eqB.map Value.int))) (h5 : H[5]? = some (.inl (0, [.ref 6, .int 0]))) (h6 : H[6]? = some (.inr (.byte, lgB.map Value.int))) (hs : H[s]? = some (.inl (0, [.ref v, .int 0]))) (hv : H[v]? = some (.inr (.byte, xs.map Value.int))) (hs25 : 25 ≤ s) (hx : xs.length ≤ 11) (e : ¬ eqB = xs) (e' : ¬ lgB = xs) : (F16 w vF) [.ref s] H = some (some (.ref 7), H ++ [Sum.inr (FieldType.object "com/example/mithi/mithi/importer/EdgeWeighting$Scheme", [Value.ref 0, Value.ref 1])]) := by
  have hH : 25 ≤ H.length := Nat.le_of_lt (Nat.lt_of_le_of_lt hs25 (List.getElem?_eq_some_iff.mp hs).1)
  have hn : (H ++ [Sum.inr (FieldType.object "com/example/mithi/mithi/importer/EdgeWeighting$Scheme", [Value.ref 0, Value.ref 1])])[H.length]? = some (Sum.inr (FieldType.object "com/example/mithi/mithi/importer/EdgeWeighting$Scheme", [Value.ref 0, Value.ref 1])) := nw
  have g0 : (H ++ [Sum.inr (FieldType.object "com/example/mithi/mithi/importer/EdgeWeighting$Scheme", [Value.ref 0, Value.ref 1])])[0]? = _ := ap h0
  have g1 : (H ++ [Sum.inr (FieldType.object "com/example/mithi/mithi/importer/EdgeWeighting$Scheme", [Value.ref 0, Value.ref 1])])[1]? = _ := ap h1
  have hH' : 25 ≤ (H ++ [Sum.inr (FieldType.object "com/example/mithi/mithi/importer/EdgeWeighting$Scheme", [Value.ref 0, Value.ref 1])]).length := by rw [List.length_append]; omega
  have g3 : (H ++ [Sum.inr (FieldType.object "com/example/mithi/mithi/importer/EdgeWeighting$Scheme", [Value.ref 0, Value.ref 1])])[3]? = _ := ap h3
  have g5 : (H ++ [Sum.inr (FieldType.object "com/example/mithi/mithi/importer/EdgeWeighting$Scheme", [Value.ref 0, Value.ref 1])])[5]? = _ := ap h5
  have e17 := F17_eq (w := w) (vF := vF) h2
  have qa := F14_eq (w := w) (vF := vF) (H := (H ++ [Sum.inr (FieldType.object "com/example/mithi/mithi/importer/EdgeWeighting$Scheme", [Value.ref 0, Value.ref 1])] : AH)) hw0 (show ¬ 3 = s by omega) (okc_r hs25 (by decide)) (ap h3) (ap hs) (ap h4) (ap hv) (by decide) hx
  have qb := F14_eq (w := w) (vF := vF) (H := (H ++ [Sum.inr (FieldType.object "com/example/mithi/mithi/importer/EdgeWeighting$Scheme", [Value.ref 0, Value.ref 1])] : AH)) hw0 (show ¬ 5 = s by omega) (okc_r hs25 (by decide)) (ap h5) (ap hs) (ap h6) (ap hv) (by decide) hx
  rw [if_neg e] at qa
  rw [if_neg e'] at qb
  refine is_of f16_in fun go hgo => ?_
  refine res_of (u16_0 hgo) ?_
  simp only [eq_self, and_self, true_and, and_true, not_true_eq_false, not_false_eq_true, if_true, if_false, reduceIte, Option.bind_some, List.getElem?_cons_zero, List.getElem?_cons_succ, Nat.reduceAdd, Nat.reduceSub, Nat.reduceLT, Nat.reduceLeDiff, Nat.le_refl, Nat.zero_add, Nat.add_zero, List.length_cons, List.length_nil, Int32.reduceLT, Int32.reduceToNatClampNeg, Int32.reduceAdd, Int32.reduceSub, Int32.reduceMul, decide_true, aCall, aRecv, aObj, obj, List.take_succ_cons, List.take_zero, List.drop_succ_cons, List.drop_zero, List.reverse_cons, List.reverse_nil, List.nil_append, List.cons_append, List.append_nil, List.map_cons, List.map_nil, List.sum_cons, List.sum_nil, cat_int, cat_long, cat_ref, cat_null, Option.toList_some, Option.toList_none, e17, hn, g0, g1, g3, g5, qa, qb, F18_eq]
  refine t16_3 hgo rfl rfl ?_
  refine t16_4 hgo rfl ?_
  refine res_of (u16_5 hgo) ?_
  simp only [eq_self, and_self, true_and, and_true, not_true_eq_false, not_false_eq_true, if_true, if_false, reduceIte, Option.bind_some, List.getElem?_cons_zero, List.getElem?_cons_succ, Nat.reduceAdd, Nat.reduceSub, Nat.reduceLT, Nat.reduceLeDiff, Nat.le_refl, Nat.zero_add, Nat.add_zero, List.length_cons, List.length_nil, Int32.reduceLT, Int32.reduceToNatClampNeg, Int32.reduceAdd, Int32.reduceSub, Int32.reduceMul, decide_true, pR_ref, arr, ln0, ln1, ln2, ln3, ln4, ln5, ln6, ln7, ln8, ln9, ln10, ln11, ln12, ln13, ln14, ln15, ln16, ln17, ln18, ln19, ln20, ln21, ln22, ln23, ln24, ln25, ln26, ln27, ln28, ln29, ln30, ln31, ln32, ln33, ln34, ln35, ln36, e17, hn, g0, g1, g3, g5, qa, qb, F18_eq]
  refine t16_6 hgo rfl ?_
  refine t16_7 hgo ?_
  refine t16_8 hgo rfl ?_
  refine t16_9 hgo ?_
  refine t16_10 hgo ?_
  refine t16_11t hgo (by decide) ?_
  refine t16_14 hgo rfl ?_
  refine t16_15 hgo ?_
  refine res_of (u16_16 hgo) ?_
  simp only [eq_self, and_self, true_and, and_true, not_true_eq_false, not_false_eq_true, if_true, if_false, reduceIte, Option.bind_some, List.getElem?_cons_zero, List.getElem?_cons_succ, Nat.reduceAdd, Nat.reduceSub, Nat.reduceLT, Nat.reduceLeDiff, Nat.le_refl, Nat.zero_add, Nat.add_zero, List.length_cons, List.length_nil, Int32.reduceLT, Int32.reduceToNatClampNeg, Int32.reduceAdd, Int32.reduceSub, Int32.reduceMul, decide_true, ex_aaload, ald, pI_int, pR_ref, arr, isT, isBZ, e17, hn, g0, g1, g3, g5, qa, qb, F18_eq]
  refine t16_17 hgo rfl rfl ?_
  refine t16_19 hgo rfl ?_
  refine res_of (u16_21 hgo) ?_
  simp only [eq_self, and_self, true_and, and_true, not_true_eq_false, not_false_eq_true, if_true, if_false, reduceIte, Option.bind_some, List.getElem?_cons_zero, List.getElem?_cons_succ, Nat.reduceAdd, Nat.reduceSub, Nat.reduceLT, Nat.reduceLeDiff, Nat.le_refl, Nat.zero_add, Nat.add_zero, List.length_cons, List.length_nil, Int32.reduceLT, Int32.reduceToNatClampNeg, Int32.reduceAdd, Int32.reduceSub, Int32.reduceMul, decide_true, aGet, obj, e17, hn, g0, g1, g3, g5, qa, qb, F18_eq]
  refine t16_24 hgo rfl ?_
  refine res_of (u16_25 hgo) ?_
  simp only [eq_self, and_self, true_and, and_true, not_true_eq_false, not_false_eq_true, if_true, if_false, reduceIte, Option.bind_some, List.getElem?_cons_zero, List.getElem?_cons_succ, Nat.reduceAdd, Nat.reduceSub, Nat.reduceLT, Nat.reduceLeDiff, Nat.le_refl, Nat.zero_add, Nat.add_zero, List.length_cons, List.length_nil, Int32.reduceLT, Int32.reduceToNatClampNeg, Int32.reduceAdd, Int32.reduceSub, Int32.reduceMul, decide_true, aCall, aRecv, aObj, obj, List.take_succ_cons, List.take_zero, List.drop_succ_cons, List.drop_zero, List.reverse_cons, List.reverse_nil, List.nil_append, List.cons_append, List.append_nil, List.map_cons, List.map_nil, List.sum_cons, List.sum_nil, cat_int, cat_long, cat_ref, cat_null, Option.toList_some, Option.toList_none, e17, hn, g0, g1, g3, g5, qa, qb, F18_eq]
  refine t16_28t hgo (by decide) ?_
  refine t16_37 hgo ?_
  refine t16_40 hgo ?_
  refine t16_9 hgo ?_
  refine t16_10 hgo ?_
  refine t16_11t hgo (by decide) ?_
  refine t16_14 hgo rfl ?_
  refine t16_15 hgo ?_
  refine res_of (u16_16 hgo) ?_
  simp only [eq_self, and_self, true_and, and_true, not_true_eq_false, not_false_eq_true, if_true, if_false, reduceIte, Option.bind_some, List.getElem?_cons_zero, List.getElem?_cons_succ, Nat.reduceAdd, Nat.reduceSub, Nat.reduceLT, Nat.reduceLeDiff, Nat.le_refl, Nat.zero_add, Nat.add_zero, List.length_cons, List.length_nil, Int32.reduceLT, Int32.reduceToNatClampNeg, Int32.reduceAdd, Int32.reduceSub, Int32.reduceMul, decide_true, ex_aaload, ald, pI_int, pR_ref, arr, isT, isBZ, e17, hn, g0, g1, g3, g5, qa, qb, F18_eq]
  refine t16_17 hgo rfl rfl ?_
  refine t16_19 hgo rfl ?_
  refine res_of (u16_21 hgo) ?_
  simp only [eq_self, and_self, true_and, and_true, not_true_eq_false, not_false_eq_true, if_true, if_false, reduceIte, Option.bind_some, List.getElem?_cons_zero, List.getElem?_cons_succ, Nat.reduceAdd, Nat.reduceSub, Nat.reduceLT, Nat.reduceLeDiff, Nat.le_refl, Nat.zero_add, Nat.add_zero, List.length_cons, List.length_nil, Int32.reduceLT, Int32.reduceToNatClampNeg, Int32.reduceAdd, Int32.reduceSub, Int32.reduceMul, decide_true, aGet, obj, e17, hn, g0, g1, g3, g5, qa, qb, F18_eq]
  refine t16_24 hgo rfl ?_
  refine res_of (u16_25 hgo) ?_
  simp only [eq_self, and_self, true_and, and_true, not_true_eq_false, not_false_eq_true, if_true, if_false, reduceIte, Option.bind_some, List.getElem?_cons_zero, List.getElem?_cons_succ, Nat.reduceAdd, Nat.reduceSub, Nat.reduceLT, Nat.reduceLeDiff, Nat.le_refl, Nat.zero_add, Nat.add_zero, List.length_cons, List.length_nil, Int32.reduceLT, Int32.reduceToNatClampNeg, Int32.reduceAdd, Int32.reduceSub, Int32.reduceMul, decide_true, aCall, aRecv, aObj, obj, List.take_succ_cons, List.take_zero, List.drop_succ_cons, List.drop_zero, List.reverse_cons, List.reverse_nil, List.nil_append, List.cons_append, List.append_nil, List.map_cons, List.map_nil, List.sum_cons, List.sum_nil, cat_int, cat_long, cat_ref, cat_null, Option.toList_some, Option.toList_none, e17, hn, g0, g1, g3, g5, qa, qb, F18_eq]
  refine t16_28t hgo (by decide) ?_
  refine t16_37 hgo ?_
  refine t16_40 hgo ?_
  refine t16_9 hgo ?_
  refine t16_10 hgo ?_
  refine t16_11f hgo (by decide) ?_
  refine res_of (u16_43 hgo) ?_
  simp only [eq_self, and_self, true_and, and_true, not_true_eq_false, not_false_eq_true, if_true, if_false, reduceIte, Option.bind_some, List.getElem?_cons_zero, List.getElem?_cons_succ, Nat.reduceAdd, Nat.reduceSub, Nat.reduceLT, Nat.reduceLeDiff, Nat.le_refl, Nat.zero_add, Nat.add_zero, List.length_cons, List.length_nil, Int32.reduceLT, Int32.reduceToNatClampNeg, Int32.reduceAdd, Int32.reduceSub, Int32.reduceMul, decide_true, aCall, aRecv, aObj, obj, List.take_succ_cons, List.take_zero, List.drop_succ_cons, List.drop_zero, List.reverse_cons, List.reverse_nil, List.nil_append, List.cons_append, List.append_nil, List.map_cons, List.map_nil, List.sum_cons, List.sum_nil, cat_int, cat_long, cat_ref, cat_null, Option.toList_some, Option.toList_none, e17, hn, g0, g1, g3, g5, qa, qb, F18_eq]
  refine t16_46 hgo rfl ?_
  exact is_r
def good (xs : List Int32) (N : Nat) : Prop := xs.length = N ∧ ∀ c ∈ xs, Chr c
theorem good_set {xs : List Int32} {N j : Nat} {c : Int32} (h : good xs N) (hc : Chr c) : good (xs.set j c) N := by
  refine ⟨by rw [List.length_set]; exact h.1, fun x hx => ?_⟩
  rcases List.mem_or_eq_of_mem_set hx with q | q
  · exact h.2 x q
  · rw [q]; exact hc
set_option maxRecDepth 65536 in
set_option maxHeartbeats 4000000 in
theorem fill_0 {go : GT} (hgo : go = R0 w vF) {q : QT} {v0 v1 v2 v3 v4 v5 n : Int32} {l6 l10 l11 l12 : Slot} {b N S : Nat} {bs : List Int32} {H : AH} {o : Ob} {xs : List Int32} {m : Nat} (hw0 : w ≠ 0) (hvF : vF = .null ∨ vF = .ref 8) (hb : H[b]? = some (.inl (0, [.ref (b + 1), .int 0]))) (hb1 : b ≠ 25 ∧ b + 1 ≠ 25) (hv : H[b + 1]? = some (.inr (.byte, bs.map Value.int))) (hbs : bs.length ≤ 10) (h25 : H[25]? = some o) (hn : n.toInt = (N : Int)) (hS : S ≤ 4288) (hg : good xs N) : (∀ xs', good xs' N → ∀ m', Rsq (go (m' + 260) (89, [.val (.int v0), .val (.int v1), .val (.int v2), .val (.int v3), .val (.int v4), .val (.int v5), l6, .val (.ref b), .val (.int n), .val (.ref 25), l10, l11, l12], [], H.set 25 (.inr (.char, xs'.map Value.int)), 3, S)) q) → Rsq (go (m + 272) (69, [.val (.int v0), .val (.int v1), .val (.int v2), .val (.int v3), .val (.int v4), .val (.int v5), l6, .val (.ref b), .val (.int n), .val (.ref 25), l10, l11, l12], [], H.set 25 (.inr (.char, xs.map Value.int)), 3, S)) q := by
  intro hk
  have ej : (0 : Int32).toInt = ((0 : Nat) : Int) := by decide
  by_cases h : 0 < N
  · have hlt : (0 : Int32) < n := lt_of ej hn (by omega)
    have gA : (H.set 25 (.inr (.char, xs.map Value.int)))[25]? = some (.inr (.char, xs.map Value.int)) := st_se h25
    obtain ⟨c, hc, e3⟩ := F3_ex (w := w) (vF := vF) (i := 0) (ch := v2) (p := v4) (q := v5) hw0 hvF (st_ne (o' := .inr (.char, xs.map Value.int)) hb (Ne.symm hb1.1)) (st_ne hv (Ne.symm hb1.2)) hbs ej
    have hl : 0 < (xs.map Value.int).length := by rw [List.length_map, hg.1]; exact h
    rw [show m + 272 = (m + 261) + 11 by omega]
    refine t0_69 hgo ?_
    refine t0_71t hgo hlt ?_
    refine t0_74 hgo rfl ?_
    refine t0_76 hgo ?_
    refine t0_77 hgo rfl ?_
    refine t0_79 hgo ?_
    refine t0_80 hgo ?_
    refine t0_81 hgo ?_
    refine t0_83 hgo ?_
    refine res_of (u0_85 hgo) ?_
    simp only [eq_self, and_self, true_and, and_true, not_true_eq_false, not_false_eq_true, if_true, if_false, reduceIte, Option.bind_some, List.getElem?_cons_zero, List.getElem?_cons_succ, Nat.reduceAdd, Nat.reduceSub, Nat.reduceLT, Nat.reduceLeDiff, Nat.le_refl, Nat.zero_add, Nat.add_zero, List.length_cons, List.length_nil, Int32.reduceLT, Int32.reduceToNatClampNeg, Int32.reduceAdd, Int32.reduceSub, Int32.reduceMul, decide_true, aCall, aRecv, aObj, obj, List.take_succ_cons, List.take_zero, List.drop_succ_cons, List.drop_zero, List.reverse_cons, List.reverse_nil, List.nil_append, List.cons_append, List.append_nil, List.map_cons, List.map_nil, List.sum_cons, List.sum_nil, cat_int, cat_long, cat_ref, cat_null, Option.toList_some, Option.toList_none, gA, e3, hl, hS]
    refine res_of (u0_88 hgo) ?_
    simp only [eq_self, and_self, true_and, and_true, not_true_eq_false, not_false_eq_true, if_true, if_false, reduceIte, Option.bind_some, List.getElem?_cons_zero, List.getElem?_cons_succ, Nat.reduceAdd, Nat.reduceSub, Nat.reduceLT, Nat.reduceLeDiff, Nat.le_refl, Nat.zero_add, Nat.add_zero, List.length_cons, List.length_nil, Int32.reduceLT, Int32.reduceToNatClampNeg, Int32.reduceAdd, Int32.reduceSub, Int32.reduceMul, decide_true, ex_castore, ast, astL, pI_int, pL_long, pR_ref, arr, isT, isBZ, nar, List.set_cons_zero, List.set_cons_succ, gA, e3, hl, hS]
    simp only [List.set_set]
    have e : c.toUInt32.toUInt16.toUInt32.toInt32 = c := chr_id hc
    rw [e, ← List.map_set]
    rw [show m + 261 = m + 1 + 260 by omega]
    exact hk _ (good_set hg hc) _
  · have hlt : ¬ (0 : Int32) < n := nlt_of ej hn (by omega)
    rw [show m + 272 = (m + 270) + 2 by omega]
    refine t0_69 hgo ?_
    refine t0_71f hgo hlt ?_
    rw [show m + 270 = (m + 10) + 260 by omega]
    exact hk _ hg _
set_option maxRecDepth 65536 in
set_option maxHeartbeats 4000000 in
theorem fill_1 {go : GT} (hgo : go = R0 w vF) {q : QT} {v0 v1 v2 v3 v4 v5 n : Int32} {l6 l10 l11 l12 : Slot} {b N S : Nat} {bs : List Int32} {H : AH} {o : Ob} {xs : List Int32} {m : Nat} (hw0 : w ≠ 0) (hvF : vF = .null ∨ vF = .ref 8) (hb : H[b]? = some (.inl (0, [.ref (b + 1), .int 0]))) (hb1 : b ≠ 25 ∧ b + 1 ≠ 25) (hv : H[b + 1]? = some (.inr (.byte, bs.map Value.int))) (hbs : bs.length ≤ 10) (h25 : H[25]? = some o) (hn : n.toInt = (N : Int)) (hS : S ≤ 4288) (hg : good xs N) : (∀ xs', good xs' N → ∀ m', Rsq (go (m' + 248) (110, [.val (.int v0), .val (.int v1), .val (.int v2), .val (.int v3), .val (.int v4), .val (.int v5), l6, .val (.ref b), .val (.int n), .val (.ref 25), l10, l11, l12], [], H.set 25 (.inr (.char, xs'.map Value.int)), 3, S)) q) → Rsq (go (m + 260) (89, [.val (.int v0), .val (.int v1), .val (.int v2), .val (.int v3), .val (.int v4), .val (.int v5), l6, .val (.ref b), .val (.int n), .val (.ref 25), l10, l11, l12], [], H.set 25 (.inr (.char, xs.map Value.int)), 3, S)) q := by
  intro hk
  have ej : (1 : Int32).toInt = ((1 : Nat) : Int) := by decide
  by_cases h : 1 < N
  · have hlt : (1 : Int32) < n := lt_of ej hn (by omega)
    have gA : (H.set 25 (.inr (.char, xs.map Value.int)))[25]? = some (.inr (.char, xs.map Value.int)) := st_se h25
    obtain ⟨c, hc, e3⟩ := F3_ex (w := w) (vF := vF) (i := 1) (ch := v2) (p := v4) (q := v5) hw0 hvF (st_ne (o' := .inr (.char, xs.map Value.int)) hb (Ne.symm hb1.1)) (st_ne hv (Ne.symm hb1.2)) hbs ej
    have hl : 1 < (xs.map Value.int).length := by rw [List.length_map, hg.1]; exact h
    rw [show m + 260 = (m + 248) + 12 by omega]
    refine t0_89 hgo ?_
    refine t0_91 hgo ?_
    refine t0_92t hgo hlt ?_
    refine t0_95 hgo rfl ?_
    refine t0_97 hgo ?_
    refine t0_98 hgo rfl ?_
    refine t0_100 hgo ?_
    refine t0_101 hgo ?_
    refine t0_102 hgo ?_
    refine t0_104 hgo ?_
    refine res_of (u0_106 hgo) ?_
    simp only [eq_self, and_self, true_and, and_true, not_true_eq_false, not_false_eq_true, if_true, if_false, reduceIte, Option.bind_some, List.getElem?_cons_zero, List.getElem?_cons_succ, Nat.reduceAdd, Nat.reduceSub, Nat.reduceLT, Nat.reduceLeDiff, Nat.le_refl, Nat.zero_add, Nat.add_zero, List.length_cons, List.length_nil, Int32.reduceLT, Int32.reduceToNatClampNeg, Int32.reduceAdd, Int32.reduceSub, Int32.reduceMul, decide_true, aCall, aRecv, aObj, obj, List.take_succ_cons, List.take_zero, List.drop_succ_cons, List.drop_zero, List.reverse_cons, List.reverse_nil, List.nil_append, List.cons_append, List.append_nil, List.map_cons, List.map_nil, List.sum_cons, List.sum_nil, cat_int, cat_long, cat_ref, cat_null, Option.toList_some, Option.toList_none, gA, e3, hl, hS]
    refine res_of (u0_109 hgo) ?_
    simp only [eq_self, and_self, true_and, and_true, not_true_eq_false, not_false_eq_true, if_true, if_false, reduceIte, Option.bind_some, List.getElem?_cons_zero, List.getElem?_cons_succ, Nat.reduceAdd, Nat.reduceSub, Nat.reduceLT, Nat.reduceLeDiff, Nat.le_refl, Nat.zero_add, Nat.add_zero, List.length_cons, List.length_nil, Int32.reduceLT, Int32.reduceToNatClampNeg, Int32.reduceAdd, Int32.reduceSub, Int32.reduceMul, decide_true, ex_castore, ast, astL, pI_int, pL_long, pR_ref, arr, isT, isBZ, nar, List.set_cons_zero, List.set_cons_succ, gA, e3, hl, hS]
    simp only [List.set_set]
    have e : c.toUInt32.toUInt16.toUInt32.toInt32 = c := chr_id hc
    rw [e, ← List.map_set]
    exact hk _ (good_set hg hc) _
  · have hlt : ¬ (1 : Int32) < n := nlt_of ej hn (by omega)
    rw [show m + 260 = (m + 257) + 3 by omega]
    refine t0_89 hgo ?_
    refine t0_91 hgo ?_
    refine t0_92f hgo hlt ?_
    rw [show m + 257 = (m + 9) + 248 by omega]
    exact hk _ hg _
set_option maxRecDepth 65536 in
set_option maxHeartbeats 4000000 in
theorem fill_2 {go : GT} (hgo : go = R0 w vF) {q : QT} {v0 v1 v2 v3 v4 v5 n : Int32} {l6 l10 l11 l12 : Slot} {b N S : Nat} {bs : List Int32} {H : AH} {o : Ob} {xs : List Int32} {m : Nat} (hw0 : w ≠ 0) (hvF : vF = .null ∨ vF = .ref 8) (hb : H[b]? = some (.inl (0, [.ref (b + 1), .int 0]))) (hb1 : b ≠ 25 ∧ b + 1 ≠ 25) (hv : H[b + 1]? = some (.inr (.byte, bs.map Value.int))) (hbs : bs.length ≤ 10) (h25 : H[25]? = some o) (hn : n.toInt = (N : Int)) (hS : S ≤ 4288) (hg : good xs N) : (∀ xs', good xs' N → ∀ m', Rsq (go (m' + 236) (131, [.val (.int v0), .val (.int v1), .val (.int v2), .val (.int v3), .val (.int v4), .val (.int v5), l6, .val (.ref b), .val (.int n), .val (.ref 25), l10, l11, l12], [], H.set 25 (.inr (.char, xs'.map Value.int)), 3, S)) q) → Rsq (go (m + 248) (110, [.val (.int v0), .val (.int v1), .val (.int v2), .val (.int v3), .val (.int v4), .val (.int v5), l6, .val (.ref b), .val (.int n), .val (.ref 25), l10, l11, l12], [], H.set 25 (.inr (.char, xs.map Value.int)), 3, S)) q := by
  intro hk
  have ej : (2 : Int32).toInt = ((2 : Nat) : Int) := by decide
  by_cases h : 2 < N
  · have hlt : (2 : Int32) < n := lt_of ej hn (by omega)
    have gA : (H.set 25 (.inr (.char, xs.map Value.int)))[25]? = some (.inr (.char, xs.map Value.int)) := st_se h25
    obtain ⟨c, hc, e3⟩ := F3_ex (w := w) (vF := vF) (i := 2) (ch := v2) (p := v4) (q := v5) hw0 hvF (st_ne (o' := .inr (.char, xs.map Value.int)) hb (Ne.symm hb1.1)) (st_ne hv (Ne.symm hb1.2)) hbs ej
    have hl : 2 < (xs.map Value.int).length := by rw [List.length_map, hg.1]; exact h
    rw [show m + 248 = (m + 236) + 12 by omega]
    refine t0_110 hgo ?_
    refine t0_112 hgo ?_
    refine t0_113t hgo hlt ?_
    refine t0_116 hgo rfl ?_
    refine t0_118 hgo ?_
    refine t0_119 hgo rfl ?_
    refine t0_121 hgo ?_
    refine t0_122 hgo ?_
    refine t0_123 hgo ?_
    refine t0_125 hgo ?_
    refine res_of (u0_127 hgo) ?_
    simp only [eq_self, and_self, true_and, and_true, not_true_eq_false, not_false_eq_true, if_true, if_false, reduceIte, Option.bind_some, List.getElem?_cons_zero, List.getElem?_cons_succ, Nat.reduceAdd, Nat.reduceSub, Nat.reduceLT, Nat.reduceLeDiff, Nat.le_refl, Nat.zero_add, Nat.add_zero, List.length_cons, List.length_nil, Int32.reduceLT, Int32.reduceToNatClampNeg, Int32.reduceAdd, Int32.reduceSub, Int32.reduceMul, decide_true, aCall, aRecv, aObj, obj, List.take_succ_cons, List.take_zero, List.drop_succ_cons, List.drop_zero, List.reverse_cons, List.reverse_nil, List.nil_append, List.cons_append, List.append_nil, List.map_cons, List.map_nil, List.sum_cons, List.sum_nil, cat_int, cat_long, cat_ref, cat_null, Option.toList_some, Option.toList_none, gA, e3, hl, hS]
    refine res_of (u0_130 hgo) ?_
    simp only [eq_self, and_self, true_and, and_true, not_true_eq_false, not_false_eq_true, if_true, if_false, reduceIte, Option.bind_some, List.getElem?_cons_zero, List.getElem?_cons_succ, Nat.reduceAdd, Nat.reduceSub, Nat.reduceLT, Nat.reduceLeDiff, Nat.le_refl, Nat.zero_add, Nat.add_zero, List.length_cons, List.length_nil, Int32.reduceLT, Int32.reduceToNatClampNeg, Int32.reduceAdd, Int32.reduceSub, Int32.reduceMul, decide_true, ex_castore, ast, astL, pI_int, pL_long, pR_ref, arr, isT, isBZ, nar, List.set_cons_zero, List.set_cons_succ, gA, e3, hl, hS]
    simp only [List.set_set]
    have e : c.toUInt32.toUInt16.toUInt32.toInt32 = c := chr_id hc
    rw [e, ← List.map_set]
    exact hk _ (good_set hg hc) _
  · have hlt : ¬ (2 : Int32) < n := nlt_of ej hn (by omega)
    rw [show m + 248 = (m + 245) + 3 by omega]
    refine t0_110 hgo ?_
    refine t0_112 hgo ?_
    refine t0_113f hgo hlt ?_
    rw [show m + 245 = (m + 9) + 236 by omega]
    exact hk _ hg _
set_option maxRecDepth 65536 in
set_option maxHeartbeats 4000000 in
theorem fill_3 {go : GT} (hgo : go = R0 w vF) {q : QT} {v0 v1 v2 v3 v4 v5 n : Int32} {l6 l10 l11 l12 : Slot} {b N S : Nat} {bs : List Int32} {H : AH} {o : Ob} {xs : List Int32} {m : Nat} (hw0 : w ≠ 0) (hvF : vF = .null ∨ vF = .ref 8) (hb : H[b]? = some (.inl (0, [.ref (b + 1), .int 0]))) (hb1 : b ≠ 25 ∧ b + 1 ≠ 25) (hv : H[b + 1]? = some (.inr (.byte, bs.map Value.int))) (hbs : bs.length ≤ 10) (h25 : H[25]? = some o) (hn : n.toInt = (N : Int)) (hS : S ≤ 4288) (hg : good xs N) : (∀ xs', good xs' N → ∀ m', Rsq (go (m' + 224) (152, [.val (.int v0), .val (.int v1), .val (.int v2), .val (.int v3), .val (.int v4), .val (.int v5), l6, .val (.ref b), .val (.int n), .val (.ref 25), l10, l11, l12], [], H.set 25 (.inr (.char, xs'.map Value.int)), 3, S)) q) → Rsq (go (m + 236) (131, [.val (.int v0), .val (.int v1), .val (.int v2), .val (.int v3), .val (.int v4), .val (.int v5), l6, .val (.ref b), .val (.int n), .val (.ref 25), l10, l11, l12], [], H.set 25 (.inr (.char, xs.map Value.int)), 3, S)) q := by
  intro hk
  have ej : (3 : Int32).toInt = ((3 : Nat) : Int) := by decide
  by_cases h : 3 < N
  · have hlt : (3 : Int32) < n := lt_of ej hn (by omega)
    have gA : (H.set 25 (.inr (.char, xs.map Value.int)))[25]? = some (.inr (.char, xs.map Value.int)) := st_se h25
    obtain ⟨c, hc, e3⟩ := F3_ex (w := w) (vF := vF) (i := 3) (ch := v2) (p := v4) (q := v5) hw0 hvF (st_ne (o' := .inr (.char, xs.map Value.int)) hb (Ne.symm hb1.1)) (st_ne hv (Ne.symm hb1.2)) hbs ej
    have hl : 3 < (xs.map Value.int).length := by rw [List.length_map, hg.1]; exact h
    rw [show m + 236 = (m + 224) + 12 by omega]
    refine t0_131 hgo ?_
    refine t0_133 hgo ?_
    refine t0_134t hgo hlt ?_
    refine t0_137 hgo rfl ?_
    refine t0_139 hgo ?_
    refine t0_140 hgo rfl ?_
    refine t0_142 hgo ?_
    refine t0_143 hgo ?_
    refine t0_144 hgo ?_
    refine t0_146 hgo ?_
    refine res_of (u0_148 hgo) ?_
    simp only [eq_self, and_self, true_and, and_true, not_true_eq_false, not_false_eq_true, if_true, if_false, reduceIte, Option.bind_some, List.getElem?_cons_zero, List.getElem?_cons_succ, Nat.reduceAdd, Nat.reduceSub, Nat.reduceLT, Nat.reduceLeDiff, Nat.le_refl, Nat.zero_add, Nat.add_zero, List.length_cons, List.length_nil, Int32.reduceLT, Int32.reduceToNatClampNeg, Int32.reduceAdd, Int32.reduceSub, Int32.reduceMul, decide_true, aCall, aRecv, aObj, obj, List.take_succ_cons, List.take_zero, List.drop_succ_cons, List.drop_zero, List.reverse_cons, List.reverse_nil, List.nil_append, List.cons_append, List.append_nil, List.map_cons, List.map_nil, List.sum_cons, List.sum_nil, cat_int, cat_long, cat_ref, cat_null, Option.toList_some, Option.toList_none, gA, e3, hl, hS]
    refine res_of (u0_151 hgo) ?_
    simp only [eq_self, and_self, true_and, and_true, not_true_eq_false, not_false_eq_true, if_true, if_false, reduceIte, Option.bind_some, List.getElem?_cons_zero, List.getElem?_cons_succ, Nat.reduceAdd, Nat.reduceSub, Nat.reduceLT, Nat.reduceLeDiff, Nat.le_refl, Nat.zero_add, Nat.add_zero, List.length_cons, List.length_nil, Int32.reduceLT, Int32.reduceToNatClampNeg, Int32.reduceAdd, Int32.reduceSub, Int32.reduceMul, decide_true, ex_castore, ast, astL, pI_int, pL_long, pR_ref, arr, isT, isBZ, nar, List.set_cons_zero, List.set_cons_succ, gA, e3, hl, hS]
    simp only [List.set_set]
    have e : c.toUInt32.toUInt16.toUInt32.toInt32 = c := chr_id hc
    rw [e, ← List.map_set]
    exact hk _ (good_set hg hc) _
  · have hlt : ¬ (3 : Int32) < n := nlt_of ej hn (by omega)
    rw [show m + 236 = (m + 233) + 3 by omega]
    refine t0_131 hgo ?_
    refine t0_133 hgo ?_
    refine t0_134f hgo hlt ?_
    rw [show m + 233 = (m + 9) + 224 by omega]
    exact hk _ hg _
set_option maxRecDepth 65536 in
set_option maxHeartbeats 4000000 in
theorem fill_4 {go : GT} (hgo : go = R0 w vF) {q : QT} {v0 v1 v2 v3 v4 v5 n : Int32} {l6 l10 l11 l12 : Slot} {b N S : Nat} {bs : List Int32} {H : AH} {o : Ob} {xs : List Int32} {m : Nat} (hw0 : w ≠ 0) (hvF : vF = .null ∨ vF = .ref 8) (hb : H[b]? = some (.inl (0, [.ref (b + 1), .int 0]))) (hb1 : b ≠ 25 ∧ b + 1 ≠ 25) (hv : H[b + 1]? = some (.inr (.byte, bs.map Value.int))) (hbs : bs.length ≤ 10) (h25 : H[25]? = some o) (hn : n.toInt = (N : Int)) (hS : S ≤ 4288) (hg : good xs N) : (∀ xs', good xs' N → ∀ m', Rsq (go (m' + 212) (173, [.val (.int v0), .val (.int v1), .val (.int v2), .val (.int v3), .val (.int v4), .val (.int v5), l6, .val (.ref b), .val (.int n), .val (.ref 25), l10, l11, l12], [], H.set 25 (.inr (.char, xs'.map Value.int)), 3, S)) q) → Rsq (go (m + 224) (152, [.val (.int v0), .val (.int v1), .val (.int v2), .val (.int v3), .val (.int v4), .val (.int v5), l6, .val (.ref b), .val (.int n), .val (.ref 25), l10, l11, l12], [], H.set 25 (.inr (.char, xs.map Value.int)), 3, S)) q := by
  intro hk
  have ej : (4 : Int32).toInt = ((4 : Nat) : Int) := by decide
  by_cases h : 4 < N
  · have hlt : (4 : Int32) < n := lt_of ej hn (by omega)
    have gA : (H.set 25 (.inr (.char, xs.map Value.int)))[25]? = some (.inr (.char, xs.map Value.int)) := st_se h25
    obtain ⟨c, hc, e3⟩ := F3_ex (w := w) (vF := vF) (i := 4) (ch := v2) (p := v4) (q := v5) hw0 hvF (st_ne (o' := .inr (.char, xs.map Value.int)) hb (Ne.symm hb1.1)) (st_ne hv (Ne.symm hb1.2)) hbs ej
    have hl : 4 < (xs.map Value.int).length := by rw [List.length_map, hg.1]; exact h
    rw [show m + 224 = (m + 212) + 12 by omega]
    refine t0_152 hgo ?_
    refine t0_154 hgo ?_
    refine t0_155t hgo hlt ?_
    refine t0_158 hgo rfl ?_
    refine t0_160 hgo ?_
    refine t0_161 hgo rfl ?_
    refine t0_163 hgo ?_
    refine t0_164 hgo ?_
    refine t0_165 hgo ?_
    refine t0_167 hgo ?_
    refine res_of (u0_169 hgo) ?_
    simp only [eq_self, and_self, true_and, and_true, not_true_eq_false, not_false_eq_true, if_true, if_false, reduceIte, Option.bind_some, List.getElem?_cons_zero, List.getElem?_cons_succ, Nat.reduceAdd, Nat.reduceSub, Nat.reduceLT, Nat.reduceLeDiff, Nat.le_refl, Nat.zero_add, Nat.add_zero, List.length_cons, List.length_nil, Int32.reduceLT, Int32.reduceToNatClampNeg, Int32.reduceAdd, Int32.reduceSub, Int32.reduceMul, decide_true, aCall, aRecv, aObj, obj, List.take_succ_cons, List.take_zero, List.drop_succ_cons, List.drop_zero, List.reverse_cons, List.reverse_nil, List.nil_append, List.cons_append, List.append_nil, List.map_cons, List.map_nil, List.sum_cons, List.sum_nil, cat_int, cat_long, cat_ref, cat_null, Option.toList_some, Option.toList_none, gA, e3, hl, hS]
    refine res_of (u0_172 hgo) ?_
    simp only [eq_self, and_self, true_and, and_true, not_true_eq_false, not_false_eq_true, if_true, if_false, reduceIte, Option.bind_some, List.getElem?_cons_zero, List.getElem?_cons_succ, Nat.reduceAdd, Nat.reduceSub, Nat.reduceLT, Nat.reduceLeDiff, Nat.le_refl, Nat.zero_add, Nat.add_zero, List.length_cons, List.length_nil, Int32.reduceLT, Int32.reduceToNatClampNeg, Int32.reduceAdd, Int32.reduceSub, Int32.reduceMul, decide_true, ex_castore, ast, astL, pI_int, pL_long, pR_ref, arr, isT, isBZ, nar, List.set_cons_zero, List.set_cons_succ, gA, e3, hl, hS]
    simp only [List.set_set]
    have e : c.toUInt32.toUInt16.toUInt32.toInt32 = c := chr_id hc
    rw [e, ← List.map_set]
    exact hk _ (good_set hg hc) _
  · have hlt : ¬ (4 : Int32) < n := nlt_of ej hn (by omega)
    rw [show m + 224 = (m + 221) + 3 by omega]
    refine t0_152 hgo ?_
    refine t0_154 hgo ?_
    refine t0_155f hgo hlt ?_
    rw [show m + 221 = (m + 9) + 212 by omega]
    exact hk _ hg _
set_option maxRecDepth 65536 in
set_option maxHeartbeats 4000000 in
theorem fill_5 {go : GT} (hgo : go = R0 w vF) {q : QT} {v0 v1 v2 v3 v4 v5 n : Int32} {l6 l10 l11 l12 : Slot} {b N S : Nat} {bs : List Int32} {H : AH} {o : Ob} {xs : List Int32} {m : Nat} (hw0 : w ≠ 0) (hvF : vF = .null ∨ vF = .ref 8) (hb : H[b]? = some (.inl (0, [.ref (b + 1), .int 0]))) (hb1 : b ≠ 25 ∧ b + 1 ≠ 25) (hv : H[b + 1]? = some (.inr (.byte, bs.map Value.int))) (hbs : bs.length ≤ 10) (h25 : H[25]? = some o) (hn : n.toInt = (N : Int)) (hS : S ≤ 4288) (hg : good xs N) : (∀ xs', good xs' N → ∀ m', Rsq (go (m' + 200) (194, [.val (.int v0), .val (.int v1), .val (.int v2), .val (.int v3), .val (.int v4), .val (.int v5), l6, .val (.ref b), .val (.int n), .val (.ref 25), l10, l11, l12], [], H.set 25 (.inr (.char, xs'.map Value.int)), 3, S)) q) → Rsq (go (m + 212) (173, [.val (.int v0), .val (.int v1), .val (.int v2), .val (.int v3), .val (.int v4), .val (.int v5), l6, .val (.ref b), .val (.int n), .val (.ref 25), l10, l11, l12], [], H.set 25 (.inr (.char, xs.map Value.int)), 3, S)) q := by
  intro hk
  have ej : (5 : Int32).toInt = ((5 : Nat) : Int) := by decide
  by_cases h : 5 < N
  · have hlt : (5 : Int32) < n := lt_of ej hn (by omega)
    have gA : (H.set 25 (.inr (.char, xs.map Value.int)))[25]? = some (.inr (.char, xs.map Value.int)) := st_se h25
    obtain ⟨c, hc, e3⟩ := F3_ex (w := w) (vF := vF) (i := 5) (ch := v2) (p := v4) (q := v5) hw0 hvF (st_ne (o' := .inr (.char, xs.map Value.int)) hb (Ne.symm hb1.1)) (st_ne hv (Ne.symm hb1.2)) hbs ej
    have hl : 5 < (xs.map Value.int).length := by rw [List.length_map, hg.1]; exact h
    rw [show m + 212 = (m + 200) + 12 by omega]
    refine t0_173 hgo ?_
    refine t0_175 hgo ?_
    refine t0_176t hgo hlt ?_
    refine t0_179 hgo rfl ?_
    refine t0_181 hgo ?_
    refine t0_182 hgo rfl ?_
    refine t0_184 hgo ?_
    refine t0_185 hgo ?_
    refine t0_186 hgo ?_
    refine t0_188 hgo ?_
    refine res_of (u0_190 hgo) ?_
    simp only [eq_self, and_self, true_and, and_true, not_true_eq_false, not_false_eq_true, if_true, if_false, reduceIte, Option.bind_some, List.getElem?_cons_zero, List.getElem?_cons_succ, Nat.reduceAdd, Nat.reduceSub, Nat.reduceLT, Nat.reduceLeDiff, Nat.le_refl, Nat.zero_add, Nat.add_zero, List.length_cons, List.length_nil, Int32.reduceLT, Int32.reduceToNatClampNeg, Int32.reduceAdd, Int32.reduceSub, Int32.reduceMul, decide_true, aCall, aRecv, aObj, obj, List.take_succ_cons, List.take_zero, List.drop_succ_cons, List.drop_zero, List.reverse_cons, List.reverse_nil, List.nil_append, List.cons_append, List.append_nil, List.map_cons, List.map_nil, List.sum_cons, List.sum_nil, cat_int, cat_long, cat_ref, cat_null, Option.toList_some, Option.toList_none, gA, e3, hl, hS]
    refine res_of (u0_193 hgo) ?_
    simp only [eq_self, and_self, true_and, and_true, not_true_eq_false, not_false_eq_true, if_true, if_false, reduceIte, Option.bind_some, List.getElem?_cons_zero, List.getElem?_cons_succ, Nat.reduceAdd, Nat.reduceSub, Nat.reduceLT, Nat.reduceLeDiff, Nat.le_refl, Nat.zero_add, Nat.add_zero, List.length_cons, List.length_nil, Int32.reduceLT, Int32.reduceToNatClampNeg, Int32.reduceAdd, Int32.reduceSub, Int32.reduceMul, decide_true, ex_castore, ast, astL, pI_int, pL_long, pR_ref, arr, isT, isBZ, nar, List.set_cons_zero, List.set_cons_succ, gA, e3, hl, hS]
    simp only [List.set_set]
    have e : c.toUInt32.toUInt16.toUInt32.toInt32 = c := chr_id hc
    rw [e, ← List.map_set]
    exact hk _ (good_set hg hc) _
  · have hlt : ¬ (5 : Int32) < n := nlt_of ej hn (by omega)
    rw [show m + 212 = (m + 209) + 3 by omega]
    refine t0_173 hgo ?_
    refine t0_175 hgo ?_
    refine t0_176f hgo hlt ?_
    rw [show m + 209 = (m + 9) + 200 by omega]
    exact hk _ hg _
set_option maxRecDepth 65536 in
set_option maxHeartbeats 4000000 in
theorem fill_6 {go : GT} (hgo : go = R0 w vF) {q : QT} {v0 v1 v2 v3 v4 v5 n : Int32} {l6 l10 l11 l12 : Slot} {b N S : Nat} {bs : List Int32} {H : AH} {o : Ob} {xs : List Int32} {m : Nat} (hw0 : w ≠ 0) (hvF : vF = .null ∨ vF = .ref 8) (hb : H[b]? = some (.inl (0, [.ref (b + 1), .int 0]))) (hb1 : b ≠ 25 ∧ b + 1 ≠ 25) (hv : H[b + 1]? = some (.inr (.byte, bs.map Value.int))) (hbs : bs.length ≤ 10) (h25 : H[25]? = some o) (hn : n.toInt = (N : Int)) (hS : S ≤ 4288) (hg : good xs N) : (∀ xs', good xs' N → ∀ m', Rsq (go (m' + 188) (218, [.val (.int v0), .val (.int v1), .val (.int v2), .val (.int v3), .val (.int v4), .val (.int v5), l6, .val (.ref b), .val (.int n), .val (.ref 25), l10, l11, l12], [], H.set 25 (.inr (.char, xs'.map Value.int)), 3, S)) q) → Rsq (go (m + 200) (194, [.val (.int v0), .val (.int v1), .val (.int v2), .val (.int v3), .val (.int v4), .val (.int v5), l6, .val (.ref b), .val (.int n), .val (.ref 25), l10, l11, l12], [], H.set 25 (.inr (.char, xs.map Value.int)), 3, S)) q := by
  intro hk
  have ej : (6 : Int32).toInt = ((6 : Nat) : Int) := by decide
  by_cases h : 6 < N
  · have hlt : (6 : Int32) < n := lt_of ej hn (by omega)
    have gA : (H.set 25 (.inr (.char, xs.map Value.int)))[25]? = some (.inr (.char, xs.map Value.int)) := st_se h25
    obtain ⟨c, hc, e3⟩ := F3_ex (w := w) (vF := vF) (i := 6) (ch := v2) (p := v4) (q := v5) hw0 hvF (st_ne (o' := .inr (.char, xs.map Value.int)) hb (Ne.symm hb1.1)) (st_ne hv (Ne.symm hb1.2)) hbs ej
    have hl : 6 < (xs.map Value.int).length := by rw [List.length_map, hg.1]; exact h
    rw [show m + 200 = (m + 188) + 12 by omega]
    refine t0_194 hgo ?_
    refine t0_196 hgo ?_
    refine t0_198t hgo hlt ?_
    refine t0_201 hgo rfl ?_
    refine t0_203 hgo ?_
    refine t0_205 hgo rfl ?_
    refine t0_207 hgo ?_
    refine t0_209 hgo ?_
    refine t0_210 hgo ?_
    refine t0_212 hgo ?_
    refine res_of (u0_214 hgo) ?_
    simp only [eq_self, and_self, true_and, and_true, not_true_eq_false, not_false_eq_true, if_true, if_false, reduceIte, Option.bind_some, List.getElem?_cons_zero, List.getElem?_cons_succ, Nat.reduceAdd, Nat.reduceSub, Nat.reduceLT, Nat.reduceLeDiff, Nat.le_refl, Nat.zero_add, Nat.add_zero, List.length_cons, List.length_nil, Int32.reduceLT, Int32.reduceToNatClampNeg, Int32.reduceAdd, Int32.reduceSub, Int32.reduceMul, decide_true, aCall, aRecv, aObj, obj, List.take_succ_cons, List.take_zero, List.drop_succ_cons, List.drop_zero, List.reverse_cons, List.reverse_nil, List.nil_append, List.cons_append, List.append_nil, List.map_cons, List.map_nil, List.sum_cons, List.sum_nil, cat_int, cat_long, cat_ref, cat_null, Option.toList_some, Option.toList_none, gA, e3, hl, hS]
    refine res_of (u0_217 hgo) ?_
    simp only [eq_self, and_self, true_and, and_true, not_true_eq_false, not_false_eq_true, if_true, if_false, reduceIte, Option.bind_some, List.getElem?_cons_zero, List.getElem?_cons_succ, Nat.reduceAdd, Nat.reduceSub, Nat.reduceLT, Nat.reduceLeDiff, Nat.le_refl, Nat.zero_add, Nat.add_zero, List.length_cons, List.length_nil, Int32.reduceLT, Int32.reduceToNatClampNeg, Int32.reduceAdd, Int32.reduceSub, Int32.reduceMul, decide_true, ex_castore, ast, astL, pI_int, pL_long, pR_ref, arr, isT, isBZ, nar, List.set_cons_zero, List.set_cons_succ, gA, e3, hl, hS]
    simp only [List.set_set]
    have e : c.toUInt32.toUInt16.toUInt32.toInt32 = c := chr_id hc
    rw [e, ← List.map_set]
    exact hk _ (good_set hg hc) _
  · have hlt : ¬ (6 : Int32) < n := nlt_of ej hn (by omega)
    rw [show m + 200 = (m + 197) + 3 by omega]
    refine t0_194 hgo ?_
    refine t0_196 hgo ?_
    refine t0_198f hgo hlt ?_
    rw [show m + 197 = (m + 9) + 188 by omega]
    exact hk _ hg _
set_option maxRecDepth 65536 in
set_option maxHeartbeats 4000000 in
theorem fill_7 {go : GT} (hgo : go = R0 w vF) {q : QT} {v0 v1 v2 v3 v4 v5 n : Int32} {l6 l10 l11 l12 : Slot} {b N S : Nat} {bs : List Int32} {H : AH} {o : Ob} {xs : List Int32} {m : Nat} (hw0 : w ≠ 0) (hvF : vF = .null ∨ vF = .ref 8) (hb : H[b]? = some (.inl (0, [.ref (b + 1), .int 0]))) (hb1 : b ≠ 25 ∧ b + 1 ≠ 25) (hv : H[b + 1]? = some (.inr (.byte, bs.map Value.int))) (hbs : bs.length ≤ 10) (h25 : H[25]? = some o) (hn : n.toInt = (N : Int)) (hS : S ≤ 4288) (hg : good xs N) : (∀ xs', good xs' N → ∀ m', Rsq (go (m' + 176) (242, [.val (.int v0), .val (.int v1), .val (.int v2), .val (.int v3), .val (.int v4), .val (.int v5), l6, .val (.ref b), .val (.int n), .val (.ref 25), l10, l11, l12], [], H.set 25 (.inr (.char, xs'.map Value.int)), 3, S)) q) → Rsq (go (m + 188) (218, [.val (.int v0), .val (.int v1), .val (.int v2), .val (.int v3), .val (.int v4), .val (.int v5), l6, .val (.ref b), .val (.int n), .val (.ref 25), l10, l11, l12], [], H.set 25 (.inr (.char, xs.map Value.int)), 3, S)) q := by
  intro hk
  have ej : (7 : Int32).toInt = ((7 : Nat) : Int) := by decide
  by_cases h : 7 < N
  · have hlt : (7 : Int32) < n := lt_of ej hn (by omega)
    have gA : (H.set 25 (.inr (.char, xs.map Value.int)))[25]? = some (.inr (.char, xs.map Value.int)) := st_se h25
    obtain ⟨c, hc, e3⟩ := F3_ex (w := w) (vF := vF) (i := 7) (ch := v2) (p := v4) (q := v5) hw0 hvF (st_ne (o' := .inr (.char, xs.map Value.int)) hb (Ne.symm hb1.1)) (st_ne hv (Ne.symm hb1.2)) hbs ej
    have hl : 7 < (xs.map Value.int).length := by rw [List.length_map, hg.1]; exact h
    rw [show m + 188 = (m + 176) + 12 by omega]
    refine t0_218 hgo ?_
    refine t0_220 hgo ?_
    refine t0_222t hgo hlt ?_
    refine t0_225 hgo rfl ?_
    refine t0_227 hgo ?_
    refine t0_229 hgo rfl ?_
    refine t0_231 hgo ?_
    refine t0_233 hgo ?_
    refine t0_234 hgo ?_
    refine t0_236 hgo ?_
    refine res_of (u0_238 hgo) ?_
    simp only [eq_self, and_self, true_and, and_true, not_true_eq_false, not_false_eq_true, if_true, if_false, reduceIte, Option.bind_some, List.getElem?_cons_zero, List.getElem?_cons_succ, Nat.reduceAdd, Nat.reduceSub, Nat.reduceLT, Nat.reduceLeDiff, Nat.le_refl, Nat.zero_add, Nat.add_zero, List.length_cons, List.length_nil, Int32.reduceLT, Int32.reduceToNatClampNeg, Int32.reduceAdd, Int32.reduceSub, Int32.reduceMul, decide_true, aCall, aRecv, aObj, obj, List.take_succ_cons, List.take_zero, List.drop_succ_cons, List.drop_zero, List.reverse_cons, List.reverse_nil, List.nil_append, List.cons_append, List.append_nil, List.map_cons, List.map_nil, List.sum_cons, List.sum_nil, cat_int, cat_long, cat_ref, cat_null, Option.toList_some, Option.toList_none, gA, e3, hl, hS]
    refine res_of (u0_241 hgo) ?_
    simp only [eq_self, and_self, true_and, and_true, not_true_eq_false, not_false_eq_true, if_true, if_false, reduceIte, Option.bind_some, List.getElem?_cons_zero, List.getElem?_cons_succ, Nat.reduceAdd, Nat.reduceSub, Nat.reduceLT, Nat.reduceLeDiff, Nat.le_refl, Nat.zero_add, Nat.add_zero, List.length_cons, List.length_nil, Int32.reduceLT, Int32.reduceToNatClampNeg, Int32.reduceAdd, Int32.reduceSub, Int32.reduceMul, decide_true, ex_castore, ast, astL, pI_int, pL_long, pR_ref, arr, isT, isBZ, nar, List.set_cons_zero, List.set_cons_succ, gA, e3, hl, hS]
    simp only [List.set_set]
    have e : c.toUInt32.toUInt16.toUInt32.toInt32 = c := chr_id hc
    rw [e, ← List.map_set]
    exact hk _ (good_set hg hc) _
  · have hlt : ¬ (7 : Int32) < n := nlt_of ej hn (by omega)
    rw [show m + 188 = (m + 185) + 3 by omega]
    refine t0_218 hgo ?_
    refine t0_220 hgo ?_
    refine t0_222f hgo hlt ?_
    rw [show m + 185 = (m + 9) + 176 by omega]
    exact hk _ hg _
set_option maxRecDepth 65536 in
set_option maxHeartbeats 4000000 in
theorem fill_8 {go : GT} (hgo : go = R0 w vF) {q : QT} {v0 v1 v2 v3 v4 v5 n : Int32} {l6 l10 l11 l12 : Slot} {b N S : Nat} {bs : List Int32} {H : AH} {o : Ob} {xs : List Int32} {m : Nat} (hw0 : w ≠ 0) (hvF : vF = .null ∨ vF = .ref 8) (hb : H[b]? = some (.inl (0, [.ref (b + 1), .int 0]))) (hb1 : b ≠ 25 ∧ b + 1 ≠ 25) (hv : H[b + 1]? = some (.inr (.byte, bs.map Value.int))) (hbs : bs.length ≤ 10) (h25 : H[25]? = some o) (hn : n.toInt = (N : Int)) (hS : S ≤ 4288) (hg : good xs N) : (∀ xs', good xs' N → ∀ m', Rsq (go (m' + 164) (266, [.val (.int v0), .val (.int v1), .val (.int v2), .val (.int v3), .val (.int v4), .val (.int v5), l6, .val (.ref b), .val (.int n), .val (.ref 25), l10, l11, l12], [], H.set 25 (.inr (.char, xs'.map Value.int)), 3, S)) q) → Rsq (go (m + 176) (242, [.val (.int v0), .val (.int v1), .val (.int v2), .val (.int v3), .val (.int v4), .val (.int v5), l6, .val (.ref b), .val (.int n), .val (.ref 25), l10, l11, l12], [], H.set 25 (.inr (.char, xs.map Value.int)), 3, S)) q := by
  intro hk
  have ej : (8 : Int32).toInt = ((8 : Nat) : Int) := by decide
  by_cases h : 8 < N
  · have hlt : (8 : Int32) < n := lt_of ej hn (by omega)
    have gA : (H.set 25 (.inr (.char, xs.map Value.int)))[25]? = some (.inr (.char, xs.map Value.int)) := st_se h25
    obtain ⟨c, hc, e3⟩ := F3_ex (w := w) (vF := vF) (i := 8) (ch := v2) (p := v4) (q := v5) hw0 hvF (st_ne (o' := .inr (.char, xs.map Value.int)) hb (Ne.symm hb1.1)) (st_ne hv (Ne.symm hb1.2)) hbs ej
    have hl : 8 < (xs.map Value.int).length := by rw [List.length_map, hg.1]; exact h
    rw [show m + 176 = (m + 164) + 12 by omega]
    refine t0_242 hgo ?_
    refine t0_244 hgo ?_
    refine t0_246t hgo hlt ?_
    refine t0_249 hgo rfl ?_
    refine t0_251 hgo ?_
    refine t0_253 hgo rfl ?_
    refine t0_255 hgo ?_
    refine t0_257 hgo ?_
    refine t0_258 hgo ?_
    refine t0_260 hgo ?_
    refine res_of (u0_262 hgo) ?_
    simp only [eq_self, and_self, true_and, and_true, not_true_eq_false, not_false_eq_true, if_true, if_false, reduceIte, Option.bind_some, List.getElem?_cons_zero, List.getElem?_cons_succ, Nat.reduceAdd, Nat.reduceSub, Nat.reduceLT, Nat.reduceLeDiff, Nat.le_refl, Nat.zero_add, Nat.add_zero, List.length_cons, List.length_nil, Int32.reduceLT, Int32.reduceToNatClampNeg, Int32.reduceAdd, Int32.reduceSub, Int32.reduceMul, decide_true, aCall, aRecv, aObj, obj, List.take_succ_cons, List.take_zero, List.drop_succ_cons, List.drop_zero, List.reverse_cons, List.reverse_nil, List.nil_append, List.cons_append, List.append_nil, List.map_cons, List.map_nil, List.sum_cons, List.sum_nil, cat_int, cat_long, cat_ref, cat_null, Option.toList_some, Option.toList_none, gA, e3, hl, hS]
    refine res_of (u0_265 hgo) ?_
    simp only [eq_self, and_self, true_and, and_true, not_true_eq_false, not_false_eq_true, if_true, if_false, reduceIte, Option.bind_some, List.getElem?_cons_zero, List.getElem?_cons_succ, Nat.reduceAdd, Nat.reduceSub, Nat.reduceLT, Nat.reduceLeDiff, Nat.le_refl, Nat.zero_add, Nat.add_zero, List.length_cons, List.length_nil, Int32.reduceLT, Int32.reduceToNatClampNeg, Int32.reduceAdd, Int32.reduceSub, Int32.reduceMul, decide_true, ex_castore, ast, astL, pI_int, pL_long, pR_ref, arr, isT, isBZ, nar, List.set_cons_zero, List.set_cons_succ, gA, e3, hl, hS]
    simp only [List.set_set]
    have e : c.toUInt32.toUInt16.toUInt32.toInt32 = c := chr_id hc
    rw [e, ← List.map_set]
    exact hk _ (good_set hg hc) _
  · have hlt : ¬ (8 : Int32) < n := nlt_of ej hn (by omega)
    rw [show m + 176 = (m + 173) + 3 by omega]
    refine t0_242 hgo ?_
    refine t0_244 hgo ?_
    refine t0_246f hgo hlt ?_
    rw [show m + 173 = (m + 9) + 164 by omega]
    exact hk _ hg _
set_option maxRecDepth 65536 in
set_option maxHeartbeats 4000000 in
theorem fill_9 {go : GT} (hgo : go = R0 w vF) {q : QT} {v0 v1 v2 v3 v4 v5 n : Int32} {l6 l10 l11 l12 : Slot} {b N S : Nat} {bs : List Int32} {H : AH} {o : Ob} {xs : List Int32} {m : Nat} (hw0 : w ≠ 0) (hvF : vF = .null ∨ vF = .ref 8) (hb : H[b]? = some (.inl (0, [.ref (b + 1), .int 0]))) (hb1 : b ≠ 25 ∧ b + 1 ≠ 25) (hv : H[b + 1]? = some (.inr (.byte, bs.map Value.int))) (hbs : bs.length ≤ 10) (h25 : H[25]? = some o) (hn : n.toInt = (N : Int)) (hS : S ≤ 4288) (hg : good xs N) : (∀ xs', good xs' N → ∀ m', Rsq (go (m' + 152) (290, [.val (.int v0), .val (.int v1), .val (.int v2), .val (.int v3), .val (.int v4), .val (.int v5), l6, .val (.ref b), .val (.int n), .val (.ref 25), l10, l11, l12], [], H.set 25 (.inr (.char, xs'.map Value.int)), 3, S)) q) → Rsq (go (m + 164) (266, [.val (.int v0), .val (.int v1), .val (.int v2), .val (.int v3), .val (.int v4), .val (.int v5), l6, .val (.ref b), .val (.int n), .val (.ref 25), l10, l11, l12], [], H.set 25 (.inr (.char, xs.map Value.int)), 3, S)) q := by
  intro hk
  have ej : (9 : Int32).toInt = ((9 : Nat) : Int) := by decide
  by_cases h : 9 < N
  · have hlt : (9 : Int32) < n := lt_of ej hn (by omega)
    have gA : (H.set 25 (.inr (.char, xs.map Value.int)))[25]? = some (.inr (.char, xs.map Value.int)) := st_se h25
    obtain ⟨c, hc, e3⟩ := F3_ex (w := w) (vF := vF) (i := 9) (ch := v2) (p := v4) (q := v5) hw0 hvF (st_ne (o' := .inr (.char, xs.map Value.int)) hb (Ne.symm hb1.1)) (st_ne hv (Ne.symm hb1.2)) hbs ej
    have hl : 9 < (xs.map Value.int).length := by rw [List.length_map, hg.1]; exact h
    rw [show m + 164 = (m + 152) + 12 by omega]
    refine t0_266 hgo ?_
    refine t0_268 hgo ?_
    refine t0_270t hgo hlt ?_
    refine t0_273 hgo rfl ?_
    refine t0_275 hgo ?_
    refine t0_277 hgo rfl ?_
    refine t0_279 hgo ?_
    refine t0_281 hgo ?_
    refine t0_282 hgo ?_
    refine t0_284 hgo ?_
    refine res_of (u0_286 hgo) ?_
    simp only [eq_self, and_self, true_and, and_true, not_true_eq_false, not_false_eq_true, if_true, if_false, reduceIte, Option.bind_some, List.getElem?_cons_zero, List.getElem?_cons_succ, Nat.reduceAdd, Nat.reduceSub, Nat.reduceLT, Nat.reduceLeDiff, Nat.le_refl, Nat.zero_add, Nat.add_zero, List.length_cons, List.length_nil, Int32.reduceLT, Int32.reduceToNatClampNeg, Int32.reduceAdd, Int32.reduceSub, Int32.reduceMul, decide_true, aCall, aRecv, aObj, obj, List.take_succ_cons, List.take_zero, List.drop_succ_cons, List.drop_zero, List.reverse_cons, List.reverse_nil, List.nil_append, List.cons_append, List.append_nil, List.map_cons, List.map_nil, List.sum_cons, List.sum_nil, cat_int, cat_long, cat_ref, cat_null, Option.toList_some, Option.toList_none, gA, e3, hl, hS]
    refine res_of (u0_289 hgo) ?_
    simp only [eq_self, and_self, true_and, and_true, not_true_eq_false, not_false_eq_true, if_true, if_false, reduceIte, Option.bind_some, List.getElem?_cons_zero, List.getElem?_cons_succ, Nat.reduceAdd, Nat.reduceSub, Nat.reduceLT, Nat.reduceLeDiff, Nat.le_refl, Nat.zero_add, Nat.add_zero, List.length_cons, List.length_nil, Int32.reduceLT, Int32.reduceToNatClampNeg, Int32.reduceAdd, Int32.reduceSub, Int32.reduceMul, decide_true, ex_castore, ast, astL, pI_int, pL_long, pR_ref, arr, isT, isBZ, nar, List.set_cons_zero, List.set_cons_succ, gA, e3, hl, hS]
    simp only [List.set_set]
    have e : c.toUInt32.toUInt16.toUInt32.toInt32 = c := chr_id hc
    rw [e, ← List.map_set]
    exact hk _ (good_set hg hc) _
  · have hlt : ¬ (9 : Int32) < n := nlt_of ej hn (by omega)
    rw [show m + 164 = (m + 161) + 3 by omega]
    refine t0_266 hgo ?_
    refine t0_268 hgo ?_
    refine t0_270f hgo hlt ?_
    rw [show m + 161 = (m + 9) + 152 by omega]
    exact hk _ hg _
set_option maxRecDepth 65536 in
set_option maxHeartbeats 4000000 in
theorem fill_10 {go : GT} (hgo : go = R0 w vF) {q : QT} {v0 v1 v2 v3 v4 v5 n : Int32} {l6 l10 l11 l12 : Slot} {b N S : Nat} {bs : List Int32} {H : AH} {o : Ob} {xs : List Int32} {m : Nat} (hw0 : w ≠ 0) (hvF : vF = .null ∨ vF = .ref 8) (hb : H[b]? = some (.inl (0, [.ref (b + 1), .int 0]))) (hb1 : b ≠ 25 ∧ b + 1 ≠ 25) (hv : H[b + 1]? = some (.inr (.byte, bs.map Value.int))) (hbs : bs.length ≤ 10) (h25 : H[25]? = some o) (hn : n.toInt = (N : Int)) (hS : S ≤ 4288) (hg : good xs N) : (∀ xs', good xs' N → ∀ m', Rsq (go (m' + 140) (314, [.val (.int v0), .val (.int v1), .val (.int v2), .val (.int v3), .val (.int v4), .val (.int v5), l6, .val (.ref b), .val (.int n), .val (.ref 25), l10, l11, l12], [], H.set 25 (.inr (.char, xs'.map Value.int)), 3, S)) q) → Rsq (go (m + 152) (290, [.val (.int v0), .val (.int v1), .val (.int v2), .val (.int v3), .val (.int v4), .val (.int v5), l6, .val (.ref b), .val (.int n), .val (.ref 25), l10, l11, l12], [], H.set 25 (.inr (.char, xs.map Value.int)), 3, S)) q := by
  intro hk
  have ej : (10 : Int32).toInt = ((10 : Nat) : Int) := by decide
  by_cases h : 10 < N
  · have hlt : (10 : Int32) < n := lt_of ej hn (by omega)
    have gA : (H.set 25 (.inr (.char, xs.map Value.int)))[25]? = some (.inr (.char, xs.map Value.int)) := st_se h25
    obtain ⟨c, hc, e3⟩ := F3_ex (w := w) (vF := vF) (i := 10) (ch := v2) (p := v4) (q := v5) hw0 hvF (st_ne (o' := .inr (.char, xs.map Value.int)) hb (Ne.symm hb1.1)) (st_ne hv (Ne.symm hb1.2)) hbs ej
    have hl : 10 < (xs.map Value.int).length := by rw [List.length_map, hg.1]; exact h
    rw [show m + 152 = (m + 140) + 12 by omega]
    refine t0_290 hgo ?_
    refine t0_292 hgo ?_
    refine t0_294t hgo hlt ?_
    refine t0_297 hgo rfl ?_
    refine t0_299 hgo ?_
    refine t0_301 hgo rfl ?_
    refine t0_303 hgo ?_
    refine t0_305 hgo ?_
    refine t0_306 hgo ?_
    refine t0_308 hgo ?_
    refine res_of (u0_310 hgo) ?_
    simp only [eq_self, and_self, true_and, and_true, not_true_eq_false, not_false_eq_true, if_true, if_false, reduceIte, Option.bind_some, List.getElem?_cons_zero, List.getElem?_cons_succ, Nat.reduceAdd, Nat.reduceSub, Nat.reduceLT, Nat.reduceLeDiff, Nat.le_refl, Nat.zero_add, Nat.add_zero, List.length_cons, List.length_nil, Int32.reduceLT, Int32.reduceToNatClampNeg, Int32.reduceAdd, Int32.reduceSub, Int32.reduceMul, decide_true, aCall, aRecv, aObj, obj, List.take_succ_cons, List.take_zero, List.drop_succ_cons, List.drop_zero, List.reverse_cons, List.reverse_nil, List.nil_append, List.cons_append, List.append_nil, List.map_cons, List.map_nil, List.sum_cons, List.sum_nil, cat_int, cat_long, cat_ref, cat_null, Option.toList_some, Option.toList_none, gA, e3, hl, hS]
    refine res_of (u0_313 hgo) ?_
    simp only [eq_self, and_self, true_and, and_true, not_true_eq_false, not_false_eq_true, if_true, if_false, reduceIte, Option.bind_some, List.getElem?_cons_zero, List.getElem?_cons_succ, Nat.reduceAdd, Nat.reduceSub, Nat.reduceLT, Nat.reduceLeDiff, Nat.le_refl, Nat.zero_add, Nat.add_zero, List.length_cons, List.length_nil, Int32.reduceLT, Int32.reduceToNatClampNeg, Int32.reduceAdd, Int32.reduceSub, Int32.reduceMul, decide_true, ex_castore, ast, astL, pI_int, pL_long, pR_ref, arr, isT, isBZ, nar, List.set_cons_zero, List.set_cons_succ, gA, e3, hl, hS]
    simp only [List.set_set]
    have e : c.toUInt32.toUInt16.toUInt32.toInt32 = c := chr_id hc
    rw [e, ← List.map_set]
    exact hk _ (good_set hg hc) _
  · have hlt : ¬ (10 : Int32) < n := nlt_of ej hn (by omega)
    rw [show m + 152 = (m + 149) + 3 by omega]
    refine t0_290 hgo ?_
    refine t0_292 hgo ?_
    refine t0_294f hgo hlt ?_
    rw [show m + 149 = (m + 9) + 140 by omega]
    exact hk _ hg _
def k10 (l : Slot) : Prop := so l = true ∧ ∀ n k, okS n k l = true
theorem all_int {xs : List Int32} {n k : Nat} : (xs.map Value.int).all (okR n k) = true := by
  rw [List.all_eq_true]
  intro v hv
  obtain ⟨y, -, rfl⟩ := List.mem_map.mp hv
  rfl
theorem own_mod (x q d : Int32) (k : Nat) (D : Int) (hk : q.toBitVec.toNat % 32 = k) (h0 : 0 < k) (hd : d.toInt = D) (hD : 0 < D) : ∃ N : Nat, (N : Int) < D ∧ ((x.toUInt32 >>> (q &&& 31).toUInt32).toInt32 % d).toInt = (N : Int) := by
  have h1 := c_iushr x q k hk h0
  generalize (x.toUInt32 >>> (q &&& 31).toUInt32).toInt32 = y at *
  have h2 : 0 ≤ y.toInt := by
    rw [h1]
    exact Int.ediv_nonneg (Int.emod_nonneg _ (by decide)) (Int.natCast_nonneg _)
  have h3 := (c_irem y d D hd).1 h2
  have h4 := Int.emod_nonneg y.toInt (b := D) (by omega)
  have h5 := Int.emod_lt_of_pos y.toInt hD
  exact ⟨(y.toInt % D).toNat, by omega, by omega⟩
set_option maxRecDepth 65536 in
set_option maxHeartbeats 4000000 in
theorem fillP {go : GT} (hgo : go = R0 w vF) {q : QT} {v0 v1 v2 v3 v4 v5 n : Int32} {l6 l10 l11 l12 : Slot} {b N S : Nat} {H : AH} {o : Ob} {xs : List Int32} {m : Nat} (h25 : H[25]? = some o) (hn : n.toInt = (N : Int)) (h10 : k10 l10) (hg : good xs N) : (∀ xs' l10', good xs' N → k10 l10' → ∀ m', Rsq (go (m' + 120) (346, [.val (.int v0), .val (.int v1), .val (.int v2), .val (.int v3), .val (.int v4), .val (.int v5), l6, .val (.ref b), .val (.int n), .val (.ref 25), l10', l11, l12], [], H.set 25 (.inr (.char, xs'.map Value.int)), 3, S)) q) → Rsq (go (m + 140) (314, [.val (.int v0), .val (.int v1), .val (.int v2), .val (.int v3), .val (.int v4), .val (.int v5), l6, .val (.ref b), .val (.int n), .val (.ref 25), l10, l11, l12], [], H.set 25 (.inr (.char, xs.map Value.int)), 3, S)) q := by
  intro hk
  have h10' := h10.1
  by_cases h : (v1 &&& 1) = 0
  · rw [show m + 140 = (m + 136) + 4 by omega]
    refine t0_314 hgo ?_
    refine t0_315 hgo ?_
    refine t0_316 hgo ?_
    refine t0_317t hgo h ?_
    rw [show m + 136 = (m + 16) + 120 by omega]
    exact hk _ _ hg h10 _
  · obtain ⟨p, hp, ep⟩ := own_mod v1 1 11 1 11 (by decide) (by decide) (by decide) (by decide)
    obtain ⟨p1, p2⟩ := i_idx ep
    by_cases hlt : (p : Int) < (N : Int)
    · rw [show m + 140 = (m + 120) + 20 by omega]
      have gA : (H.set 25 (.inr (.char, xs.map Value.int)))[25]? = some (.inr (.char, xs.map Value.int)) := st_se h25
      have hl : p < (xs.map Value.int).length := by rw [List.length_map, hg.1]; omega
      refine t0_314 hgo ?_
      refine t0_315 hgo ?_
      refine t0_316 hgo ?_
      refine t0_317f hgo h ?_
      refine t0_320 hgo ?_
      refine t0_321 hgo ?_
      refine t0_322 hgo ?_
      refine t0_323 hgo ?_
      refine t0_325 hgo (by decide) ?_
      refine t0_326 hgo (by first | rfl | assumption) ?_
      refine t0_328 hgo ?_
      refine t0_330 hgo ?_
      refine t0_332t hgo (lt_of ep hn hlt) ?_
      refine t0_335 hgo rfl ?_
      refine t0_337 hgo ?_
      refine t0_339 hgo ?_
      refine t0_340 hgo ?_
      refine t0_343 hgo ?_
      refine t0_344 hgo ?_
      refine res_of (u0_345 hgo) ?_
      simp only [eq_self, and_self, true_and, and_true, not_true_eq_false, not_false_eq_true, if_true, if_false, reduceIte, Option.bind_some, List.getElem?_cons_zero, List.getElem?_cons_succ, Nat.reduceAdd, Nat.reduceSub, Nat.reduceLT, Nat.reduceLeDiff, Nat.le_refl, Nat.zero_add, Nat.add_zero, List.length_cons, List.length_nil, Int32.reduceLT, Int32.reduceToNatClampNeg, Int32.reduceAdd, Int32.reduceSub, Int32.reduceMul, decide_true, ex_castore, ast, astL, pI_int, pL_long, pR_ref, arr, isT, isBZ, nar, List.set_cons_zero, List.set_cons_succ, gA, p1, p2, hl]
      simp only [List.set_set, ← List.map_set]
      exact hk _ _ (good_set hg (chr_2 v2)) ⟨rfl, fun _ _ => rfl⟩ _
    · rw [show m + 140 = (m + 127) + 13 by omega]
      refine t0_314 hgo ?_
      refine t0_315 hgo ?_
      refine t0_316 hgo ?_
      refine t0_317f hgo h ?_
      refine t0_320 hgo ?_
      refine t0_321 hgo ?_
      refine t0_322 hgo ?_
      refine t0_323 hgo ?_
      refine t0_325 hgo (by decide) ?_
      refine t0_326 hgo (by first | rfl | assumption) ?_
      refine t0_328 hgo ?_
      refine t0_330 hgo ?_
      refine t0_332f hgo (nlt_of ep hn hlt) ?_
      rw [show m + 127 = (m + 7) + 120 by omega]
      exact hk _ _ hg ⟨rfl, fun _ _ => rfl⟩ _
set_option maxRecDepth 65536 in
set_option maxHeartbeats 4000000 in
theorem fill_all {go : GT} (hgo : go = R0 w vF) {q : QT} {v0 v1 v2 v3 v4 v5 n : Int32} {l6 l10 l11 l12 : Slot} {b N S : Nat} {bs : List Int32} {H : AH} {o : Ob} {xs : List Int32} {m : Nat} (hw0 : w ≠ 0) (hvF : vF = .null ∨ vF = .ref 8) (hb : H[b]? = some (.inl (0, [.ref (b + 1), .int 0]))) (hb1 : b ≠ 25 ∧ b + 1 ≠ 25) (hv : H[b + 1]? = some (.inr (.byte, bs.map Value.int))) (hbs : bs.length ≤ 10) (h25 : H[25]? = some o) (hn : n.toInt = (N : Int)) (hS : S ≤ 4288) (h10 : k10 l10) (hg : good xs N) : (∀ xs' l10', good xs' N → k10 l10' → ∀ m', Rsq (go (m' + 120) (346, [.val (.int v0), .val (.int v1), .val (.int v2), .val (.int v3), .val (.int v4), .val (.int v5), l6, .val (.ref b), .val (.int n), .val (.ref 25), l10', l11, l12], [], H.set 25 (.inr (.char, xs'.map Value.int)), 3, S)) q) → Rsq (go (m + 272) (69, [.val (.int v0), .val (.int v1), .val (.int v2), .val (.int v3), .val (.int v4), .val (.int v5), l6, .val (.ref b), .val (.int n), .val (.ref 25), l10, l11, l12], [], H.set 25 (.inr (.char, xs.map Value.int)), 3, S)) q := by
  intro hk
  exact fill_0 hgo hw0 hvF hb hb1 hv hbs h25 hn hS hg fun y0 g0 m0 =>
    fill_1 hgo hw0 hvF hb hb1 hv hbs h25 hn hS g0 fun y1 g1 m1 =>
    fill_2 hgo hw0 hvF hb hb1 hv hbs h25 hn hS g1 fun y2 g2 m2 =>
    fill_3 hgo hw0 hvF hb hb1 hv hbs h25 hn hS g2 fun y3 g3 m3 =>
    fill_4 hgo hw0 hvF hb hb1 hv hbs h25 hn hS g3 fun y4 g4 m4 =>
    fill_5 hgo hw0 hvF hb hb1 hv hbs h25 hn hS g4 fun y5 g5 m5 =>
    fill_6 hgo hw0 hvF hb hb1 hv hbs h25 hn hS g5 fun y6 g6 m6 =>
    fill_7 hgo hw0 hvF hb hb1 hv hbs h25 hn hS g6 fun y7 g7 m7 =>
    fill_8 hgo hw0 hvF hb hb1 hv hbs h25 hn hS g7 fun y8 g8 m8 =>
    fill_9 hgo hw0 hvF hb hb1 hv hbs h25 hn hS g8 fun y9 g9 m9 =>
    fill_10 hgo hw0 hvF hb hb1 hv hbs h25 hn hS g9 fun y10 g10 m10 =>
    fillP hgo h25 hn h10 g10 hk
def Bse (H : AH) (v : Nat) (xs : List Int32) : Prop := H[0]? = some (.inl (2, [.ref 3])) ∧ H[1]? = some (.inl (2, [.ref 5])) ∧ H[2]? = some (Sum.inr (FieldType.object "com/example/mithi/mithi/importer/EdgeWeighting$Scheme", [Value.ref 0, Value.ref 1])) ∧ H[3]? = some (.inl (0, [.ref 4, .int 0])) ∧ H[4]? = some (.inr (.byte, eqB.map Value.int)) ∧ H[5]? = some (.inl (0, [.ref 6, .int 0])) ∧ H[6]? = some (.inr (.byte, lgB.map Value.int)) ∧ H[26]? = some (.inl (0, [.ref v, .int 0])) ∧ H[v]? = some (.inr (.byte, xs.map Value.int)) ∧ xs.length ≤ 11 ∧ H[7]? = some (.inl (1, [.null]))
theorem Bse.st {H : AH} {v j : Nat} {xs : List Int32} {o : Ob} (h : Bse H v xs) (h1 : 9 ≤ j) (h2 : j ≤ 24) (h3 : j ≠ v) : Bse (H.set j o) v xs := by
  obtain ⟨h0, h1', h2', h3', h4, h5, h6, hs, hv, hx, h7⟩ := h
  exact ⟨st_ne h0 (by omega), st_ne h1' (by omega), st_ne h2' (by omega), st_ne h3' (by omega), st_ne h4 (by omega), st_ne h5 (by omega), st_ne h6 (by omega), st_ne hs (by omega), st_ne hv h3, hx, st_ne h7 (by omega)⟩
set_option maxRecDepth 65536 in
set_option maxHeartbeats 4000000 in
theorem fin_a {go : GT} (hgo : go = R0 w vF) {v0 v1 v2 v3 v4 v5 w6 n : Int32} {b v m c S : Nat} {H : AH} (hw0 : w ≠ 0) (B : Bse H v eqB) (hc : c + 2 ≤ 32) (hS : S + 10 ≤ 4288) : Rsq (go (m + 40) (393, [.val (.int v0), .val (.int v1), .val (.int v2), .val (.int v3), .val (.int v4), .val (.int v5), .val (.int w6), .val (.ref b), .val (.int n), .val (.ref 25), .val (.ref 26), .val (.ref 0), .unset], [], H, c, S)) OneI := by
  obtain ⟨h0, h1, h2, h3, h4, h5, h6, hs, hv, hx, h7⟩ := B
  have e16 := F16_a (w := w) (vF := vF) (s := 26) hw0 h0 h1 h2 h3 h4 h5 h6 hs hv (by decide) hx rfl
  have q1 : ((H ++ [Sum.inr (FieldType.object "com/example/mithi/mithi/importer/EdgeWeighting$Scheme", [Value.ref 0, Value.ref 1])]) ++ [Sum.inl (1, [Value.ref 0])])[(H ++ [Sum.inr (FieldType.object "com/example/mithi/mithi/importer/EdgeWeighting$Scheme", [Value.ref 0, Value.ref 1])]).length]? = some (.inl (1, [.ref 0])) := nw
  have p1 := F19_r (w := w) (vF := vF) q1
  have p2 := F23_eq (w := w) (vF := vF) q1
  refine t0_393 hgo rfl ?_
  refine res_of (u0_395 hgo) ?_
  simp only [eq_self, and_self, true_and, and_true, not_true_eq_false, not_false_eq_true, if_true, if_false, reduceIte, Option.bind_some, List.getElem?_cons_zero, List.getElem?_cons_succ, Nat.reduceAdd, Nat.reduceSub, Nat.reduceLT, Nat.reduceLeDiff, Nat.le_refl, Nat.zero_add, Nat.add_zero, List.length_cons, List.length_nil, Int32.reduceLT, Int32.reduceToNatClampNeg, Int32.reduceAdd, Int32.reduceSub, Int32.reduceMul, decide_true, aCall, aRecv, aObj, obj, List.take_succ_cons, List.take_zero, List.drop_succ_cons, List.drop_zero, List.reverse_cons, List.reverse_nil, List.nil_append, List.cons_append, List.append_nil, List.map_cons, List.map_nil, List.sum_cons, List.sum_nil, cat_int, cat_long, cat_ref, cat_null, Option.toList_some, Option.toList_none, hs, e16, q1, p1, p2, hc, hS]
  refine t0_398 hgo rfl (by first | rfl | assumption) ?_
  refine t0_400 hgo rfl ?_
  refine t0_402f hgo ?_
  refine t0_419 hgo rfl ?_
  refine res_of (u0_421 hgo) ?_
  simp only [eq_self, and_self, true_and, and_true, not_true_eq_false, not_false_eq_true, if_true, if_false, reduceIte, Option.bind_some, List.getElem?_cons_zero, List.getElem?_cons_succ, Nat.reduceAdd, Nat.reduceSub, Nat.reduceLT, Nat.reduceLeDiff, Nat.le_refl, Nat.zero_add, Nat.add_zero, List.length_cons, List.length_nil, Int32.reduceLT, Int32.reduceToNatClampNeg, Int32.reduceAdd, Int32.reduceSub, Int32.reduceMul, decide_true, aCall, aRecv, aObj, obj, List.take_succ_cons, List.take_zero, List.drop_succ_cons, List.drop_zero, List.reverse_cons, List.reverse_nil, List.nil_append, List.cons_append, List.append_nil, List.map_cons, List.map_nil, List.sum_cons, List.sum_nil, cat_int, cat_long, cat_ref, cat_null, Option.toList_some, Option.toList_none, hs, e16, q1, p1, p2, hc, hS]
  refine t0_424f hgo (by decide) ?_
  refine t0_427 hgo rfl ?_
  refine res_of (u0_429 hgo) ?_
  simp only [eq_self, and_self, true_and, and_true, not_true_eq_false, not_false_eq_true, if_true, if_false, reduceIte, Option.bind_some, List.getElem?_cons_zero, List.getElem?_cons_succ, Nat.reduceAdd, Nat.reduceSub, Nat.reduceLT, Nat.reduceLeDiff, Nat.le_refl, Nat.zero_add, Nat.add_zero, List.length_cons, List.length_nil, Int32.reduceLT, Int32.reduceToNatClampNeg, Int32.reduceAdd, Int32.reduceSub, Int32.reduceMul, decide_true, aCall, aRecv, aObj, obj, List.take_succ_cons, List.take_zero, List.drop_succ_cons, List.drop_zero, List.reverse_cons, List.reverse_nil, List.nil_append, List.cons_append, List.append_nil, List.map_cons, List.map_nil, List.sum_cons, List.sum_nil, cat_int, cat_long, cat_ref, cat_null, Option.toList_some, Option.toList_none, hs, e16, q1, p1, p2, hc, hS]
  refine t0_432 hgo rfl ?_
  refine t0_434t hgo rfl rfl ?_
  refine t0_437 hgo ?_
  refine t0_438 hgo ?_
  refine t0_442 hgo ?_
  exact one_b
set_option maxRecDepth 65536 in
set_option maxHeartbeats 4000000 in
theorem fin_b {go : GT} (hgo : go = R0 w vF) {v0 v1 v2 v3 v4 v5 w6 n : Int32} {b v m c S : Nat} {H : AH} (hw0 : w ≠ 0) (B : Bse H v lgB) (hc : c + 2 ≤ 32) (hS : S + 10 ≤ 4288) : Rsq (go (m + 40) (393, [.val (.int v0), .val (.int v1), .val (.int v2), .val (.int v3), .val (.int v4), .val (.int v5), .val (.int w6), .val (.ref b), .val (.int n), .val (.ref 25), .val (.ref 26), .val (.ref 1), .unset], [], H, c, S)) OneI := by
  obtain ⟨h0, h1, h2, h3, h4, h5, h6, hs, hv, hx, h7⟩ := B
  have e16 := F16_b (w := w) (vF := vF) (s := 26) hw0 h0 h1 h2 h3 h4 h5 h6 hs hv (by decide) hx (by decide) rfl
  have q1 : ((H ++ [Sum.inr (FieldType.object "com/example/mithi/mithi/importer/EdgeWeighting$Scheme", [Value.ref 0, Value.ref 1])]) ++ [Sum.inl (1, [Value.ref 1])])[(H ++ [Sum.inr (FieldType.object "com/example/mithi/mithi/importer/EdgeWeighting$Scheme", [Value.ref 0, Value.ref 1])]).length]? = some (.inl (1, [.ref 1])) := nw
  have p1 := F19_r (w := w) (vF := vF) q1
  have p2 := F23_eq (w := w) (vF := vF) q1
  refine t0_393 hgo rfl ?_
  refine res_of (u0_395 hgo) ?_
  simp only [eq_self, and_self, true_and, and_true, not_true_eq_false, not_false_eq_true, if_true, if_false, reduceIte, Option.bind_some, List.getElem?_cons_zero, List.getElem?_cons_succ, Nat.reduceAdd, Nat.reduceSub, Nat.reduceLT, Nat.reduceLeDiff, Nat.le_refl, Nat.zero_add, Nat.add_zero, List.length_cons, List.length_nil, Int32.reduceLT, Int32.reduceToNatClampNeg, Int32.reduceAdd, Int32.reduceSub, Int32.reduceMul, decide_true, aCall, aRecv, aObj, obj, List.take_succ_cons, List.take_zero, List.drop_succ_cons, List.drop_zero, List.reverse_cons, List.reverse_nil, List.nil_append, List.cons_append, List.append_nil, List.map_cons, List.map_nil, List.sum_cons, List.sum_nil, cat_int, cat_long, cat_ref, cat_null, Option.toList_some, Option.toList_none, hs, e16, q1, p1, p2, hc, hS]
  refine t0_398 hgo rfl (by first | rfl | assumption) ?_
  refine t0_400 hgo rfl ?_
  refine t0_402f hgo ?_
  refine t0_419 hgo rfl ?_
  refine res_of (u0_421 hgo) ?_
  simp only [eq_self, and_self, true_and, and_true, not_true_eq_false, not_false_eq_true, if_true, if_false, reduceIte, Option.bind_some, List.getElem?_cons_zero, List.getElem?_cons_succ, Nat.reduceAdd, Nat.reduceSub, Nat.reduceLT, Nat.reduceLeDiff, Nat.le_refl, Nat.zero_add, Nat.add_zero, List.length_cons, List.length_nil, Int32.reduceLT, Int32.reduceToNatClampNeg, Int32.reduceAdd, Int32.reduceSub, Int32.reduceMul, decide_true, aCall, aRecv, aObj, obj, List.take_succ_cons, List.take_zero, List.drop_succ_cons, List.drop_zero, List.reverse_cons, List.reverse_nil, List.nil_append, List.cons_append, List.append_nil, List.map_cons, List.map_nil, List.sum_cons, List.sum_nil, cat_int, cat_long, cat_ref, cat_null, Option.toList_some, Option.toList_none, hs, e16, q1, p1, p2, hc, hS]
  refine t0_424f hgo (by decide) ?_
  refine t0_427 hgo rfl ?_
  refine res_of (u0_429 hgo) ?_
  simp only [eq_self, and_self, true_and, and_true, not_true_eq_false, not_false_eq_true, if_true, if_false, reduceIte, Option.bind_some, List.getElem?_cons_zero, List.getElem?_cons_succ, Nat.reduceAdd, Nat.reduceSub, Nat.reduceLT, Nat.reduceLeDiff, Nat.le_refl, Nat.zero_add, Nat.add_zero, List.length_cons, List.length_nil, Int32.reduceLT, Int32.reduceToNatClampNeg, Int32.reduceAdd, Int32.reduceSub, Int32.reduceMul, decide_true, aCall, aRecv, aObj, obj, List.take_succ_cons, List.take_zero, List.drop_succ_cons, List.drop_zero, List.reverse_cons, List.reverse_nil, List.nil_append, List.cons_append, List.append_nil, List.map_cons, List.map_nil, List.sum_cons, List.sum_nil, cat_int, cat_long, cat_ref, cat_null, Option.toList_some, Option.toList_none, hs, e16, q1, p1, p2, hc, hS]
  refine t0_432 hgo rfl ?_
  refine t0_434t hgo rfl rfl ?_
  refine t0_437 hgo ?_
  refine t0_438 hgo ?_
  refine t0_442 hgo ?_
  exact one_b
set_option maxRecDepth 65536 in
set_option maxHeartbeats 4000000 in
theorem fin_c {go : GT} (hgo : go = R0 w vF) {v0 v1 v2 v3 v4 v5 w6 n : Int32} {b v m c S : Nat} {xs : List Int32} {H : AH} (hw0 : w ≠ 0) (B : Bse H v xs) (e : ¬ eqB = xs) (e' : ¬ lgB = xs) (hc : c + 2 ≤ 32) (hS : S + 10 ≤ 4288) : Rsq (go (m + 40) (393, [.val (.int v0), .val (.int v1), .val (.int v2), .val (.int v3), .val (.int v4), .val (.int v5), .val (.int w6), .val (.ref b), .val (.int n), .val (.ref 25), .val (.ref 26), .val .null, .unset], [], H, c, S)) OneI := by
  obtain ⟨h0, h1, h2, h3, h4, h5, h6, hs, hv, hx, h7⟩ := B
  have e16 := F16_c (w := w) (vF := vF) (s := 26) hw0 h0 h1 h2 h3 h4 h5 h6 hs hv (by decide) hx e e'
  have q1 : (H ++ [Sum.inr (FieldType.object "com/example/mithi/mithi/importer/EdgeWeighting$Scheme", [Value.ref 0, Value.ref 1])])[7]? = some (.inl (1, [.null])) := ap h7
  have p1 := F19_n (w := w) (vF := vF) q1
  refine t0_393 hgo rfl ?_
  refine res_of (u0_395 hgo) ?_
  simp only [eq_self, and_self, true_and, and_true, not_true_eq_false, not_false_eq_true, if_true, if_false, reduceIte, Option.bind_some, List.getElem?_cons_zero, List.getElem?_cons_succ, Nat.reduceAdd, Nat.reduceSub, Nat.reduceLT, Nat.reduceLeDiff, Nat.le_refl, Nat.zero_add, Nat.add_zero, List.length_cons, List.length_nil, Int32.reduceLT, Int32.reduceToNatClampNeg, Int32.reduceAdd, Int32.reduceSub, Int32.reduceMul, decide_true, aCall, aRecv, aObj, obj, List.take_succ_cons, List.take_zero, List.drop_succ_cons, List.drop_zero, List.reverse_cons, List.reverse_nil, List.nil_append, List.cons_append, List.append_nil, List.map_cons, List.map_nil, List.sum_cons, List.sum_nil, cat_int, cat_long, cat_ref, cat_null, Option.toList_some, Option.toList_none, hs, e16, q1, p1, hc, hS]
  refine t0_398 hgo rfl (by first | rfl | assumption) ?_
  refine t0_400 hgo rfl ?_
  refine t0_402t hgo ?_
  refine t0_405 hgo rfl ?_
  refine res_of (u0_407 hgo) ?_
  simp only [eq_self, and_self, true_and, and_true, not_true_eq_false, not_false_eq_true, if_true, if_false, reduceIte, Option.bind_some, List.getElem?_cons_zero, List.getElem?_cons_succ, Nat.reduceAdd, Nat.reduceSub, Nat.reduceLT, Nat.reduceLeDiff, Nat.le_refl, Nat.zero_add, Nat.add_zero, List.length_cons, List.length_nil, Int32.reduceLT, Int32.reduceToNatClampNeg, Int32.reduceAdd, Int32.reduceSub, Int32.reduceMul, decide_true, aCall, aRecv, aObj, obj, List.take_succ_cons, List.take_zero, List.drop_succ_cons, List.drop_zero, List.reverse_cons, List.reverse_nil, List.nil_append, List.cons_append, List.append_nil, List.map_cons, List.map_nil, List.sum_cons, List.sum_nil, cat_int, cat_long, cat_ref, cat_null, Option.toList_some, Option.toList_none, hs, e16, q1, p1, hc, hS]
  refine t0_410t hgo (by decide) ?_
  refine t0_413 hgo ?_
  refine t0_414 hgo ?_
  refine t0_418 hgo ?_
  exact one_b
theorem fr_set {n k j : Nat} {L : List Slot} {S : List Value} {H : AH} {o : Ob} (h : fr3 n k L S H = true) (ho : okO n k o = true) : fr3 n k L S (H.set j o) = true := by
  simp only [fr3, Bool.and_eq_true] at *
  refine ⟨h.1, ?_⟩
  rw [List.all_eq_true]
  intro x hx
  rcases List.mem_or_eq_of_mem_set hx with q | q
  · exact List.all_eq_true.mp h.2 x q
  · rw [q]; exact ho
theorem slt_set {H : AH} {j k : Nat} {o : Ob} (h : j ≠ k) : slt (H.set j o) k = slt H k := by
  unfold slt isOpq; rw [List.getElem?_set_ne h]
theorem okO_l {n k j : Nat} (h1 : j + 1 < n) (h2 : j + 1 < k) : okO n k (.inl (0, [.ref (j + 1), .int 0])) = true := by
  have e : okR n k (.ref (j + 1)) = true := decide_eq_true (p := j + 1 < n ∧ j + 1 ≠ k ∧ j + 1 ≠ k + 1) ⟨h1, by omega, by omega⟩
  simp only [okO, List.all_cons, List.all_nil, e, Bool.and_true, Bool.true_and]; rfl
theorem okO_r {n k : Nat} : okO n k (.inr (.byte, [.int 101, .int 113, .int 117, .int 97, .int 108])) = true := rfl
theorem two_l {H : AH} {j : Nat} {o o' : Ob} (h : j + 1 < H.length) : ((H.set j o).set (j + 1) o')[j]? = some o := st_ne (st_se (List.getElem?_eq_getElem (by omega))) (by omega)
theorem two_r {H : AH} {j : Nat} {o o' : Ob} (h : j + 1 < H.length) : ((H.set j o).set (j + 1) o')[j + 1]? = some o' := st_se (List.getElem?_eq_getElem (by rw [List.length_set]; exact h))
set_option maxRecDepth 65536 in
set_option maxHeartbeats 4000000 in
theorem midG {go : GT} (hgo : go = R0 w vF) {v0 v1 v2 v3 v4 v5 w6 n : Int32} {b v j k m S : Nat} {l10 : Slot} {xs : List Int32} {H : AH} (h10 : so l10 = true) (hw0 : w ≠ 0) (B : Bse H v xs) (hj : slt H 9 = j) (hk : slt H 13 = k) (hjl : j + 1 < H.length) (hkl : k + 1 < H.length) (j1 : 9 ≤ j) (j2 : j ≤ 11) (k1 : 13 ≤ k) (k2 : k ≤ 15) (jv : 16 < v) (FA : fr3 H.length j [.val (.int v0), .val (.int v1), .val (.int v2), .val (.int v3), .val (.int v4), .val (.int v5), .val (.int w6), .val (.ref b), .val (.int n), .val (.ref 25), .val (.ref 26), .val .null, .unset] [.ref 26] H = true) (FB : fr3 H.length k [.val (.int v0), .val (.int v1), .val (.int v2), .val (.int v3), .val (.int v4), .val (.int v5), .val (.int w6), .val (.ref b), .val (.int n), .val (.ref 25), .val (.ref 26), .val .null, .unset] [.ref 26] H = true) (hS : S ≤ 200) : Rsq (go (m + 100) (355, [.val (.int v0), .val (.int v1), .val (.int v2), .val (.int v3), .val (.int v4), .val (.int v5), .val (.int w6), .val (.ref b), .val (.int n), .val (.ref 25), l10, .unset, .unset], [.ref 26], H, 10, S)) OneI := by
  have FR3 : fr3 H.length (slt H 9) [.val (.int v0), .val (.int v1), .val (.int v2), .val (.int v3), .val (.int v4), .val (.int v5), .val (.int w6), .val (.ref b), .val (.int n), .val (.ref 25), .val (.ref 26), .val .null, .unset] [.ref 26] H = true := by rw [hj]; exact FA
  refine t0_355 hgo rfl (by first | rfl | assumption) ?_
  refine t0_357 hgo ?_
  refine t0_358 hgo rfl (by first | rfl | assumption) ?_
  refine t0_360 hgo rfl ?_
  refine res_of (u0_362 hgo) ?_
  refine res_t (by first | exact FR3 | (simp only [fr3, List.length_cons, List.length_nil, Nat.reduceAdd, Nat.zero_add, List.all_cons, List.all_nil, okO, all_int, Bool.true_and, Bool.and_true] <;> rfl) | rfl) ?_
  refine lit_ok (j := j) (by first | assumption | rfl) ⟨by decide, by first | decide | omega, by first | assumption | (simp only [List.length_cons, List.length_nil]; decide)⟩ ?_
  simp only [List.set_cons_zero, List.set_cons_succ, Nat.add_assoc, Nat.reduceAdd]
  have B := (B.st (o := Sum.inl (0, [Value.ref (j + 1), Value.int 0])) j1 (by omega) (by omega)).st (j := j + 1) (o := Sum.inr (FieldType.byte, [Value.int 101, Value.int 113, Value.int 117, Value.int 97, Value.int 108])) (by omega) (by omega) (by omega)
  have a1 := two_l (o := Sum.inl (0, [Value.ref (j + 1), Value.int 0])) (o' := Sum.inr (FieldType.byte, [Value.int 101, Value.int 113, Value.int 117, Value.int 97, Value.int 108])) hjl
  have a2 := two_r (o := Sum.inl (0, [Value.ref (j + 1), Value.int 0])) (o' := Sum.inr (FieldType.byte, [Value.int 101, Value.int 113, Value.int 117, Value.int 97, Value.int 108])) hjl
  have FB := fr_set (j := j + 1) (fr_set (j := j) FB (okO_l (j := j) hjl (by omega))) (okO_r (n := H.length) (k := k))
  have hk := ((slt_set (o := Sum.inr (FieldType.byte, [Value.int 101, Value.int 113, Value.int 117, Value.int 97, Value.int 108])) (by omega : j + 1 ≠ 13)).trans (slt_set (H := H) (o := Sum.inl (0, [Value.ref (j + 1), Value.int 0])) (by omega : j ≠ 13))).trans hk
  have hl : ((H.set j (Sum.inl (0, [Value.ref (j + 1), Value.int 0]))).set (j + 1) (Sum.inr (FieldType.byte, [Value.int 101, Value.int 113, Value.int 117, Value.int 97, Value.int 108])) : AH).length = H.length := by rw [List.length_set, List.length_set]
  rw [← hl] at FB hkl
  clear FA FR3 hj hjl hl
  generalize ((H.set j (Sum.inl (0, [Value.ref (j + 1), Value.int 0]))).set (j + 1) (Sum.inr (FieldType.byte, [Value.int 101, Value.int 113, Value.int 117, Value.int 97, Value.int 108])) : AH) = G at *
  have qa := F14_eq (w := w) (vF := vF) (a := 26) (b := j) (xs := xs) (ys := eqB) hw0 (by omega) (okc_l (by decide) (by omega)) B.2.2.2.2.2.2.2.1 a1 B.2.2.2.2.2.2.2.2.1 a2 B.2.2.2.2.2.2.2.2.2.1 (by decide)
  have hs := B.2.2.2.2.2.2.2.1
  have s5 : S + 24 + 10 ≤ 4288 := by omega
  have s6 : S + 68 + 10 ≤ 4288 := by omega
  have s7 : S + 24 ≤ 4288 := by omega
  have s8 : S + 68 ≤ 4288 := by omega
  by_cases e : xs = eqB
  · subst e
    rw [if_pos rfl] at qa
    refine res_of (u0_364 hgo) ?_
    simp only [eq_self, and_self, true_and, and_true, not_true_eq_false, not_false_eq_true, if_true, if_false, reduceIte, Option.bind_some, List.getElem?_cons_zero, List.getElem?_cons_succ, Nat.reduceAdd, Nat.reduceSub, Nat.reduceLT, Nat.reduceLeDiff, Nat.le_refl, Nat.zero_add, Nat.add_zero, List.length_cons, List.length_nil, Int32.reduceLT, Int32.reduceToNatClampNeg, Int32.reduceAdd, Int32.reduceSub, Int32.reduceMul, decide_true, aCall, aRecv, aObj, obj, List.take_succ_cons, List.take_zero, List.drop_succ_cons, List.drop_zero, List.reverse_cons, List.reverse_nil, List.nil_append, List.cons_append, List.append_nil, List.map_cons, List.map_nil, List.sum_cons, List.sum_nil, cat_int, cat_long, cat_ref, cat_null, Option.toList_some, Option.toList_none, hs, a1, qa, s7]
    refine t0_367f hgo (by decide) ?_
    refine res_of (u0_370 hgo) ?_
    simp only [eq_self, and_self, true_and, and_true, not_true_eq_false, not_false_eq_true, if_true, if_false, reduceIte, Option.bind_some, List.getElem?_cons_zero, List.getElem?_cons_succ, Nat.reduceAdd, Nat.reduceSub, Nat.reduceLT, Nat.reduceLeDiff, Nat.le_refl, Nat.zero_add, Nat.add_zero, List.length_cons, List.length_nil, Int32.reduceLT, Int32.reduceToNatClampNeg, Int32.reduceAdd, Int32.reduceSub, Int32.reduceMul, decide_true, aSta, hs, a1, qa, s7]
    refine t0_373 hgo rfl (by first | rfl | assumption) ?_
    refine t0_375 hgo ?_
    exact fin_a hgo hw0 B (by decide) s5
  rw [if_neg e] at qa
  refine res_of (u0_364 hgo) ?_
  simp only [eq_self, and_self, true_and, and_true, not_true_eq_false, not_false_eq_true, if_true, if_false, reduceIte, Option.bind_some, List.getElem?_cons_zero, List.getElem?_cons_succ, Nat.reduceAdd, Nat.reduceSub, Nat.reduceLT, Nat.reduceLeDiff, Nat.le_refl, Nat.zero_add, Nat.add_zero, List.length_cons, List.length_nil, Int32.reduceLT, Int32.reduceToNatClampNeg, Int32.reduceAdd, Int32.reduceSub, Int32.reduceMul, decide_true, aCall, aRecv, aObj, obj, List.take_succ_cons, List.take_zero, List.drop_succ_cons, List.drop_zero, List.reverse_cons, List.reverse_nil, List.nil_append, List.cons_append, List.append_nil, List.map_cons, List.map_nil, List.sum_cons, List.sum_nil, cat_int, cat_long, cat_ref, cat_null, Option.toList_some, Option.toList_none, hs, a1, qa, s7]
  refine t0_367t hgo (by decide) ?_
  have FR3 : fr3 G.length (slt G 13) [.val (.int v0), .val (.int v1), .val (.int v2), .val (.int v3), .val (.int v4), .val (.int v5), .val (.int w6), .val (.ref b), .val (.int n), .val (.ref 25), .val (.ref 26), .val .null, .unset] [.ref 26] G = true := by rw [hk]; exact FB
  refine t0_378 hgo rfl ?_
  refine res_of (u0_380 hgo) ?_
  refine res_t (by first | exact FR3 | (simp only [fr3, List.length_cons, List.length_nil, Nat.reduceAdd, Nat.zero_add, List.all_cons, List.all_nil, okO, all_int, Bool.true_and, Bool.and_true] <;> rfl) | rfl) ?_
  refine lit_ok (j := k) (by first | assumption | rfl) ⟨by decide, by first | decide | omega, by first | assumption | (simp only [List.length_cons, List.length_nil]; decide)⟩ ?_
  simp only [List.set_cons_zero, List.set_cons_succ, Nat.add_assoc, Nat.reduceAdd]
  have B := (B.st (o := Sum.inl (0, [Value.ref (k + 1), Value.int 0])) (by omega : 9 ≤ k) (by omega) (by omega)).st (j := k + 1) (o := Sum.inr (FieldType.byte, [Value.int 108, Value.int 111, Value.int 103, Value.int 45, Value.int 100, Value.int 101, Value.int 103, Value.int 114, Value.int 101, Value.int 101])) (by omega) (by omega) (by omega)
  have a1 := two_l (o := Sum.inl (0, [Value.ref (k + 1), Value.int 0])) (o' := Sum.inr (FieldType.byte, [Value.int 108, Value.int 111, Value.int 103, Value.int 45, Value.int 100, Value.int 101, Value.int 103, Value.int 114, Value.int 101, Value.int 101])) hkl
  have a2 := two_r (o := Sum.inl (0, [Value.ref (k + 1), Value.int 0])) (o' := Sum.inr (FieldType.byte, [Value.int 108, Value.int 111, Value.int 103, Value.int 45, Value.int 100, Value.int 101, Value.int 103, Value.int 114, Value.int 101, Value.int 101])) hkl
  clear FB FR3 hk hkl qa hs
  generalize ((G.set k (Sum.inl (0, [Value.ref (k + 1), Value.int 0]))).set (k + 1) (Sum.inr (FieldType.byte, [Value.int 108, Value.int 111, Value.int 103, Value.int 45, Value.int 100, Value.int 101, Value.int 103, Value.int 114, Value.int 101, Value.int 101])) : AH) = G' at *
  have qa := F14_eq (w := w) (vF := vF) (a := 26) (b := k) (xs := xs) (ys := lgB) hw0 (by omega) (okc_l (by decide) (by omega)) B.2.2.2.2.2.2.2.1 a1 B.2.2.2.2.2.2.2.2.1 a2 B.2.2.2.2.2.2.2.2.2.1 (by decide)
  have hs := B.2.2.2.2.2.2.2.1
  by_cases e' : xs = lgB
  · subst e'
    rw [if_pos rfl] at qa
    refine res_of (u0_382 hgo) ?_
    simp only [eq_self, and_self, true_and, and_true, not_true_eq_false, not_false_eq_true, if_true, if_false, reduceIte, Option.bind_some, List.getElem?_cons_zero, List.getElem?_cons_succ, Nat.reduceAdd, Nat.reduceSub, Nat.reduceLT, Nat.reduceLeDiff, Nat.le_refl, Nat.zero_add, Nat.add_zero, List.length_cons, List.length_nil, Int32.reduceLT, Int32.reduceToNatClampNeg, Int32.reduceAdd, Int32.reduceSub, Int32.reduceMul, decide_true, aCall, aRecv, aObj, obj, List.take_succ_cons, List.take_zero, List.drop_succ_cons, List.drop_zero, List.reverse_cons, List.reverse_nil, List.nil_append, List.cons_append, List.append_nil, List.map_cons, List.map_nil, List.sum_cons, List.sum_nil, cat_int, cat_long, cat_ref, cat_null, Option.toList_some, Option.toList_none, hs, a1, qa, s8]
    refine t0_385f hgo (by decide) ?_
    refine res_of (u0_388 hgo) ?_
    simp only [eq_self, and_self, true_and, and_true, not_true_eq_false, not_false_eq_true, if_true, if_false, reduceIte, Option.bind_some, List.getElem?_cons_zero, List.getElem?_cons_succ, Nat.reduceAdd, Nat.reduceSub, Nat.reduceLT, Nat.reduceLeDiff, Nat.le_refl, Nat.zero_add, Nat.add_zero, List.length_cons, List.length_nil, Int32.reduceLT, Int32.reduceToNatClampNeg, Int32.reduceAdd, Int32.reduceSub, Int32.reduceMul, decide_true, aSta, hs, a1, qa, s8]
    refine t0_391 hgo rfl (by first | rfl | assumption) ?_
    exact fin_b hgo hw0 B (by decide) s6
  rw [if_neg e'] at qa
  refine res_of (u0_382 hgo) ?_
  simp only [eq_self, and_self, true_and, and_true, not_true_eq_false, not_false_eq_true, if_true, if_false, reduceIte, Option.bind_some, List.getElem?_cons_zero, List.getElem?_cons_succ, Nat.reduceAdd, Nat.reduceSub, Nat.reduceLT, Nat.reduceLeDiff, Nat.le_refl, Nat.zero_add, Nat.add_zero, List.length_cons, List.length_nil, Int32.reduceLT, Int32.reduceToNatClampNeg, Int32.reduceAdd, Int32.reduceSub, Int32.reduceMul, decide_true, aCall, aRecv, aObj, obj, List.take_succ_cons, List.take_zero, List.drop_succ_cons, List.drop_zero, List.reverse_cons, List.reverse_nil, List.nil_append, List.cons_append, List.append_nil, List.map_cons, List.map_nil, List.sum_cons, List.sum_nil, cat_int, cat_long, cat_ref, cat_null, Option.toList_some, Option.toList_none, hs, a1, qa, s8]
  refine t0_385t hgo (by decide) ?_
  exact fin_c hgo hw0 B (Ne.symm e) (Ne.symm e') (by decide) s6
set_option maxRecDepth 65536 in
set_option maxHeartbeats 4000000 in
theorem headT {go : GT} (hgo : go = R0 w vF) {v0 v1 v2 v3 v4 v5 w6 n : Int32} {b m S : Nat} {l10 : Slot} {H H2 : AH} {q : QT} (h10 : k10 l10) (hl : H.length = 26) (b1 : b < 21) (hS : S ≤ 100) (e9 : (F9 w vF) [.ref 26, .ref 25] (H ++ [Sum.inl (0, [Value.null, Value.int 0])]) = some (none, H2)) (hh : Rsq (go (m + 100) (355, [.val (.int v0), .val (.int v1), .val (.int v2), .val (.int v3), .val (.int v4), .val (.int v5), .val (.int w6), .val (.ref b), .val (.int n), .val (.ref 25), l10, .unset, .unset], [.ref 26], H2, 10, S + 44)) q) : Rsq (go (m + 104) (346, [.val (.int v0), .val (.int v1), .val (.int v2), .val (.int v3), .val (.int v4), .val (.int v5), .val (.int w6), .val (.ref b), .val (.int n), .val (.ref 25), l10, .unset, .unset], [], H, 3, S)) q := by
  have s1 : S + 4 ≤ 4288 := by omega
  have s2 : S + 44 ≤ 4288 := by omega
  have hb : ∀ k, 21 ≤ k → okR 27 k (.ref b) = true := fun k hk => decide_eq_true (p := b < 27 ∧ b ≠ k ∧ b ≠ k + 1) ⟨by omega, by omega, by omega⟩
  have hn : (H ++ [Sum.inl (0, [Value.null, Value.int 0])]).length = 27 := by rw [List.length_append, hl]; rfl
  have hg : (H ++ [Sum.inl (0, [Value.null, Value.int 0])])[26]? = some (Sum.inl (0, [Value.null, Value.int 0])) := by rw [← hl]; exact nw
  have FR3 : (fr3 (H ++ [Sum.inl (0, [Value.null, Value.int 0])]).length 21 [.val (.int v0), .val (.int v1), .val (.int v2), .val (.int v3), .val (.int v4), .val (.int v5), .val (.int w6), .val (.ref b), .val (.int n), .val (.ref 25), l10, .unset, .unset] [.ref 25, .ref 26, .ref 26] [] && fr3 (H ++ [Sum.inl (0, [Value.null, Value.int 0])]).length 23 [.val (.int v0), .val (.int v1), .val (.int v2), .val (.int v3), .val (.int v4), .val (.int v5), .val (.int w6), .val (.ref b), .val (.int n), .val (.ref 25), l10, .unset, .unset] [.ref 25, .ref 26, .ref 26] []) = true := by
    simp only [hn, fr3, List.all_cons, List.all_nil, h10.2, show ∀ n k, okS n k (.val (.ref b)) = okR n k (.ref b) from fun _ _ => rfl, hb 21 (by decide), hb 23 (by decide), Bool.and_true, Bool.true_and]
    rfl
  have h10' := h10.1
  refine res_of (u0_346 hgo) ?_
  simp only [eq_self, and_self, true_and, and_true, not_true_eq_false, not_false_eq_true, if_true, if_false, reduceIte, Option.bind_some, List.getElem?_cons_zero, List.getElem?_cons_succ, Nat.reduceAdd, Nat.reduceSub, Nat.reduceLT, Nat.reduceLeDiff, Nat.le_refl, Nat.zero_add, Nat.add_zero, List.length_cons, List.length_nil, Int32.reduceLT, Int32.reduceToNatClampNeg, Int32.reduceAdd, Int32.reduceSub, Int32.reduceMul, decide_true, aNew, List.nil_append, List.cons_append, hl, hg, e9, s1, s2, Nat.add_assoc]
  refine t0_349 hgo rfl ?_
  refine t0_350 hgo rfl ?_
  refine res_of (u0_352 hgo) ?_
  refine res_t (by first | exact FR3 | (simp only [fr3, List.length_cons, List.length_nil, Nat.reduceAdd, Nat.zero_add, List.all_cons, List.all_nil, okO, all_int, Bool.true_and, Bool.and_true] <;> rfl) | rfl) ?_
  simp only [eq_self, and_self, true_and, and_true, not_true_eq_false, not_false_eq_true, if_true, if_false, reduceIte, Option.bind_some, List.getElem?_cons_zero, List.getElem?_cons_succ, Nat.reduceAdd, Nat.reduceSub, Nat.reduceLT, Nat.reduceLeDiff, Nat.le_refl, Nat.zero_add, Nat.add_zero, List.length_cons, List.length_nil, Int32.reduceLT, Int32.reduceToNatClampNeg, Int32.reduceAdd, Int32.reduceSub, Int32.reduceMul, decide_true, aCall, aRecv, aObj, obj, List.take_succ_cons, List.take_zero, List.drop_succ_cons, List.drop_zero, List.reverse_cons, List.reverse_nil, List.nil_append, List.cons_append, List.append_nil, List.map_cons, List.map_nil, List.sum_cons, List.sum_nil, cat_int, cat_long, cat_ref, cat_null, Option.toList_some, Option.toList_none, hl, hg, e9, s1, s2, Nat.add_assoc]
  exact hh
set_option maxRecDepth 65536 in
set_option maxHeartbeats 4000000 in
theorem tail_E1 {go : GT} (hgo : go = R0 w vF) {v0 v1 v2 v3 v4 v5 w6 n : Int32} {m S : Nat} {l10 : Slot} {N : Nat} {xs : List Int32} (hn : n.toInt = (N : Int)) (hg : good xs N) (hN : N ≤ 11) (h1 : 1 ≤ N) (h10 : k10 l10) (hw0 : w ≠ 0) (hS : S ≤ 100) : Rsq (go (m + 104) (346, [.val (.int v0), .val (.int v1), .val (.int v2), .val (.int v3), .val (.int v4), .val (.int v5), .val (.int w6), .val (.ref 9), .val (.int n), .val (.ref 25), l10, .unset, .unset], [], [.inl (2, [.ref 3]), .inl (2, [.ref 5]), .inr (.object "com/example/mithi/mithi/importer/EdgeWeighting$Scheme", [.ref 0, .ref 1]), .inl (0, [.ref 4, .int 0]), .inr (.byte, [.int 101, .int 113, .int 117, .int 97, .int 108]), .inl (0, [.ref 6, .int 0]), .inr (.byte, [.int 108, .int 111, .int 103, .int 45, .int 100, .int 101, .int 103, .int 114, .int 101, .int 101]), .inl (1, [.null]), opq, .inl (0, [.ref 10, .int 0]), .inr (.byte, [.int 101, .int 113, .int 117, .int 97, .int 108]), opq, opq, opq, opq, opq, opq, opq, opq, opq, opq, opq, opq, opq, opq, .inr (.char, xs.map Value.int)], 3, S)) OneI := by
  obtain ⟨bs, hbs, e9⟩ := F9_ex (w := w) (vF := vF) (s := 26) (d := 25) (H := [.inl (2, [.ref 3]), .inl (2, [.ref 5]), .inr (.object "com/example/mithi/mithi/importer/EdgeWeighting$Scheme", [.ref 0, .ref 1]), .inl (0, [.ref 4, .int 0]), .inr (.byte, [.int 101, .int 113, .int 117, .int 97, .int 108]), .inl (0, [.ref 6, .int 0]), .inr (.byte, [.int 108, .int 111, .int 103, .int 45, .int 100, .int 101, .int 103, .int 114, .int 101, .int 101]), .inl (1, [.null]), opq, .inl (0, [.ref 10, .int 0]), .inr (.byte, [.int 101, .int 113, .int 117, .int 97, .int 108]), opq, opq, opq, opq, opq, opq, opq, opq, opq, opq, opq, opq, opq, opq, .inr (.char, xs.map Value.int), .inl (0, [.null, .int 0])]) hw0 rfl (by decide) rfl (by decide) hg.1 hN h1 hg.2 hn
  simp only [List.cons_append, List.nil_append, List.set_cons_succ, List.set_cons_zero, List.length_cons, List.length_nil, Nat.reduceAdd, Nat.zero_add] at e9
  have hx : bs.length ≤ 11 := by omega
  refine headT hgo (H := [.inl (2, [.ref 3]), .inl (2, [.ref 5]), .inr (.object "com/example/mithi/mithi/importer/EdgeWeighting$Scheme", [.ref 0, .ref 1]), .inl (0, [.ref 4, .int 0]), .inr (.byte, [.int 101, .int 113, .int 117, .int 97, .int 108]), .inl (0, [.ref 6, .int 0]), .inr (.byte, [.int 108, .int 111, .int 103, .int 45, .int 100, .int 101, .int 103, .int 114, .int 101, .int 101]), .inl (1, [.null]), opq, .inl (0, [.ref 10, .int 0]), .inr (.byte, [.int 101, .int 113, .int 117, .int 97, .int 108]), opq, opq, opq, opq, opq, opq, opq, opq, opq, opq, opq, opq, opq, opq, .inr (.char, xs.map Value.int)]) (H2 := [.inl (2, [.ref 3]), .inl (2, [.ref 5]), .inr (.object "com/example/mithi/mithi/importer/EdgeWeighting$Scheme", [.ref 0, .ref 1]), .inl (0, [.ref 4, .int 0]), .inr (.byte, [.int 101, .int 113, .int 117, .int 97, .int 108]), .inl (0, [.ref 6, .int 0]), .inr (.byte, [.int 108, .int 111, .int 103, .int 45, .int 100, .int 101, .int 103, .int 114, .int 101, .int 101]), .inl (1, [.null]), opq, .inl (0, [.ref 10, .int 0]), .inr (.byte, [.int 101, .int 113, .int 117, .int 97, .int 108]), opq, opq, opq, opq, opq, opq, opq, opq, opq, opq, opq, opq, opq, opq, .inr (.char, xs.map Value.int), .inl (0, [.ref 27, .int 0]), .inr (.byte, bs.map Value.int)]) h10 rfl (by decide) hS e9 ?_
  exact midG hgo (v := 27) (xs := bs) (j := 11) (k := 13) h10.1 hw0 ⟨rfl, rfl, rfl, rfl, rfl, rfl, rfl, rfl, rfl, hx, rfl⟩ rfl rfl (by simp only [List.length_cons]; omega) (by simp only [List.length_cons]; omega) (by decide) (by decide) (by decide) (by decide) (by decide) (by simp only [fr3, List.length_cons, List.length_nil, Nat.reduceAdd, Nat.zero_add, List.all_cons, List.all_nil, okO, all_int, Bool.true_and, Bool.and_true]; rfl) (by simp only [fr3, List.length_cons, List.length_nil, Nat.reduceAdd, Nat.zero_add, List.all_cons, List.all_nil, okO, all_int, Bool.true_and, Bool.and_true]; rfl) (by omega)
set_option maxRecDepth 65536 in
set_option maxHeartbeats 4000000 in
theorem F10_E : (F10 w vF) [.ref 26, .ref 25, .int 0, .int 0, .null] [.inl (2, [.ref 3]), .inl (2, [.ref 5]), .inr (.object "com/example/mithi/mithi/importer/EdgeWeighting$Scheme", [.ref 0, .ref 1]), .inl (0, [.ref 4, .int 0]), .inr (.byte, [.int 101, .int 113, .int 117, .int 97, .int 108]), .inl (0, [.ref 6, .int 0]), .inr (.byte, [.int 108, .int 111, .int 103, .int 45, .int 100, .int 101, .int 103, .int 114, .int 101, .int 101]), .inl (1, [.null]), opq, .inl (0, [.ref 10, .int 0]), .inr (.byte, [.int 101, .int 113, .int 117, .int 97, .int 108]), opq, opq, opq, opq, opq, opq, opq, opq, opq, opq, opq, opq, opq, opq, .inr (.char, []), .inl (0, [.null, .int 0])] = some (none, [.inl (2, [.ref 3]), .inl (2, [.ref 5]), .inr (.object "com/example/mithi/mithi/importer/EdgeWeighting$Scheme", [.ref 0, .ref 1]), .inl (0, [.ref 4, .int 0]), .inr (.byte, [.int 101, .int 113, .int 117, .int 97, .int 108]), .inl (0, [.ref 6, .int 0]), .inr (.byte, [.int 108, .int 111, .int 103, .int 45, .int 100, .int 101, .int 103, .int 114, .int 101, .int 101]), .inl (1, [.null]), opq, .inl (0, [.ref 10, .int 0]), .inr (.byte, [.int 101, .int 113, .int 117, .int 97, .int 108]), opq, opq, opq, opq, opq, opq, opq, opq, opq, opq, .inl (0, [.ref 22, .int 0]), .inr (.byte, []), .inl (0, [.ref 24, .int 0]), .inr (.byte, []), .inr (.char, []), .inl (0, [.ref 22, .int 0])]) := by
  refine is_of f10_inn fun go hgo => ?_
  refine t10_0 hgo rfl ?_
  refine res_of (u10_1 hgo) ?_
  simp only [eq_self, and_self, true_and, and_true, not_true_eq_false, not_false_eq_true, if_true, if_false, reduceIte, Option.bind_some, List.getElem?_cons_zero, List.getElem?_cons_succ, Nat.reduceAdd, Nat.reduceSub, Nat.reduceLT, Nat.reduceLeDiff, Nat.le_refl, Nat.zero_add, Nat.add_zero, List.length_cons, List.length_nil, Int32.reduceLT, Int32.reduceToNatClampNeg, Int32.reduceAdd, Int32.reduceSub, Int32.reduceMul, decide_true, aCall, aRecv, aObj, obj, List.take_succ_cons, List.take_zero, List.drop_succ_cons, List.drop_zero, List.reverse_cons, List.reverse_nil, List.nil_append, List.cons_append, List.append_nil, List.map_cons, List.map_nil, List.sum_cons, List.sum_nil, cat_int, cat_long, cat_ref, cat_null, Option.toList_some, Option.toList_none, nr_B0, ft_B0]
  refine t10_4 hgo ?_
  refine t10_5t hgo (by decide) ?_
  refine t10_8 hgo rfl ?_
  refine res_of (u10_9 hgo) ?_
  refine res_t (by first | exact FR3 | (simp only [fr3, List.length_cons, List.length_nil, Nat.reduceAdd, Nat.zero_add, List.all_cons, List.all_nil, okO, all_int, Bool.true_and, Bool.and_true] <;> rfl) | rfl) ?_
  refine lit_ok (j := 21) (by first | assumption | rfl) ⟨by decide, by first | decide | omega, by first | assumption | (simp only [List.length_cons, List.length_nil]; decide)⟩ ?_
  simp only [List.set_cons_zero, List.set_cons_succ, Nat.add_assoc, Nat.reduceAdd]
  refine res_of (u10_11 hgo) ?_
  simp only [eq_self, and_self, true_and, and_true, not_true_eq_false, not_false_eq_true, if_true, if_false, reduceIte, Option.bind_some, List.getElem?_cons_zero, List.getElem?_cons_succ, Nat.reduceAdd, Nat.reduceSub, Nat.reduceLT, Nat.reduceLeDiff, Nat.le_refl, Nat.zero_add, Nat.add_zero, List.length_cons, List.length_nil, Int32.reduceLT, Int32.reduceToNatClampNeg, Int32.reduceAdd, Int32.reduceSub, Int32.reduceMul, decide_true, aGet, obj, nr_B0, ft_B0]
  refine res_of (u10_14 hgo) ?_
  simp only [eq_self, and_self, true_and, and_true, not_true_eq_false, not_false_eq_true, if_true, if_false, reduceIte, Option.bind_some, List.getElem?_cons_zero, List.getElem?_cons_succ, Nat.reduceAdd, Nat.reduceSub, Nat.reduceLT, Nat.reduceLeDiff, Nat.le_refl, Nat.zero_add, Nat.add_zero, List.length_cons, List.length_nil, Int32.reduceLT, Int32.reduceToNatClampNeg, Int32.reduceAdd, Int32.reduceSub, Int32.reduceMul, decide_true, aPut, obj, nr_i, nr_j, nr_a, nr_o, nr_b, nr_b1, nr_b0, ft_i, ft_j, ft_a, ft_o, ft_b, ft_b1, ft_b0, List.set_cons_zero, List.set_cons_succ, nr_B0, ft_B0]
  refine t10_17 hgo rfl ?_
  refine res_of (u10_18 hgo) ?_
  refine res_t (by first | exact FR3 | (simp only [fr3, List.length_cons, List.length_nil, Nat.reduceAdd, Nat.zero_add, List.all_cons, List.all_nil, okO, all_int, Bool.true_and, Bool.and_true] <;> rfl) | rfl) ?_
  refine lit_ok (j := 23) (by first | assumption | rfl) ⟨by decide, by first | decide | omega, by first | assumption | (simp only [List.length_cons, List.length_nil]; decide)⟩ ?_
  simp only [List.set_cons_zero, List.set_cons_succ, Nat.add_assoc, Nat.reduceAdd]
  refine res_of (u10_20 hgo) ?_
  simp only [eq_self, and_self, true_and, and_true, not_true_eq_false, not_false_eq_true, if_true, if_false, reduceIte, Option.bind_some, List.getElem?_cons_zero, List.getElem?_cons_succ, Nat.reduceAdd, Nat.reduceSub, Nat.reduceLT, Nat.reduceLeDiff, Nat.le_refl, Nat.zero_add, Nat.add_zero, List.length_cons, List.length_nil, Int32.reduceLT, Int32.reduceToNatClampNeg, Int32.reduceAdd, Int32.reduceSub, Int32.reduceMul, decide_true, aGet, obj, nr_B0, ft_B0]
  refine res_of (u10_23 hgo) ?_
  simp only [eq_self, and_self, true_and, and_true, not_true_eq_false, not_false_eq_true, if_true, if_false, reduceIte, Option.bind_some, List.getElem?_cons_zero, List.getElem?_cons_succ, Nat.reduceAdd, Nat.reduceSub, Nat.reduceLT, Nat.reduceLeDiff, Nat.le_refl, Nat.zero_add, Nat.add_zero, List.length_cons, List.length_nil, Int32.reduceLT, Int32.reduceToNatClampNeg, Int32.reduceAdd, Int32.reduceSub, Int32.reduceMul, decide_true, aPut, obj, nr_i, nr_j, nr_a, nr_o, nr_b, nr_b1, nr_b0, ft_i, ft_j, ft_a, ft_o, ft_b, ft_b1, ft_b0, List.set_cons_zero, List.set_cons_succ, nr_B0, ft_B0]
  refine t10_26 hgo ?_
  exact is_r
set_option maxRecDepth 65536 in
set_option maxHeartbeats 4000000 in
theorem F9_E : (F9 w vF) [.ref 26, .ref 25] [.inl (2, [.ref 3]), .inl (2, [.ref 5]), .inr (.object "com/example/mithi/mithi/importer/EdgeWeighting$Scheme", [.ref 0, .ref 1]), .inl (0, [.ref 4, .int 0]), .inr (.byte, [.int 101, .int 113, .int 117, .int 97, .int 108]), .inl (0, [.ref 6, .int 0]), .inr (.byte, [.int 108, .int 111, .int 103, .int 45, .int 100, .int 101, .int 103, .int 114, .int 101, .int 101]), .inl (1, [.null]), opq, .inl (0, [.ref 10, .int 0]), .inr (.byte, [.int 101, .int 113, .int 117, .int 97, .int 108]), opq, opq, opq, opq, opq, opq, opq, opq, opq, opq, opq, opq, opq, opq, .inr (.char, []), .inl (0, [.null, .int 0])] = some (none, [.inl (2, [.ref 3]), .inl (2, [.ref 5]), .inr (.object "com/example/mithi/mithi/importer/EdgeWeighting$Scheme", [.ref 0, .ref 1]), .inl (0, [.ref 4, .int 0]), .inr (.byte, [.int 101, .int 113, .int 117, .int 97, .int 108]), .inl (0, [.ref 6, .int 0]), .inr (.byte, [.int 108, .int 111, .int 103, .int 45, .int 100, .int 101, .int 103, .int 114, .int 101, .int 101]), .inl (1, [.null]), opq, .inl (0, [.ref 10, .int 0]), .inr (.byte, [.int 101, .int 113, .int 117, .int 97, .int 108]), opq, opq, opq, opq, opq, opq, opq, opq, opq, opq, .inl (0, [.ref 22, .int 0]), .inr (.byte, []), .inl (0, [.ref 24, .int 0]), .inr (.byte, []), .inr (.char, []), .inl (0, [.ref 22, .int 0])]) := by
  have e := F10_E (w := w) (vF := vF)
  refine is_of f9_in fun go hgo => ?_
  refine t9_0 hgo rfl ?_
  refine t9_1 hgo rfl ?_
  refine t9_2 hgo ?_
  refine t9_3 hgo rfl ?_
  refine res_of (u9_4 hgo) ?_
  simp only [eq_self, and_self, true_and, and_true, not_true_eq_false, not_false_eq_true, if_true, if_false, reduceIte, Option.bind_some, List.getElem?_cons_zero, List.getElem?_cons_succ, Nat.reduceAdd, Nat.reduceSub, Nat.reduceLT, Nat.reduceLeDiff, Nat.le_refl, Nat.zero_add, Nat.add_zero, List.length_cons, List.length_nil, Int32.reduceLT, Int32.reduceToNatClampNeg, Int32.reduceAdd, Int32.reduceSub, Int32.reduceMul, decide_true, pR_ref, arr, ln0, ln1, ln2, ln3, ln4, ln5, ln6, ln7, ln8, ln9, ln10, ln11, ln12, ln13, ln14, ln15, ln16, ln17, ln18, ln19, ln20, ln21, ln22, ln23, ln24, ln25, ln26, ln27, ln28, ln29, ln30, ln31, ln32, ln33, ln34, ln35, ln36, e]
  refine t9_5 hgo ?_
  refine res_of (u9_6 hgo) ?_
  refine res_t (by first | exact FR3 | (simp only [fr3, List.length_cons, List.length_nil, Nat.reduceAdd, Nat.zero_add, List.all_cons, List.all_nil, okO, all_int, Bool.true_and, Bool.and_true] <;> rfl) | rfl) ?_
  simp only [eq_self, and_self, true_and, and_true, not_true_eq_false, not_false_eq_true, if_true, if_false, reduceIte, Option.bind_some, List.getElem?_cons_zero, List.getElem?_cons_succ, Nat.reduceAdd, Nat.reduceSub, Nat.reduceLT, Nat.reduceLeDiff, Nat.le_refl, Nat.zero_add, Nat.add_zero, List.length_cons, List.length_nil, Int32.reduceLT, Int32.reduceToNatClampNeg, Int32.reduceAdd, Int32.reduceSub, Int32.reduceMul, decide_true, aCall, aRecv, aObj, obj, List.take_succ_cons, List.take_zero, List.drop_succ_cons, List.drop_zero, List.reverse_cons, List.reverse_nil, List.nil_append, List.cons_append, List.append_nil, List.map_cons, List.map_nil, List.sum_cons, List.sum_nil, cat_int, cat_long, cat_ref, cat_null, Option.toList_some, Option.toList_none, e]
  refine t9_9 hgo ?_
  exact is_r
set_option maxRecDepth 65536 in
set_option maxHeartbeats 4000000 in
theorem tail_E0 {go : GT} (hgo : go = R0 w vF) {v0 v1 v2 v3 v4 v5 w6 n : Int32} {m S : Nat} {l10 : Slot} (h10 : k10 l10) (hw0 : w ≠ 0) (hS : S ≤ 100) : Rsq (go (m + 104) (346, [.val (.int v0), .val (.int v1), .val (.int v2), .val (.int v3), .val (.int v4), .val (.int v5), .val (.int w6), .val (.ref 9), .val (.int n), .val (.ref 25), l10, .unset, .unset], [], [.inl (2, [.ref 3]), .inl (2, [.ref 5]), .inr (.object "com/example/mithi/mithi/importer/EdgeWeighting$Scheme", [.ref 0, .ref 1]), .inl (0, [.ref 4, .int 0]), .inr (.byte, [.int 101, .int 113, .int 117, .int 97, .int 108]), .inl (0, [.ref 6, .int 0]), .inr (.byte, [.int 108, .int 111, .int 103, .int 45, .int 100, .int 101, .int 103, .int 114, .int 101, .int 101]), .inl (1, [.null]), opq, .inl (0, [.ref 10, .int 0]), .inr (.byte, [.int 101, .int 113, .int 117, .int 97, .int 108]), opq, opq, opq, opq, opq, opq, opq, opq, opq, opq, opq, opq, opq, opq, .inr (.char, [])], 3, S)) OneI := by
  have e9 := F9_E (w := w) (vF := vF)
  have hx : ([] : List Int32).length ≤ 11 := by decide
  refine headT hgo (H := [.inl (2, [.ref 3]), .inl (2, [.ref 5]), .inr (.object "com/example/mithi/mithi/importer/EdgeWeighting$Scheme", [.ref 0, .ref 1]), .inl (0, [.ref 4, .int 0]), .inr (.byte, [.int 101, .int 113, .int 117, .int 97, .int 108]), .inl (0, [.ref 6, .int 0]), .inr (.byte, [.int 108, .int 111, .int 103, .int 45, .int 100, .int 101, .int 103, .int 114, .int 101, .int 101]), .inl (1, [.null]), opq, .inl (0, [.ref 10, .int 0]), .inr (.byte, [.int 101, .int 113, .int 117, .int 97, .int 108]), opq, opq, opq, opq, opq, opq, opq, opq, opq, opq, opq, opq, opq, opq, .inr (.char, [])]) (H2 := [.inl (2, [.ref 3]), .inl (2, [.ref 5]), .inr (.object "com/example/mithi/mithi/importer/EdgeWeighting$Scheme", [.ref 0, .ref 1]), .inl (0, [.ref 4, .int 0]), .inr (.byte, [.int 101, .int 113, .int 117, .int 97, .int 108]), .inl (0, [.ref 6, .int 0]), .inr (.byte, [.int 108, .int 111, .int 103, .int 45, .int 100, .int 101, .int 103, .int 114, .int 101, .int 101]), .inl (1, [.null]), opq, .inl (0, [.ref 10, .int 0]), .inr (.byte, [.int 101, .int 113, .int 117, .int 97, .int 108]), opq, opq, opq, opq, opq, opq, opq, opq, opq, opq, .inl (0, [.ref 22, .int 0]), .inr (.byte, []), .inl (0, [.ref 24, .int 0]), .inr (.byte, []), .inr (.char, []), .inl (0, [.ref 22, .int 0])]) h10 rfl (by decide) hS e9 ?_
  exact midG hgo (v := 22) (xs := []) (j := 11) (k := 13) h10.1 hw0 ⟨rfl, rfl, rfl, rfl, rfl, rfl, rfl, rfl, rfl, hx, rfl⟩ rfl rfl (by simp only [List.length_cons]; omega) (by simp only [List.length_cons]; omega) (by decide) (by decide) (by decide) (by decide) (by decide) (by simp only [fr3, List.length_cons, List.length_nil, Nat.reduceAdd, Nat.zero_add, List.all_cons, List.all_nil, okO, all_int, Bool.true_and, Bool.and_true]; rfl) (by simp only [fr3, List.length_cons, List.length_nil, Nat.reduceAdd, Nat.zero_add, List.all_cons, List.all_nil, okO, all_int, Bool.true_and, Bool.and_true]; rfl) (by omega)
set_option maxRecDepth 65536 in
set_option maxHeartbeats 4000000 in
theorem main_E {go : GT} (hgo : go = R0 w vF) {v0 v1 v2 v3 v4 v5 w6 n : Int32} {N m : Nat} (hw0 : w ≠ 0) (hvF : vF = .null ∨ vF = .ref 8) (hn : n.toInt = (N : Int)) (hN : N ≤ 11) : Rsq (go (m + 275) (63, [.val (.int v0), .val (.int v1), .val (.int v2), .val (.int v3), .val (.int v4), .val (.int v5), .val (.int w6), .val (.ref 9), .val (.int n), .unset, .unset, .unset, .unset], [], [.inl (2, [.ref 3]), .inl (2, [.ref 5]), .inr (.object "com/example/mithi/mithi/importer/EdgeWeighting$Scheme", [.ref 0, .ref 1]), .inl (0, [.ref 4, .int 0]), .inr (.byte, [.int 101, .int 113, .int 117, .int 97, .int 108]), .inl (0, [.ref 6, .int 0]), .inr (.byte, [.int 108, .int 111, .int 103, .int 45, .int 100, .int 101, .int 103, .int 114, .int 101, .int 101]), .inl (1, [.null]), opq, .inl (0, [.ref 10, .int 0]), .inr (.byte, [.int 101, .int 113, .int 117, .int 97, .int 108]), opq, opq, opq, opq, opq, opq, opq, opq, opq, opq, opq, opq, opq, opq], 2, 24)) OneI := by
  obtain ⟨n1, n2⟩ := i_idx hn
  have s1 : 24 + N ≤ 4288 := by omega
  have s2 : N ≤ 67108864 := by omega
  refine t0_63 hgo ?_
  refine res_of (u0_65 hgo) ?_
  simp only [eq_self, and_self, true_and, and_true, not_true_eq_false, not_false_eq_true, if_true, if_false, reduceIte, Option.bind_some, List.getElem?_cons_zero, List.getElem?_cons_succ, Nat.reduceAdd, Nat.reduceSub, Nat.reduceLT, Nat.reduceLeDiff, Nat.le_refl, Nat.zero_add, Nat.add_zero, List.length_cons, List.length_nil, Int32.reduceLT, Int32.reduceToNatClampNeg, Int32.reduceAdd, Int32.reduceSub, Int32.reduceMul, decide_true, aArr, List.nil_append, List.cons_append, List.replicate_zero, List.replicate_succ, defaultValue, n1, n2, s1, s2]
  refine t0_67 hgo rfl rfl ?_
  rw [rep_map]
  refine fill_all hgo (H := [.inl (2, [.ref 3]), .inl (2, [.ref 5]), .inr (.object "com/example/mithi/mithi/importer/EdgeWeighting$Scheme", [.ref 0, .ref 1]), .inl (0, [.ref 4, .int 0]), .inr (.byte, [.int 101, .int 113, .int 117, .int 97, .int 108]), .inl (0, [.ref 6, .int 0]), .inr (.byte, [.int 108, .int 111, .int 103, .int 45, .int 100, .int 101, .int 103, .int 114, .int 101, .int 101]), .inl (1, [.null]), opq, .inl (0, [.ref 10, .int 0]), .inr (.byte, [.int 101, .int 113, .int 117, .int 97, .int 108]), opq, opq, opq, opq, opq, opq, opq, opq, opq, opq, opq, opq, opq, opq, opq]) (o := opq) (b := 9) (bs := [101, 113, 117, 97, 108]) (S := 24 + N) (xs := List.replicate N 0) hw0 hvF rfl (by decide) rfl (by decide) rfl hn s1 ⟨rfl, fun _ _ => rfl⟩ ⟨by simp, fun c hc => by rw [List.eq_of_mem_replicate hc]; exact ⟨by decide, by decide⟩⟩ fun xs' l10' hg h10 m' => ?_
  simp only [List.set_cons_succ, List.set_cons_zero]
  rcases Nat.eq_zero_or_pos N with z | z
  · obtain rfl : xs' = [] := List.eq_nil_of_length_eq_zero (by rw [hg.1, z])
    exact tail_E0 (m := m' + 16) hgo h10 hw0 (by omega)
  · exact tail_E1 (m := m' + 16) hgo hn hg hN z h10 hw0 (by omega)
set_option maxRecDepth 65536 in
set_option maxHeartbeats 4000000 in
theorem tail_L1 {go : GT} (hgo : go = R0 w vF) {v0 v1 v2 v3 v4 v5 w6 n : Int32} {m S : Nat} {l10 : Slot} {N : Nat} {xs : List Int32} (hn : n.toInt = (N : Int)) (hg : good xs N) (hN : N ≤ 11) (h1 : 1 ≤ N) (h10 : k10 l10) (hw0 : w ≠ 0) (hS : S ≤ 100) : Rsq (go (m + 104) (346, [.val (.int v0), .val (.int v1), .val (.int v2), .val (.int v3), .val (.int v4), .val (.int v5), .val (.int w6), .val (.ref 13), .val (.int n), .val (.ref 25), l10, .unset, .unset], [], [.inl (2, [.ref 3]), .inl (2, [.ref 5]), .inr (.object "com/example/mithi/mithi/importer/EdgeWeighting$Scheme", [.ref 0, .ref 1]), .inl (0, [.ref 4, .int 0]), .inr (.byte, [.int 101, .int 113, .int 117, .int 97, .int 108]), .inl (0, [.ref 6, .int 0]), .inr (.byte, [.int 108, .int 111, .int 103, .int 45, .int 100, .int 101, .int 103, .int 114, .int 101, .int 101]), .inl (1, [.null]), opq, opq, opq, opq, opq, .inl (0, [.ref 14, .int 0]), .inr (.byte, [.int 108, .int 111, .int 103, .int 45, .int 100, .int 101, .int 103, .int 114, .int 101, .int 101]), opq, opq, opq, opq, opq, opq, opq, opq, opq, opq, .inr (.char, xs.map Value.int)], 3, S)) OneI := by
  obtain ⟨bs, hbs, e9⟩ := F9_ex (w := w) (vF := vF) (s := 26) (d := 25) (H := [.inl (2, [.ref 3]), .inl (2, [.ref 5]), .inr (.object "com/example/mithi/mithi/importer/EdgeWeighting$Scheme", [.ref 0, .ref 1]), .inl (0, [.ref 4, .int 0]), .inr (.byte, [.int 101, .int 113, .int 117, .int 97, .int 108]), .inl (0, [.ref 6, .int 0]), .inr (.byte, [.int 108, .int 111, .int 103, .int 45, .int 100, .int 101, .int 103, .int 114, .int 101, .int 101]), .inl (1, [.null]), opq, opq, opq, opq, opq, .inl (0, [.ref 14, .int 0]), .inr (.byte, [.int 108, .int 111, .int 103, .int 45, .int 100, .int 101, .int 103, .int 114, .int 101, .int 101]), opq, opq, opq, opq, opq, opq, opq, opq, opq, opq, .inr (.char, xs.map Value.int), .inl (0, [.null, .int 0])]) hw0 rfl (by decide) rfl (by decide) hg.1 hN h1 hg.2 hn
  simp only [List.cons_append, List.nil_append, List.set_cons_succ, List.set_cons_zero, List.length_cons, List.length_nil, Nat.reduceAdd, Nat.zero_add] at e9
  have hx : bs.length ≤ 11 := by omega
  refine headT hgo (H := [.inl (2, [.ref 3]), .inl (2, [.ref 5]), .inr (.object "com/example/mithi/mithi/importer/EdgeWeighting$Scheme", [.ref 0, .ref 1]), .inl (0, [.ref 4, .int 0]), .inr (.byte, [.int 101, .int 113, .int 117, .int 97, .int 108]), .inl (0, [.ref 6, .int 0]), .inr (.byte, [.int 108, .int 111, .int 103, .int 45, .int 100, .int 101, .int 103, .int 114, .int 101, .int 101]), .inl (1, [.null]), opq, opq, opq, opq, opq, .inl (0, [.ref 14, .int 0]), .inr (.byte, [.int 108, .int 111, .int 103, .int 45, .int 100, .int 101, .int 103, .int 114, .int 101, .int 101]), opq, opq, opq, opq, opq, opq, opq, opq, opq, opq, .inr (.char, xs.map Value.int)]) (H2 := [.inl (2, [.ref 3]), .inl (2, [.ref 5]), .inr (.object "com/example/mithi/mithi/importer/EdgeWeighting$Scheme", [.ref 0, .ref 1]), .inl (0, [.ref 4, .int 0]), .inr (.byte, [.int 101, .int 113, .int 117, .int 97, .int 108]), .inl (0, [.ref 6, .int 0]), .inr (.byte, [.int 108, .int 111, .int 103, .int 45, .int 100, .int 101, .int 103, .int 114, .int 101, .int 101]), .inl (1, [.null]), opq, opq, opq, opq, opq, .inl (0, [.ref 14, .int 0]), .inr (.byte, [.int 108, .int 111, .int 103, .int 45, .int 100, .int 101, .int 103, .int 114, .int 101, .int 101]), opq, opq, opq, opq, opq, opq, opq, opq, opq, opq, .inr (.char, xs.map Value.int), .inl (0, [.ref 27, .int 0]), .inr (.byte, bs.map Value.int)]) h10 rfl (by decide) hS e9 ?_
  exact midG hgo (v := 27) (xs := bs) (j := 9) (k := 15) h10.1 hw0 ⟨rfl, rfl, rfl, rfl, rfl, rfl, rfl, rfl, rfl, hx, rfl⟩ rfl rfl (by simp only [List.length_cons]; omega) (by simp only [List.length_cons]; omega) (by decide) (by decide) (by decide) (by decide) (by decide) (by simp only [fr3, List.length_cons, List.length_nil, Nat.reduceAdd, Nat.zero_add, List.all_cons, List.all_nil, okO, all_int, Bool.true_and, Bool.and_true]; rfl) (by simp only [fr3, List.length_cons, List.length_nil, Nat.reduceAdd, Nat.zero_add, List.all_cons, List.all_nil, okO, all_int, Bool.true_and, Bool.and_true]; rfl) (by omega)
set_option maxRecDepth 65536 in
set_option maxHeartbeats 4000000 in
theorem F10_L : (F10 w vF) [.ref 26, .ref 25, .int 0, .int 0, .null] [.inl (2, [.ref 3]), .inl (2, [.ref 5]), .inr (.object "com/example/mithi/mithi/importer/EdgeWeighting$Scheme", [.ref 0, .ref 1]), .inl (0, [.ref 4, .int 0]), .inr (.byte, [.int 101, .int 113, .int 117, .int 97, .int 108]), .inl (0, [.ref 6, .int 0]), .inr (.byte, [.int 108, .int 111, .int 103, .int 45, .int 100, .int 101, .int 103, .int 114, .int 101, .int 101]), .inl (1, [.null]), opq, opq, opq, opq, opq, .inl (0, [.ref 14, .int 0]), .inr (.byte, [.int 108, .int 111, .int 103, .int 45, .int 100, .int 101, .int 103, .int 114, .int 101, .int 101]), opq, opq, opq, opq, opq, opq, opq, opq, opq, opq, .inr (.char, []), .inl (0, [.null, .int 0])] = some (none, [.inl (2, [.ref 3]), .inl (2, [.ref 5]), .inr (.object "com/example/mithi/mithi/importer/EdgeWeighting$Scheme", [.ref 0, .ref 1]), .inl (0, [.ref 4, .int 0]), .inr (.byte, [.int 101, .int 113, .int 117, .int 97, .int 108]), .inl (0, [.ref 6, .int 0]), .inr (.byte, [.int 108, .int 111, .int 103, .int 45, .int 100, .int 101, .int 103, .int 114, .int 101, .int 101]), .inl (1, [.null]), opq, opq, opq, opq, opq, .inl (0, [.ref 14, .int 0]), .inr (.byte, [.int 108, .int 111, .int 103, .int 45, .int 100, .int 101, .int 103, .int 114, .int 101, .int 101]), opq, opq, opq, opq, opq, opq, .inl (0, [.ref 22, .int 0]), .inr (.byte, []), .inl (0, [.ref 24, .int 0]), .inr (.byte, []), .inr (.char, []), .inl (0, [.ref 22, .int 0])]) := by
  refine is_of f10_inn fun go hgo => ?_
  refine t10_0 hgo rfl ?_
  refine res_of (u10_1 hgo) ?_
  simp only [eq_self, and_self, true_and, and_true, not_true_eq_false, not_false_eq_true, if_true, if_false, reduceIte, Option.bind_some, List.getElem?_cons_zero, List.getElem?_cons_succ, Nat.reduceAdd, Nat.reduceSub, Nat.reduceLT, Nat.reduceLeDiff, Nat.le_refl, Nat.zero_add, Nat.add_zero, List.length_cons, List.length_nil, Int32.reduceLT, Int32.reduceToNatClampNeg, Int32.reduceAdd, Int32.reduceSub, Int32.reduceMul, decide_true, aCall, aRecv, aObj, obj, List.take_succ_cons, List.take_zero, List.drop_succ_cons, List.drop_zero, List.reverse_cons, List.reverse_nil, List.nil_append, List.cons_append, List.append_nil, List.map_cons, List.map_nil, List.sum_cons, List.sum_nil, cat_int, cat_long, cat_ref, cat_null, Option.toList_some, Option.toList_none, nr_B0, ft_B0]
  refine t10_4 hgo ?_
  refine t10_5t hgo (by decide) ?_
  refine t10_8 hgo rfl ?_
  refine res_of (u10_9 hgo) ?_
  refine res_t (by first | exact FR3 | (simp only [fr3, List.length_cons, List.length_nil, Nat.reduceAdd, Nat.zero_add, List.all_cons, List.all_nil, okO, all_int, Bool.true_and, Bool.and_true] <;> rfl) | rfl) ?_
  refine lit_ok (j := 21) (by first | assumption | rfl) ⟨by decide, by first | decide | omega, by first | assumption | (simp only [List.length_cons, List.length_nil]; decide)⟩ ?_
  simp only [List.set_cons_zero, List.set_cons_succ, Nat.add_assoc, Nat.reduceAdd]
  refine res_of (u10_11 hgo) ?_
  simp only [eq_self, and_self, true_and, and_true, not_true_eq_false, not_false_eq_true, if_true, if_false, reduceIte, Option.bind_some, List.getElem?_cons_zero, List.getElem?_cons_succ, Nat.reduceAdd, Nat.reduceSub, Nat.reduceLT, Nat.reduceLeDiff, Nat.le_refl, Nat.zero_add, Nat.add_zero, List.length_cons, List.length_nil, Int32.reduceLT, Int32.reduceToNatClampNeg, Int32.reduceAdd, Int32.reduceSub, Int32.reduceMul, decide_true, aGet, obj, nr_B0, ft_B0]
  refine res_of (u10_14 hgo) ?_
  simp only [eq_self, and_self, true_and, and_true, not_true_eq_false, not_false_eq_true, if_true, if_false, reduceIte, Option.bind_some, List.getElem?_cons_zero, List.getElem?_cons_succ, Nat.reduceAdd, Nat.reduceSub, Nat.reduceLT, Nat.reduceLeDiff, Nat.le_refl, Nat.zero_add, Nat.add_zero, List.length_cons, List.length_nil, Int32.reduceLT, Int32.reduceToNatClampNeg, Int32.reduceAdd, Int32.reduceSub, Int32.reduceMul, decide_true, aPut, obj, nr_i, nr_j, nr_a, nr_o, nr_b, nr_b1, nr_b0, ft_i, ft_j, ft_a, ft_o, ft_b, ft_b1, ft_b0, List.set_cons_zero, List.set_cons_succ, nr_B0, ft_B0]
  refine t10_17 hgo rfl ?_
  refine res_of (u10_18 hgo) ?_
  refine res_t (by first | exact FR3 | (simp only [fr3, List.length_cons, List.length_nil, Nat.reduceAdd, Nat.zero_add, List.all_cons, List.all_nil, okO, all_int, Bool.true_and, Bool.and_true] <;> rfl) | rfl) ?_
  refine lit_ok (j := 23) (by first | assumption | rfl) ⟨by decide, by first | decide | omega, by first | assumption | (simp only [List.length_cons, List.length_nil]; decide)⟩ ?_
  simp only [List.set_cons_zero, List.set_cons_succ, Nat.add_assoc, Nat.reduceAdd]
  refine res_of (u10_20 hgo) ?_
  simp only [eq_self, and_self, true_and, and_true, not_true_eq_false, not_false_eq_true, if_true, if_false, reduceIte, Option.bind_some, List.getElem?_cons_zero, List.getElem?_cons_succ, Nat.reduceAdd, Nat.reduceSub, Nat.reduceLT, Nat.reduceLeDiff, Nat.le_refl, Nat.zero_add, Nat.add_zero, List.length_cons, List.length_nil, Int32.reduceLT, Int32.reduceToNatClampNeg, Int32.reduceAdd, Int32.reduceSub, Int32.reduceMul, decide_true, aGet, obj, nr_B0, ft_B0]
  refine res_of (u10_23 hgo) ?_
  simp only [eq_self, and_self, true_and, and_true, not_true_eq_false, not_false_eq_true, if_true, if_false, reduceIte, Option.bind_some, List.getElem?_cons_zero, List.getElem?_cons_succ, Nat.reduceAdd, Nat.reduceSub, Nat.reduceLT, Nat.reduceLeDiff, Nat.le_refl, Nat.zero_add, Nat.add_zero, List.length_cons, List.length_nil, Int32.reduceLT, Int32.reduceToNatClampNeg, Int32.reduceAdd, Int32.reduceSub, Int32.reduceMul, decide_true, aPut, obj, nr_i, nr_j, nr_a, nr_o, nr_b, nr_b1, nr_b0, ft_i, ft_j, ft_a, ft_o, ft_b, ft_b1, ft_b0, List.set_cons_zero, List.set_cons_succ, nr_B0, ft_B0]
  refine t10_26 hgo ?_
  exact is_r
set_option maxRecDepth 65536 in
set_option maxHeartbeats 4000000 in
theorem F9_L : (F9 w vF) [.ref 26, .ref 25] [.inl (2, [.ref 3]), .inl (2, [.ref 5]), .inr (.object "com/example/mithi/mithi/importer/EdgeWeighting$Scheme", [.ref 0, .ref 1]), .inl (0, [.ref 4, .int 0]), .inr (.byte, [.int 101, .int 113, .int 117, .int 97, .int 108]), .inl (0, [.ref 6, .int 0]), .inr (.byte, [.int 108, .int 111, .int 103, .int 45, .int 100, .int 101, .int 103, .int 114, .int 101, .int 101]), .inl (1, [.null]), opq, opq, opq, opq, opq, .inl (0, [.ref 14, .int 0]), .inr (.byte, [.int 108, .int 111, .int 103, .int 45, .int 100, .int 101, .int 103, .int 114, .int 101, .int 101]), opq, opq, opq, opq, opq, opq, opq, opq, opq, opq, .inr (.char, []), .inl (0, [.null, .int 0])] = some (none, [.inl (2, [.ref 3]), .inl (2, [.ref 5]), .inr (.object "com/example/mithi/mithi/importer/EdgeWeighting$Scheme", [.ref 0, .ref 1]), .inl (0, [.ref 4, .int 0]), .inr (.byte, [.int 101, .int 113, .int 117, .int 97, .int 108]), .inl (0, [.ref 6, .int 0]), .inr (.byte, [.int 108, .int 111, .int 103, .int 45, .int 100, .int 101, .int 103, .int 114, .int 101, .int 101]), .inl (1, [.null]), opq, opq, opq, opq, opq, .inl (0, [.ref 14, .int 0]), .inr (.byte, [.int 108, .int 111, .int 103, .int 45, .int 100, .int 101, .int 103, .int 114, .int 101, .int 101]), opq, opq, opq, opq, opq, opq, .inl (0, [.ref 22, .int 0]), .inr (.byte, []), .inl (0, [.ref 24, .int 0]), .inr (.byte, []), .inr (.char, []), .inl (0, [.ref 22, .int 0])]) := by
  have e := F10_L (w := w) (vF := vF)
  refine is_of f9_in fun go hgo => ?_
  refine t9_0 hgo rfl ?_
  refine t9_1 hgo rfl ?_
  refine t9_2 hgo ?_
  refine t9_3 hgo rfl ?_
  refine res_of (u9_4 hgo) ?_
  simp only [eq_self, and_self, true_and, and_true, not_true_eq_false, not_false_eq_true, if_true, if_false, reduceIte, Option.bind_some, List.getElem?_cons_zero, List.getElem?_cons_succ, Nat.reduceAdd, Nat.reduceSub, Nat.reduceLT, Nat.reduceLeDiff, Nat.le_refl, Nat.zero_add, Nat.add_zero, List.length_cons, List.length_nil, Int32.reduceLT, Int32.reduceToNatClampNeg, Int32.reduceAdd, Int32.reduceSub, Int32.reduceMul, decide_true, pR_ref, arr, ln0, ln1, ln2, ln3, ln4, ln5, ln6, ln7, ln8, ln9, ln10, ln11, ln12, ln13, ln14, ln15, ln16, ln17, ln18, ln19, ln20, ln21, ln22, ln23, ln24, ln25, ln26, ln27, ln28, ln29, ln30, ln31, ln32, ln33, ln34, ln35, ln36, e]
  refine t9_5 hgo ?_
  refine res_of (u9_6 hgo) ?_
  refine res_t (by first | exact FR3 | (simp only [fr3, List.length_cons, List.length_nil, Nat.reduceAdd, Nat.zero_add, List.all_cons, List.all_nil, okO, all_int, Bool.true_and, Bool.and_true] <;> rfl) | rfl) ?_
  simp only [eq_self, and_self, true_and, and_true, not_true_eq_false, not_false_eq_true, if_true, if_false, reduceIte, Option.bind_some, List.getElem?_cons_zero, List.getElem?_cons_succ, Nat.reduceAdd, Nat.reduceSub, Nat.reduceLT, Nat.reduceLeDiff, Nat.le_refl, Nat.zero_add, Nat.add_zero, List.length_cons, List.length_nil, Int32.reduceLT, Int32.reduceToNatClampNeg, Int32.reduceAdd, Int32.reduceSub, Int32.reduceMul, decide_true, aCall, aRecv, aObj, obj, List.take_succ_cons, List.take_zero, List.drop_succ_cons, List.drop_zero, List.reverse_cons, List.reverse_nil, List.nil_append, List.cons_append, List.append_nil, List.map_cons, List.map_nil, List.sum_cons, List.sum_nil, cat_int, cat_long, cat_ref, cat_null, Option.toList_some, Option.toList_none, e]
  refine t9_9 hgo ?_
  exact is_r
set_option maxRecDepth 65536 in
set_option maxHeartbeats 4000000 in
theorem tail_L0 {go : GT} (hgo : go = R0 w vF) {v0 v1 v2 v3 v4 v5 w6 n : Int32} {m S : Nat} {l10 : Slot} (h10 : k10 l10) (hw0 : w ≠ 0) (hS : S ≤ 100) : Rsq (go (m + 104) (346, [.val (.int v0), .val (.int v1), .val (.int v2), .val (.int v3), .val (.int v4), .val (.int v5), .val (.int w6), .val (.ref 13), .val (.int n), .val (.ref 25), l10, .unset, .unset], [], [.inl (2, [.ref 3]), .inl (2, [.ref 5]), .inr (.object "com/example/mithi/mithi/importer/EdgeWeighting$Scheme", [.ref 0, .ref 1]), .inl (0, [.ref 4, .int 0]), .inr (.byte, [.int 101, .int 113, .int 117, .int 97, .int 108]), .inl (0, [.ref 6, .int 0]), .inr (.byte, [.int 108, .int 111, .int 103, .int 45, .int 100, .int 101, .int 103, .int 114, .int 101, .int 101]), .inl (1, [.null]), opq, opq, opq, opq, opq, .inl (0, [.ref 14, .int 0]), .inr (.byte, [.int 108, .int 111, .int 103, .int 45, .int 100, .int 101, .int 103, .int 114, .int 101, .int 101]), opq, opq, opq, opq, opq, opq, opq, opq, opq, opq, .inr (.char, [])], 3, S)) OneI := by
  have e9 := F9_L (w := w) (vF := vF)
  have hx : ([] : List Int32).length ≤ 11 := by decide
  refine headT hgo (H := [.inl (2, [.ref 3]), .inl (2, [.ref 5]), .inr (.object "com/example/mithi/mithi/importer/EdgeWeighting$Scheme", [.ref 0, .ref 1]), .inl (0, [.ref 4, .int 0]), .inr (.byte, [.int 101, .int 113, .int 117, .int 97, .int 108]), .inl (0, [.ref 6, .int 0]), .inr (.byte, [.int 108, .int 111, .int 103, .int 45, .int 100, .int 101, .int 103, .int 114, .int 101, .int 101]), .inl (1, [.null]), opq, opq, opq, opq, opq, .inl (0, [.ref 14, .int 0]), .inr (.byte, [.int 108, .int 111, .int 103, .int 45, .int 100, .int 101, .int 103, .int 114, .int 101, .int 101]), opq, opq, opq, opq, opq, opq, opq, opq, opq, opq, .inr (.char, [])]) (H2 := [.inl (2, [.ref 3]), .inl (2, [.ref 5]), .inr (.object "com/example/mithi/mithi/importer/EdgeWeighting$Scheme", [.ref 0, .ref 1]), .inl (0, [.ref 4, .int 0]), .inr (.byte, [.int 101, .int 113, .int 117, .int 97, .int 108]), .inl (0, [.ref 6, .int 0]), .inr (.byte, [.int 108, .int 111, .int 103, .int 45, .int 100, .int 101, .int 103, .int 114, .int 101, .int 101]), .inl (1, [.null]), opq, opq, opq, opq, opq, .inl (0, [.ref 14, .int 0]), .inr (.byte, [.int 108, .int 111, .int 103, .int 45, .int 100, .int 101, .int 103, .int 114, .int 101, .int 101]), opq, opq, opq, opq, opq, opq, .inl (0, [.ref 22, .int 0]), .inr (.byte, []), .inl (0, [.ref 24, .int 0]), .inr (.byte, []), .inr (.char, []), .inl (0, [.ref 22, .int 0])]) h10 rfl (by decide) hS e9 ?_
  exact midG hgo (v := 22) (xs := []) (j := 9) (k := 15) h10.1 hw0 ⟨rfl, rfl, rfl, rfl, rfl, rfl, rfl, rfl, rfl, hx, rfl⟩ rfl rfl (by simp only [List.length_cons]; omega) (by simp only [List.length_cons]; omega) (by decide) (by decide) (by decide) (by decide) (by decide) (by simp only [fr3, List.length_cons, List.length_nil, Nat.reduceAdd, Nat.zero_add, List.all_cons, List.all_nil, okO, all_int, Bool.true_and, Bool.and_true]; rfl) (by simp only [fr3, List.length_cons, List.length_nil, Nat.reduceAdd, Nat.zero_add, List.all_cons, List.all_nil, okO, all_int, Bool.true_and, Bool.and_true]; rfl) (by omega)
set_option maxRecDepth 65536 in
set_option maxHeartbeats 4000000 in
theorem main_L {go : GT} (hgo : go = R0 w vF) {v0 v1 v2 v3 v4 v5 w6 n : Int32} {N m : Nat} (hw0 : w ≠ 0) (hvF : vF = .null ∨ vF = .ref 8) (hn : n.toInt = (N : Int)) (hN : N ≤ 11) : Rsq (go (m + 275) (63, [.val (.int v0), .val (.int v1), .val (.int v2), .val (.int v3), .val (.int v4), .val (.int v5), .val (.int w6), .val (.ref 13), .val (.int n), .unset, .unset, .unset, .unset], [], [.inl (2, [.ref 3]), .inl (2, [.ref 5]), .inr (.object "com/example/mithi/mithi/importer/EdgeWeighting$Scheme", [.ref 0, .ref 1]), .inl (0, [.ref 4, .int 0]), .inr (.byte, [.int 101, .int 113, .int 117, .int 97, .int 108]), .inl (0, [.ref 6, .int 0]), .inr (.byte, [.int 108, .int 111, .int 103, .int 45, .int 100, .int 101, .int 103, .int 114, .int 101, .int 101]), .inl (1, [.null]), opq, opq, opq, opq, opq, .inl (0, [.ref 14, .int 0]), .inr (.byte, [.int 108, .int 111, .int 103, .int 45, .int 100, .int 101, .int 103, .int 114, .int 101, .int 101]), opq, opq, opq, opq, opq, opq, opq, opq, opq, opq], 2, 44)) OneI := by
  obtain ⟨n1, n2⟩ := i_idx hn
  have s1 : 44 + N ≤ 4288 := by omega
  have s2 : N ≤ 67108864 := by omega
  refine t0_63 hgo ?_
  refine res_of (u0_65 hgo) ?_
  simp only [eq_self, and_self, true_and, and_true, not_true_eq_false, not_false_eq_true, if_true, if_false, reduceIte, Option.bind_some, List.getElem?_cons_zero, List.getElem?_cons_succ, Nat.reduceAdd, Nat.reduceSub, Nat.reduceLT, Nat.reduceLeDiff, Nat.le_refl, Nat.zero_add, Nat.add_zero, List.length_cons, List.length_nil, Int32.reduceLT, Int32.reduceToNatClampNeg, Int32.reduceAdd, Int32.reduceSub, Int32.reduceMul, decide_true, aArr, List.nil_append, List.cons_append, List.replicate_zero, List.replicate_succ, defaultValue, n1, n2, s1, s2]
  refine t0_67 hgo rfl rfl ?_
  rw [rep_map]
  refine fill_all hgo (H := [.inl (2, [.ref 3]), .inl (2, [.ref 5]), .inr (.object "com/example/mithi/mithi/importer/EdgeWeighting$Scheme", [.ref 0, .ref 1]), .inl (0, [.ref 4, .int 0]), .inr (.byte, [.int 101, .int 113, .int 117, .int 97, .int 108]), .inl (0, [.ref 6, .int 0]), .inr (.byte, [.int 108, .int 111, .int 103, .int 45, .int 100, .int 101, .int 103, .int 114, .int 101, .int 101]), .inl (1, [.null]), opq, opq, opq, opq, opq, .inl (0, [.ref 14, .int 0]), .inr (.byte, [.int 108, .int 111, .int 103, .int 45, .int 100, .int 101, .int 103, .int 114, .int 101, .int 101]), opq, opq, opq, opq, opq, opq, opq, opq, opq, opq, opq]) (o := opq) (b := 13) (bs := [108, 111, 103, 45, 100, 101, 103, 114, 101, 101]) (S := 44 + N) (xs := List.replicate N 0) hw0 hvF rfl (by decide) rfl (by decide) rfl hn s1 ⟨rfl, fun _ _ => rfl⟩ ⟨by simp, fun c hc => by rw [List.eq_of_mem_replicate hc]; exact ⟨by decide, by decide⟩⟩ fun xs' l10' hg h10 m' => ?_
  simp only [List.set_cons_succ, List.set_cons_zero]
  rcases Nat.eq_zero_or_pos N with z | z
  · obtain rfl : xs' = [] := List.eq_nil_of_length_eq_zero (by rw [hg.1, z])
    exact tail_L0 (m := m' + 16) hgo h10 hw0 (by omega)
  · exact tail_L1 (m := m' + 16) hgo hn hg hN z h10 hw0 (by omega)
set_option maxRecDepth 65536 in
set_option maxHeartbeats 4000000 in
theorem tail_Z1 {go : GT} (hgo : go = R0 w vF) {v0 v1 v2 v3 v4 v5 w6 n : Int32} {m S : Nat} {l10 : Slot} {N : Nat} {xs : List Int32} (hn : n.toInt = (N : Int)) (hg : good xs N) (hN : N ≤ 11) (h1 : 1 ≤ N) (h10 : k10 l10) (hw0 : w ≠ 0) (hS : S ≤ 100) : Rsq (go (m + 104) (346, [.val (.int v0), .val (.int v1), .val (.int v2), .val (.int v3), .val (.int v4), .val (.int v5), .val (.int w6), .val (.ref 17), .val (.int n), .val (.ref 25), l10, .unset, .unset], [], [.inl (2, [.ref 3]), .inl (2, [.ref 5]), .inr (.object "com/example/mithi/mithi/importer/EdgeWeighting$Scheme", [.ref 0, .ref 1]), .inl (0, [.ref 4, .int 0]), .inr (.byte, [.int 101, .int 113, .int 117, .int 97, .int 108]), .inl (0, [.ref 6, .int 0]), .inr (.byte, [.int 108, .int 111, .int 103, .int 45, .int 100, .int 101, .int 103, .int 114, .int 101, .int 101]), .inl (1, [.null]), opq, opq, opq, opq, opq, opq, opq, opq, opq, .inl (0, [.ref 18, .int 0]), .inr (.byte, []), opq, opq, opq, opq, opq, opq, .inr (.char, xs.map Value.int)], 3, S)) OneI := by
  obtain ⟨bs, hbs, e9⟩ := F9_ex (w := w) (vF := vF) (s := 26) (d := 25) (H := [.inl (2, [.ref 3]), .inl (2, [.ref 5]), .inr (.object "com/example/mithi/mithi/importer/EdgeWeighting$Scheme", [.ref 0, .ref 1]), .inl (0, [.ref 4, .int 0]), .inr (.byte, [.int 101, .int 113, .int 117, .int 97, .int 108]), .inl (0, [.ref 6, .int 0]), .inr (.byte, [.int 108, .int 111, .int 103, .int 45, .int 100, .int 101, .int 103, .int 114, .int 101, .int 101]), .inl (1, [.null]), opq, opq, opq, opq, opq, opq, opq, opq, opq, .inl (0, [.ref 18, .int 0]), .inr (.byte, []), opq, opq, opq, opq, opq, opq, .inr (.char, xs.map Value.int), .inl (0, [.null, .int 0])]) hw0 rfl (by decide) rfl (by decide) hg.1 hN h1 hg.2 hn
  simp only [List.cons_append, List.nil_append, List.set_cons_succ, List.set_cons_zero, List.length_cons, List.length_nil, Nat.reduceAdd, Nat.zero_add] at e9
  have hx : bs.length ≤ 11 := by omega
  refine headT hgo (H := [.inl (2, [.ref 3]), .inl (2, [.ref 5]), .inr (.object "com/example/mithi/mithi/importer/EdgeWeighting$Scheme", [.ref 0, .ref 1]), .inl (0, [.ref 4, .int 0]), .inr (.byte, [.int 101, .int 113, .int 117, .int 97, .int 108]), .inl (0, [.ref 6, .int 0]), .inr (.byte, [.int 108, .int 111, .int 103, .int 45, .int 100, .int 101, .int 103, .int 114, .int 101, .int 101]), .inl (1, [.null]), opq, opq, opq, opq, opq, opq, opq, opq, opq, .inl (0, [.ref 18, .int 0]), .inr (.byte, []), opq, opq, opq, opq, opq, opq, .inr (.char, xs.map Value.int)]) (H2 := [.inl (2, [.ref 3]), .inl (2, [.ref 5]), .inr (.object "com/example/mithi/mithi/importer/EdgeWeighting$Scheme", [.ref 0, .ref 1]), .inl (0, [.ref 4, .int 0]), .inr (.byte, [.int 101, .int 113, .int 117, .int 97, .int 108]), .inl (0, [.ref 6, .int 0]), .inr (.byte, [.int 108, .int 111, .int 103, .int 45, .int 100, .int 101, .int 103, .int 114, .int 101, .int 101]), .inl (1, [.null]), opq, opq, opq, opq, opq, opq, opq, opq, opq, .inl (0, [.ref 18, .int 0]), .inr (.byte, []), opq, opq, opq, opq, opq, opq, .inr (.char, xs.map Value.int), .inl (0, [.ref 27, .int 0]), .inr (.byte, bs.map Value.int)]) h10 rfl (by decide) hS e9 ?_
  exact midG hgo (v := 27) (xs := bs) (j := 9) (k := 13) h10.1 hw0 ⟨rfl, rfl, rfl, rfl, rfl, rfl, rfl, rfl, rfl, hx, rfl⟩ rfl rfl (by simp only [List.length_cons]; omega) (by simp only [List.length_cons]; omega) (by decide) (by decide) (by decide) (by decide) (by decide) (by simp only [fr3, List.length_cons, List.length_nil, Nat.reduceAdd, Nat.zero_add, List.all_cons, List.all_nil, okO, all_int, Bool.true_and, Bool.and_true]; rfl) (by simp only [fr3, List.length_cons, List.length_nil, Nat.reduceAdd, Nat.zero_add, List.all_cons, List.all_nil, okO, all_int, Bool.true_and, Bool.and_true]; rfl) (by omega)
set_option maxRecDepth 65536 in
set_option maxHeartbeats 4000000 in
theorem F10_Z : (F10 w vF) [.ref 26, .ref 25, .int 0, .int 0, .null] [.inl (2, [.ref 3]), .inl (2, [.ref 5]), .inr (.object "com/example/mithi/mithi/importer/EdgeWeighting$Scheme", [.ref 0, .ref 1]), .inl (0, [.ref 4, .int 0]), .inr (.byte, [.int 101, .int 113, .int 117, .int 97, .int 108]), .inl (0, [.ref 6, .int 0]), .inr (.byte, [.int 108, .int 111, .int 103, .int 45, .int 100, .int 101, .int 103, .int 114, .int 101, .int 101]), .inl (1, [.null]), opq, opq, opq, opq, opq, opq, opq, opq, opq, .inl (0, [.ref 18, .int 0]), .inr (.byte, []), opq, opq, opq, opq, opq, opq, .inr (.char, []), .inl (0, [.null, .int 0])] = some (none, [.inl (2, [.ref 3]), .inl (2, [.ref 5]), .inr (.object "com/example/mithi/mithi/importer/EdgeWeighting$Scheme", [.ref 0, .ref 1]), .inl (0, [.ref 4, .int 0]), .inr (.byte, [.int 101, .int 113, .int 117, .int 97, .int 108]), .inl (0, [.ref 6, .int 0]), .inr (.byte, [.int 108, .int 111, .int 103, .int 45, .int 100, .int 101, .int 103, .int 114, .int 101, .int 101]), .inl (1, [.null]), opq, opq, opq, opq, opq, opq, opq, opq, opq, .inl (0, [.ref 18, .int 0]), .inr (.byte, []), opq, opq, .inl (0, [.ref 22, .int 0]), .inr (.byte, []), .inl (0, [.ref 24, .int 0]), .inr (.byte, []), .inr (.char, []), .inl (0, [.ref 22, .int 0])]) := by
  refine is_of f10_inn fun go hgo => ?_
  refine t10_0 hgo rfl ?_
  refine res_of (u10_1 hgo) ?_
  simp only [eq_self, and_self, true_and, and_true, not_true_eq_false, not_false_eq_true, if_true, if_false, reduceIte, Option.bind_some, List.getElem?_cons_zero, List.getElem?_cons_succ, Nat.reduceAdd, Nat.reduceSub, Nat.reduceLT, Nat.reduceLeDiff, Nat.le_refl, Nat.zero_add, Nat.add_zero, List.length_cons, List.length_nil, Int32.reduceLT, Int32.reduceToNatClampNeg, Int32.reduceAdd, Int32.reduceSub, Int32.reduceMul, decide_true, aCall, aRecv, aObj, obj, List.take_succ_cons, List.take_zero, List.drop_succ_cons, List.drop_zero, List.reverse_cons, List.reverse_nil, List.nil_append, List.cons_append, List.append_nil, List.map_cons, List.map_nil, List.sum_cons, List.sum_nil, cat_int, cat_long, cat_ref, cat_null, Option.toList_some, Option.toList_none, nr_B0, ft_B0]
  refine t10_4 hgo ?_
  refine t10_5t hgo (by decide) ?_
  refine t10_8 hgo rfl ?_
  refine res_of (u10_9 hgo) ?_
  refine res_t (by first | exact FR3 | (simp only [fr3, List.length_cons, List.length_nil, Nat.reduceAdd, Nat.zero_add, List.all_cons, List.all_nil, okO, all_int, Bool.true_and, Bool.and_true] <;> rfl) | rfl) ?_
  refine lit_ok (j := 21) (by first | assumption | rfl) ⟨by decide, by first | decide | omega, by first | assumption | (simp only [List.length_cons, List.length_nil]; decide)⟩ ?_
  simp only [List.set_cons_zero, List.set_cons_succ, Nat.add_assoc, Nat.reduceAdd]
  refine res_of (u10_11 hgo) ?_
  simp only [eq_self, and_self, true_and, and_true, not_true_eq_false, not_false_eq_true, if_true, if_false, reduceIte, Option.bind_some, List.getElem?_cons_zero, List.getElem?_cons_succ, Nat.reduceAdd, Nat.reduceSub, Nat.reduceLT, Nat.reduceLeDiff, Nat.le_refl, Nat.zero_add, Nat.add_zero, List.length_cons, List.length_nil, Int32.reduceLT, Int32.reduceToNatClampNeg, Int32.reduceAdd, Int32.reduceSub, Int32.reduceMul, decide_true, aGet, obj, nr_B0, ft_B0]
  refine res_of (u10_14 hgo) ?_
  simp only [eq_self, and_self, true_and, and_true, not_true_eq_false, not_false_eq_true, if_true, if_false, reduceIte, Option.bind_some, List.getElem?_cons_zero, List.getElem?_cons_succ, Nat.reduceAdd, Nat.reduceSub, Nat.reduceLT, Nat.reduceLeDiff, Nat.le_refl, Nat.zero_add, Nat.add_zero, List.length_cons, List.length_nil, Int32.reduceLT, Int32.reduceToNatClampNeg, Int32.reduceAdd, Int32.reduceSub, Int32.reduceMul, decide_true, aPut, obj, nr_i, nr_j, nr_a, nr_o, nr_b, nr_b1, nr_b0, ft_i, ft_j, ft_a, ft_o, ft_b, ft_b1, ft_b0, List.set_cons_zero, List.set_cons_succ, nr_B0, ft_B0]
  refine t10_17 hgo rfl ?_
  refine res_of (u10_18 hgo) ?_
  refine res_t (by first | exact FR3 | (simp only [fr3, List.length_cons, List.length_nil, Nat.reduceAdd, Nat.zero_add, List.all_cons, List.all_nil, okO, all_int, Bool.true_and, Bool.and_true] <;> rfl) | rfl) ?_
  refine lit_ok (j := 23) (by first | assumption | rfl) ⟨by decide, by first | decide | omega, by first | assumption | (simp only [List.length_cons, List.length_nil]; decide)⟩ ?_
  simp only [List.set_cons_zero, List.set_cons_succ, Nat.add_assoc, Nat.reduceAdd]
  refine res_of (u10_20 hgo) ?_
  simp only [eq_self, and_self, true_and, and_true, not_true_eq_false, not_false_eq_true, if_true, if_false, reduceIte, Option.bind_some, List.getElem?_cons_zero, List.getElem?_cons_succ, Nat.reduceAdd, Nat.reduceSub, Nat.reduceLT, Nat.reduceLeDiff, Nat.le_refl, Nat.zero_add, Nat.add_zero, List.length_cons, List.length_nil, Int32.reduceLT, Int32.reduceToNatClampNeg, Int32.reduceAdd, Int32.reduceSub, Int32.reduceMul, decide_true, aGet, obj, nr_B0, ft_B0]
  refine res_of (u10_23 hgo) ?_
  simp only [eq_self, and_self, true_and, and_true, not_true_eq_false, not_false_eq_true, if_true, if_false, reduceIte, Option.bind_some, List.getElem?_cons_zero, List.getElem?_cons_succ, Nat.reduceAdd, Nat.reduceSub, Nat.reduceLT, Nat.reduceLeDiff, Nat.le_refl, Nat.zero_add, Nat.add_zero, List.length_cons, List.length_nil, Int32.reduceLT, Int32.reduceToNatClampNeg, Int32.reduceAdd, Int32.reduceSub, Int32.reduceMul, decide_true, aPut, obj, nr_i, nr_j, nr_a, nr_o, nr_b, nr_b1, nr_b0, ft_i, ft_j, ft_a, ft_o, ft_b, ft_b1, ft_b0, List.set_cons_zero, List.set_cons_succ, nr_B0, ft_B0]
  refine t10_26 hgo ?_
  exact is_r
set_option maxRecDepth 65536 in
set_option maxHeartbeats 4000000 in
theorem F9_Z : (F9 w vF) [.ref 26, .ref 25] [.inl (2, [.ref 3]), .inl (2, [.ref 5]), .inr (.object "com/example/mithi/mithi/importer/EdgeWeighting$Scheme", [.ref 0, .ref 1]), .inl (0, [.ref 4, .int 0]), .inr (.byte, [.int 101, .int 113, .int 117, .int 97, .int 108]), .inl (0, [.ref 6, .int 0]), .inr (.byte, [.int 108, .int 111, .int 103, .int 45, .int 100, .int 101, .int 103, .int 114, .int 101, .int 101]), .inl (1, [.null]), opq, opq, opq, opq, opq, opq, opq, opq, opq, .inl (0, [.ref 18, .int 0]), .inr (.byte, []), opq, opq, opq, opq, opq, opq, .inr (.char, []), .inl (0, [.null, .int 0])] = some (none, [.inl (2, [.ref 3]), .inl (2, [.ref 5]), .inr (.object "com/example/mithi/mithi/importer/EdgeWeighting$Scheme", [.ref 0, .ref 1]), .inl (0, [.ref 4, .int 0]), .inr (.byte, [.int 101, .int 113, .int 117, .int 97, .int 108]), .inl (0, [.ref 6, .int 0]), .inr (.byte, [.int 108, .int 111, .int 103, .int 45, .int 100, .int 101, .int 103, .int 114, .int 101, .int 101]), .inl (1, [.null]), opq, opq, opq, opq, opq, opq, opq, opq, opq, .inl (0, [.ref 18, .int 0]), .inr (.byte, []), opq, opq, .inl (0, [.ref 22, .int 0]), .inr (.byte, []), .inl (0, [.ref 24, .int 0]), .inr (.byte, []), .inr (.char, []), .inl (0, [.ref 22, .int 0])]) := by
  have e := F10_Z (w := w) (vF := vF)
  refine is_of f9_in fun go hgo => ?_
  refine t9_0 hgo rfl ?_
  refine t9_1 hgo rfl ?_
  refine t9_2 hgo ?_
  refine t9_3 hgo rfl ?_
  refine res_of (u9_4 hgo) ?_
  simp only [eq_self, and_self, true_and, and_true, not_true_eq_false, not_false_eq_true, if_true, if_false, reduceIte, Option.bind_some, List.getElem?_cons_zero, List.getElem?_cons_succ, Nat.reduceAdd, Nat.reduceSub, Nat.reduceLT, Nat.reduceLeDiff, Nat.le_refl, Nat.zero_add, Nat.add_zero, List.length_cons, List.length_nil, Int32.reduceLT, Int32.reduceToNatClampNeg, Int32.reduceAdd, Int32.reduceSub, Int32.reduceMul, decide_true, pR_ref, arr, ln0, ln1, ln2, ln3, ln4, ln5, ln6, ln7, ln8, ln9, ln10, ln11, ln12, ln13, ln14, ln15, ln16, ln17, ln18, ln19, ln20, ln21, ln22, ln23, ln24, ln25, ln26, ln27, ln28, ln29, ln30, ln31, ln32, ln33, ln34, ln35, ln36, e]
  refine t9_5 hgo ?_
  refine res_of (u9_6 hgo) ?_
  refine res_t (by first | exact FR3 | (simp only [fr3, List.length_cons, List.length_nil, Nat.reduceAdd, Nat.zero_add, List.all_cons, List.all_nil, okO, all_int, Bool.true_and, Bool.and_true] <;> rfl) | rfl) ?_
  simp only [eq_self, and_self, true_and, and_true, not_true_eq_false, not_false_eq_true, if_true, if_false, reduceIte, Option.bind_some, List.getElem?_cons_zero, List.getElem?_cons_succ, Nat.reduceAdd, Nat.reduceSub, Nat.reduceLT, Nat.reduceLeDiff, Nat.le_refl, Nat.zero_add, Nat.add_zero, List.length_cons, List.length_nil, Int32.reduceLT, Int32.reduceToNatClampNeg, Int32.reduceAdd, Int32.reduceSub, Int32.reduceMul, decide_true, aCall, aRecv, aObj, obj, List.take_succ_cons, List.take_zero, List.drop_succ_cons, List.drop_zero, List.reverse_cons, List.reverse_nil, List.nil_append, List.cons_append, List.append_nil, List.map_cons, List.map_nil, List.sum_cons, List.sum_nil, cat_int, cat_long, cat_ref, cat_null, Option.toList_some, Option.toList_none, e]
  refine t9_9 hgo ?_
  exact is_r
set_option maxRecDepth 65536 in
set_option maxHeartbeats 4000000 in
theorem tail_Z0 {go : GT} (hgo : go = R0 w vF) {v0 v1 v2 v3 v4 v5 w6 n : Int32} {m S : Nat} {l10 : Slot} (h10 : k10 l10) (hw0 : w ≠ 0) (hS : S ≤ 100) : Rsq (go (m + 104) (346, [.val (.int v0), .val (.int v1), .val (.int v2), .val (.int v3), .val (.int v4), .val (.int v5), .val (.int w6), .val (.ref 17), .val (.int n), .val (.ref 25), l10, .unset, .unset], [], [.inl (2, [.ref 3]), .inl (2, [.ref 5]), .inr (.object "com/example/mithi/mithi/importer/EdgeWeighting$Scheme", [.ref 0, .ref 1]), .inl (0, [.ref 4, .int 0]), .inr (.byte, [.int 101, .int 113, .int 117, .int 97, .int 108]), .inl (0, [.ref 6, .int 0]), .inr (.byte, [.int 108, .int 111, .int 103, .int 45, .int 100, .int 101, .int 103, .int 114, .int 101, .int 101]), .inl (1, [.null]), opq, opq, opq, opq, opq, opq, opq, opq, opq, .inl (0, [.ref 18, .int 0]), .inr (.byte, []), opq, opq, opq, opq, opq, opq, .inr (.char, [])], 3, S)) OneI := by
  have e9 := F9_Z (w := w) (vF := vF)
  have hx : ([] : List Int32).length ≤ 11 := by decide
  refine headT hgo (H := [.inl (2, [.ref 3]), .inl (2, [.ref 5]), .inr (.object "com/example/mithi/mithi/importer/EdgeWeighting$Scheme", [.ref 0, .ref 1]), .inl (0, [.ref 4, .int 0]), .inr (.byte, [.int 101, .int 113, .int 117, .int 97, .int 108]), .inl (0, [.ref 6, .int 0]), .inr (.byte, [.int 108, .int 111, .int 103, .int 45, .int 100, .int 101, .int 103, .int 114, .int 101, .int 101]), .inl (1, [.null]), opq, opq, opq, opq, opq, opq, opq, opq, opq, .inl (0, [.ref 18, .int 0]), .inr (.byte, []), opq, opq, opq, opq, opq, opq, .inr (.char, [])]) (H2 := [.inl (2, [.ref 3]), .inl (2, [.ref 5]), .inr (.object "com/example/mithi/mithi/importer/EdgeWeighting$Scheme", [.ref 0, .ref 1]), .inl (0, [.ref 4, .int 0]), .inr (.byte, [.int 101, .int 113, .int 117, .int 97, .int 108]), .inl (0, [.ref 6, .int 0]), .inr (.byte, [.int 108, .int 111, .int 103, .int 45, .int 100, .int 101, .int 103, .int 114, .int 101, .int 101]), .inl (1, [.null]), opq, opq, opq, opq, opq, opq, opq, opq, opq, .inl (0, [.ref 18, .int 0]), .inr (.byte, []), opq, opq, .inl (0, [.ref 22, .int 0]), .inr (.byte, []), .inl (0, [.ref 24, .int 0]), .inr (.byte, []), .inr (.char, []), .inl (0, [.ref 22, .int 0])]) h10 rfl (by decide) hS e9 ?_
  exact midG hgo (v := 22) (xs := []) (j := 9) (k := 13) h10.1 hw0 ⟨rfl, rfl, rfl, rfl, rfl, rfl, rfl, rfl, rfl, hx, rfl⟩ rfl rfl (by simp only [List.length_cons]; omega) (by simp only [List.length_cons]; omega) (by decide) (by decide) (by decide) (by decide) (by decide) (by simp only [fr3, List.length_cons, List.length_nil, Nat.reduceAdd, Nat.zero_add, List.all_cons, List.all_nil, okO, all_int, Bool.true_and, Bool.and_true]; rfl) (by simp only [fr3, List.length_cons, List.length_nil, Nat.reduceAdd, Nat.zero_add, List.all_cons, List.all_nil, okO, all_int, Bool.true_and, Bool.and_true]; rfl) (by omega)
set_option maxRecDepth 65536 in
set_option maxHeartbeats 4000000 in
theorem main_Z {go : GT} (hgo : go = R0 w vF) {v0 v1 v2 v3 v4 v5 w6 n : Int32} {N m : Nat} (hw0 : w ≠ 0) (hvF : vF = .null ∨ vF = .ref 8) (hn : n.toInt = (N : Int)) (hN : N ≤ 11) : Rsq (go (m + 275) (63, [.val (.int v0), .val (.int v1), .val (.int v2), .val (.int v3), .val (.int v4), .val (.int v5), .val (.int w6), .val (.ref 17), .val (.int n), .unset, .unset, .unset, .unset], [], [.inl (2, [.ref 3]), .inl (2, [.ref 5]), .inr (.object "com/example/mithi/mithi/importer/EdgeWeighting$Scheme", [.ref 0, .ref 1]), .inl (0, [.ref 4, .int 0]), .inr (.byte, [.int 101, .int 113, .int 117, .int 97, .int 108]), .inl (0, [.ref 6, .int 0]), .inr (.byte, [.int 108, .int 111, .int 103, .int 45, .int 100, .int 101, .int 103, .int 114, .int 101, .int 101]), .inl (1, [.null]), opq, opq, opq, opq, opq, opq, opq, opq, opq, .inl (0, [.ref 18, .int 0]), .inr (.byte, []), opq, opq, opq, opq, opq, opq], 2, 4)) OneI := by
  obtain ⟨n1, n2⟩ := i_idx hn
  have s1 : 4 + N ≤ 4288 := by omega
  have s2 : N ≤ 67108864 := by omega
  refine t0_63 hgo ?_
  refine res_of (u0_65 hgo) ?_
  simp only [eq_self, and_self, true_and, and_true, not_true_eq_false, not_false_eq_true, if_true, if_false, reduceIte, Option.bind_some, List.getElem?_cons_zero, List.getElem?_cons_succ, Nat.reduceAdd, Nat.reduceSub, Nat.reduceLT, Nat.reduceLeDiff, Nat.le_refl, Nat.zero_add, Nat.add_zero, List.length_cons, List.length_nil, Int32.reduceLT, Int32.reduceToNatClampNeg, Int32.reduceAdd, Int32.reduceSub, Int32.reduceMul, decide_true, aArr, List.nil_append, List.cons_append, List.replicate_zero, List.replicate_succ, defaultValue, n1, n2, s1, s2]
  refine t0_67 hgo rfl rfl ?_
  rw [rep_map]
  refine fill_all hgo (H := [.inl (2, [.ref 3]), .inl (2, [.ref 5]), .inr (.object "com/example/mithi/mithi/importer/EdgeWeighting$Scheme", [.ref 0, .ref 1]), .inl (0, [.ref 4, .int 0]), .inr (.byte, [.int 101, .int 113, .int 117, .int 97, .int 108]), .inl (0, [.ref 6, .int 0]), .inr (.byte, [.int 108, .int 111, .int 103, .int 45, .int 100, .int 101, .int 103, .int 114, .int 101, .int 101]), .inl (1, [.null]), opq, opq, opq, opq, opq, opq, opq, opq, opq, .inl (0, [.ref 18, .int 0]), .inr (.byte, []), opq, opq, opq, opq, opq, opq, opq]) (o := opq) (b := 17) (bs := []) (S := 4 + N) (xs := List.replicate N 0) hw0 hvF rfl (by decide) rfl (by decide) rfl hn s1 ⟨rfl, fun _ _ => rfl⟩ ⟨by simp, fun c hc => by rw [List.eq_of_mem_replicate hc]; exact ⟨by decide, by decide⟩⟩ fun xs' l10' hg h10 m' => ?_
  simp only [List.set_cons_succ, List.set_cons_zero]
  rcases Nat.eq_zero_or_pos N with z | z
  · obtain rfl : xs' = [] := List.eq_nil_of_length_eq_zero (by rw [hg.1, z])
    exact tail_Z0 (m := m' + 16) hgo h10 hw0 (by omega)
  · exact tail_Z1 (m := m' + 16) hgo hn hg hN z h10 hw0 (by omega)
set_option maxRecDepth 65536 in
set_option maxHeartbeats 4000000 in
theorem law_val (hw0 : w ≠ 0) (hvF : vF = .null ∨ vF = .ref 8) (v0 v1 v2 v3 v4 v5 : Int32) : ∃ H', (F0 w vF) [.int v0, .int v1, .int v2, .int v3, .int v4, .int v5] H0 = some (some (.int 1), H') := by
  refine one_of f0_in fun go hgo => ?_
  simp only [H0]
  obtain ⟨N, hN, eN⟩ := own_mod v3 2 12 2 12 (by decide) (by decide) (by decide) (by decide)
  have hN : N ≤ 11 := by omega
  refine t0_0 hgo ?_
  refine t0_1 hgo ?_
  refine t0_3 hgo ?_
  refine t0_4 hgo ?_
  refine t0_5 hgo (by decide) ?_
  refine t0_6 hgo rfl ?_
  refine t0_8 hgo ?_
  generalize (v0 &&& 2147483647) % 3 = wh
  by_cases h0 : wh = 0
  · subst h0
    refine t0_10t hgo (by decide) ?_
    refine res_of (u0_13 hgo) ?_
    refine res_t (by first | exact FR3 | (simp only [fr3, List.length_cons, List.length_nil, Nat.reduceAdd, Nat.zero_add, List.all_cons, List.all_nil, okO, all_int, Bool.true_and, Bool.and_true] <;> rfl) | rfl) ?_
    refine lit_ok (j := 9) (by first | assumption | rfl) ⟨by decide, by first | decide | omega, by first | assumption | (simp only [List.length_cons, List.length_nil]; decide)⟩ ?_
    simp only [List.set_cons_zero, List.set_cons_succ, Nat.add_assoc, Nat.reduceAdd]
    refine t0_15 hgo ?_
    have e1 := F1_eq (w := w) (vF := vF) (a := 9) (v := 10) (bs := [.int 101, .int 113, .int 117, .int 97, .int 108]) (H := [.inl (2, [.ref 3]), .inl (2, [.ref 5]), .inr (.object "com/example/mithi/mithi/importer/EdgeWeighting$Scheme", [.ref 0, .ref 1]), .inl (0, [.ref 4, .int 0]), .inr (.byte, [.int 101, .int 113, .int 117, .int 97, .int 108]), .inl (0, [.ref 6, .int 0]), .inr (.byte, [.int 108, .int 111, .int 103, .int 45, .int 100, .int 101, .int 103, .int 114, .int 101, .int 101]), .inl (1, [.null]), opq, .inl (0, [.ref 10, .int 0]), .inr (.byte, [.int 101, .int 113, .int 117, .int 97, .int 108]), opq, opq, opq, opq, opq, opq, opq, opq, opq, opq, opq, opq, opq, opq]) hw0 rfl rfl
    by_cases h3 : (v3 &&& 3) = 0
    · skip
      refine t0_31 hgo rfl rfl ?_
      refine t0_33 hgo ?_
      refine t0_35 hgo ?_
      refine t0_36f hgo (by decide) ?_
      refine t0_39 hgo ?_
      refine t0_40 hgo ?_
      refine t0_41 hgo ?_
      refine t0_42t hgo h3 ?_
      refine t0_55 hgo ?_
      refine t0_56 hgo ?_
      refine t0_57 hgo ?_
      refine t0_58 hgo ?_
      refine t0_60 hgo (by decide) ?_
      refine t0_61 hgo rfl ?_
      exact main_E hgo hw0 hvF eN hN
    · skip
      refine t0_31 hgo rfl rfl ?_
      refine t0_33 hgo ?_
      refine t0_35 hgo ?_
      refine t0_36f hgo (by decide) ?_
      refine t0_39 hgo ?_
      refine t0_40 hgo ?_
      refine t0_41 hgo ?_
      refine t0_42f hgo h3 ?_
      refine t0_45 hgo rfl ?_
      refine res_of (u0_47 hgo) ?_
      simp only [eq_self, and_self, true_and, and_true, not_true_eq_false, not_false_eq_true, if_true, if_false, reduceIte, Option.bind_some, List.getElem?_cons_zero, List.getElem?_cons_succ, Nat.reduceAdd, Nat.reduceSub, Nat.reduceLT, Nat.reduceLeDiff, Nat.le_refl, Nat.zero_add, Nat.add_zero, List.length_cons, List.length_nil, Int32.reduceLT, Int32.reduceToNatClampNeg, Int32.reduceAdd, Int32.reduceSub, Int32.reduceMul, decide_true, aCall, aRecv, aObj, obj, List.take_succ_cons, List.take_zero, List.drop_succ_cons, List.drop_zero, List.reverse_cons, List.reverse_nil, List.nil_append, List.cons_append, List.append_nil, List.map_cons, List.map_nil, List.sum_cons, List.sum_nil, cat_int, cat_long, cat_ref, cat_null, Option.toList_some, Option.toList_none, e1]
      refine t0_50 hgo rfl ?_
      refine t0_52 hgo ?_
      exact main_E hgo hw0 hvF (N := 5) (by decide) (by decide)
  by_cases h1 : wh = 1
  · subst h1
    refine t0_10f hgo (by decide) ?_
    refine t0_18 hgo ?_
    refine t0_20 hgo ?_
    refine t0_21t hgo (by decide) ?_
    refine res_of (u0_24 hgo) ?_
    refine res_t (by first | exact FR3 | (simp only [fr3, List.length_cons, List.length_nil, Nat.reduceAdd, Nat.zero_add, List.all_cons, List.all_nil, okO, all_int, Bool.true_and, Bool.and_true] <;> rfl) | rfl) ?_
    refine lit_ok (j := 13) (by first | assumption | rfl) ⟨by decide, by first | decide | omega, by first | assumption | (simp only [List.length_cons, List.length_nil]; decide)⟩ ?_
    simp only [List.set_cons_zero, List.set_cons_succ, Nat.add_assoc, Nat.reduceAdd]
    refine t0_26 hgo ?_
    have e1 := F1_eq (w := w) (vF := vF) (a := 13) (v := 14) (bs := [.int 108, .int 111, .int 103, .int 45, .int 100, .int 101, .int 103, .int 114, .int 101, .int 101]) (H := [.inl (2, [.ref 3]), .inl (2, [.ref 5]), .inr (.object "com/example/mithi/mithi/importer/EdgeWeighting$Scheme", [.ref 0, .ref 1]), .inl (0, [.ref 4, .int 0]), .inr (.byte, [.int 101, .int 113, .int 117, .int 97, .int 108]), .inl (0, [.ref 6, .int 0]), .inr (.byte, [.int 108, .int 111, .int 103, .int 45, .int 100, .int 101, .int 103, .int 114, .int 101, .int 101]), .inl (1, [.null]), opq, opq, opq, opq, opq, .inl (0, [.ref 14, .int 0]), .inr (.byte, [.int 108, .int 111, .int 103, .int 45, .int 100, .int 101, .int 103, .int 114, .int 101, .int 101]), opq, opq, opq, opq, opq, opq, opq, opq, opq, opq]) hw0 rfl rfl
    by_cases h3 : (v3 &&& 3) = 0
    · skip
      refine t0_31 hgo rfl rfl ?_
      refine t0_33 hgo ?_
      refine t0_35 hgo ?_
      refine t0_36f hgo (by decide) ?_
      refine t0_39 hgo ?_
      refine t0_40 hgo ?_
      refine t0_41 hgo ?_
      refine t0_42t hgo h3 ?_
      refine t0_55 hgo ?_
      refine t0_56 hgo ?_
      refine t0_57 hgo ?_
      refine t0_58 hgo ?_
      refine t0_60 hgo (by decide) ?_
      refine t0_61 hgo rfl ?_
      exact main_L hgo hw0 hvF eN hN
    · skip
      refine t0_31 hgo rfl rfl ?_
      refine t0_33 hgo ?_
      refine t0_35 hgo ?_
      refine t0_36f hgo (by decide) ?_
      refine t0_39 hgo ?_
      refine t0_40 hgo ?_
      refine t0_41 hgo ?_
      refine t0_42f hgo h3 ?_
      refine t0_45 hgo rfl ?_
      refine res_of (u0_47 hgo) ?_
      simp only [eq_self, and_self, true_and, and_true, not_true_eq_false, not_false_eq_true, if_true, if_false, reduceIte, Option.bind_some, List.getElem?_cons_zero, List.getElem?_cons_succ, Nat.reduceAdd, Nat.reduceSub, Nat.reduceLT, Nat.reduceLeDiff, Nat.le_refl, Nat.zero_add, Nat.add_zero, List.length_cons, List.length_nil, Int32.reduceLT, Int32.reduceToNatClampNeg, Int32.reduceAdd, Int32.reduceSub, Int32.reduceMul, decide_true, aCall, aRecv, aObj, obj, List.take_succ_cons, List.take_zero, List.drop_succ_cons, List.drop_zero, List.reverse_cons, List.reverse_nil, List.nil_append, List.cons_append, List.append_nil, List.map_cons, List.map_nil, List.sum_cons, List.sum_nil, cat_int, cat_long, cat_ref, cat_null, Option.toList_some, Option.toList_none, e1]
      refine t0_50 hgo rfl ?_
      refine t0_52 hgo ?_
      exact main_L hgo hw0 hvF (N := 10) (by decide) (by decide)
  refine t0_10f hgo h0 ?_
  refine t0_18 hgo ?_
  refine t0_20 hgo ?_
  refine t0_21f hgo h1 ?_
  refine res_of (u0_29 hgo) ?_
  refine res_t (by first | exact FR3 | (simp only [fr3, List.length_cons, List.length_nil, Nat.reduceAdd, Nat.zero_add, List.all_cons, List.all_nil, okO, all_int, Bool.true_and, Bool.and_true] <;> rfl) | rfl) ?_
  refine lit_ok (j := 17) (by first | assumption | rfl) ⟨by decide, by first | decide | omega, by first | assumption | (simp only [List.length_cons, List.length_nil]; decide)⟩ ?_
  simp only [List.set_cons_zero, List.set_cons_succ, Nat.add_assoc, Nat.reduceAdd]
  by_cases h2 : wh = 2
  · skip
    refine t0_31 hgo rfl rfl ?_
    refine t0_33 hgo ?_
    refine t0_35 hgo ?_
    refine t0_36t hgo h2 ?_
    refine t0_55 hgo ?_
    refine t0_56 hgo ?_
    refine t0_57 hgo ?_
    refine t0_58 hgo ?_
    refine t0_60 hgo (by decide) ?_
    refine t0_61 hgo rfl ?_
    exact main_Z hgo hw0 hvF eN hN
  have e1 := F1_eq (w := w) (vF := vF) (a := 17) (v := 18) (bs := []) (H := [.inl (2, [.ref 3]), .inl (2, [.ref 5]), .inr (.object "com/example/mithi/mithi/importer/EdgeWeighting$Scheme", [.ref 0, .ref 1]), .inl (0, [.ref 4, .int 0]), .inr (.byte, [.int 101, .int 113, .int 117, .int 97, .int 108]), .inl (0, [.ref 6, .int 0]), .inr (.byte, [.int 108, .int 111, .int 103, .int 45, .int 100, .int 101, .int 103, .int 114, .int 101, .int 101]), .inl (1, [.null]), opq, opq, opq, opq, opq, opq, opq, opq, opq, .inl (0, [.ref 18, .int 0]), .inr (.byte, []), opq, opq, opq, opq, opq, opq]) hw0 rfl rfl
  by_cases h3 : (v3 &&& 3) = 0
  · skip
    refine t0_31 hgo rfl rfl ?_
    refine t0_33 hgo ?_
    refine t0_35 hgo ?_
    refine t0_36f hgo h2 ?_
    refine t0_39 hgo ?_
    refine t0_40 hgo ?_
    refine t0_41 hgo ?_
    refine t0_42t hgo h3 ?_
    refine t0_55 hgo ?_
    refine t0_56 hgo ?_
    refine t0_57 hgo ?_
    refine t0_58 hgo ?_
    refine t0_60 hgo (by decide) ?_
    refine t0_61 hgo rfl ?_
    exact main_Z hgo hw0 hvF eN hN
  · skip
    refine t0_31 hgo rfl rfl ?_
    refine t0_33 hgo ?_
    refine t0_35 hgo ?_
    refine t0_36f hgo h2 ?_
    refine t0_39 hgo ?_
    refine t0_40 hgo ?_
    refine t0_41 hgo ?_
    refine t0_42f hgo h3 ?_
    refine t0_45 hgo rfl ?_
    refine res_of (u0_47 hgo) ?_
    simp only [eq_self, and_self, true_and, and_true, not_true_eq_false, not_false_eq_true, if_true, if_false, reduceIte, Option.bind_some, List.getElem?_cons_zero, List.getElem?_cons_succ, Nat.reduceAdd, Nat.reduceSub, Nat.reduceLT, Nat.reduceLeDiff, Nat.le_refl, Nat.zero_add, Nat.add_zero, List.length_cons, List.length_nil, Int32.reduceLT, Int32.reduceToNatClampNeg, Int32.reduceAdd, Int32.reduceSub, Int32.reduceMul, decide_true, aCall, aRecv, aObj, obj, List.take_succ_cons, List.take_zero, List.drop_succ_cons, List.drop_zero, List.reverse_cons, List.reverse_nil, List.nil_append, List.cons_append, List.append_nil, List.map_cons, List.map_nil, List.sum_cons, List.sum_nil, cat_int, cat_long, cat_ref, cat_null, Option.toList_some, Option.toList_none, e1]
    refine t0_50 hgo rfl ?_
    refine t0_52 hgo ?_
    exact main_Z hgo hw0 hvF (N := 0) (by decide) (by decide)
theorem eqv_j {Z : State} {args : Array Value} {X F : Term} {idx : List Nat} {y : Int32} (hF : F.eval args Z none idx Z = some (.int y)) (h : (Jvm.Cond.eq X F).value args Z none Z idx = some true) : X.eval args Z none idx Z = some (.int y) := by
  obtain ⟨x, y', e1, e2, k1, k2⟩ := cmp_v (Or.inl h)
  cases hF.symm.trans e2
  obtain ⟨z, rfl⟩ : ∃ z, x = .int z := k2
  exact e1.trans (congrArg (fun z => some (Value.int z)) (gotT (Cond.eq_ints e1 hF) h))
theorem eqv_r {Z : State} {args : Array Value} {X F : Term} {idx : List Nat} {y : Addr} (hF : F.eval args Z none idx Z = some (.ref y)) (h : (Jvm.Cond.eq X F).value args Z none Z idx = some true) : X.eval args Z none idx Z = some (.ref y) := by
  obtain ⟨x, y', e1, e2, k1, k2⟩ := cmp_v (Or.inl h)
  cases hF.symm.trans e2
  have := gotT (eq_R e1 hF k2.2 rfl) h
  rw [e1, this]
theorem lab {s : State} {args : Array Value} {t : Term} {a : Addr} (e : t.eval args s none [] s = some (.ref a)) (h1 : (Jvm.Cond.exactly (Term.field t "com/example/mithi/mithi/importer/EdgeWeighting$Scheme" "label" "Ljava/lang/String;") "java/lang/String").value args s none s [] = some true) (h2 : (Jvm.Cond.eq (Term.field (Term.field t "com/example/mithi/mithi/importer/EdgeWeighting$Scheme" "label" "Ljava/lang/String;") "java/lang/String" "coder" "B") (.int 0)).value args s none s [] = some true) (h3 : (Jvm.Cond.arrayOf (Term.field (Term.field t "com/example/mithi/mithi/importer/EdgeWeighting$Scheme" "label" "Ljava/lang/String;") "java/lang/String" "value" "[B") .byte).value args s none s [] = some true) :
    ∃ (l v : Addr) (cl : Cell), Fld s s.heap a "com/example/mithi/mithi/importer/EdgeWeighting$Scheme" "label" "Ljava/lang/String;" (.ref l) ∧ Exa s s.heap l "java/lang/String" ∧ Fld s s.heap l "java/lang/String" "value" "[B" (.ref v) ∧ Fld s s.heap l "java/lang/String" "coder" "B" (.int 0) ∧ Arr s s.heap v cl .byte ∧ (Term.field (Term.field t "com/example/mithi/mithi/importer/EdgeWeighting$Scheme" "label" "Ljava/lang/String;") "java/lang/String" "value" "[B").eval args s none [] s = some (.ref v) := by
  obtain ⟨l, el⟩ := exa_v h1
  have xl := Exa.start el h1
  have fl := Fld.start ((fld_at e).symm.trans el)
  have ec := eqv_j (Term.int_eval 0) h2
  have fc := Fld.start ((fld_at el).symm.trans ec)
  obtain ⟨v, ev⟩ := arr_v h3
  have fv := Fld.start ((fld_at el).symm.trans ev)
  obtain ⟨cl, A⟩ := Arr.start ev h3
  exact ⟨l, v, cl, fl, xl, fv, fc, A, ev⟩
theorem len_e2 {args : Array Value} {s : State} {t : Term} {x : Addr} {cl : Cell} {z : Int32} {n : Nat} (h : (Term.length t).eval args s none [] s = some (.int z)) (ht : t.eval args s none [] s = some (.ref x)) (hc : s.arrayAt? x = some cl) (hz : z.toInt = (n : Int)) : cl.slots.size = n := by
  by_cases q : cl.slots.size < 2 ^ 31
  · have e := len_f ht hc q
    have e' := Option.some.inj (e.symm.trans h)
    have e2 : cl.slots.size.toInt32 = z := by injection e'
    have := len_toInt q
    rw [e2] at this
    omega
  · simp [Term.eval, ht, hc, q] at h
theorem el1 {args : Array Value} {s : State} {t : Term} {x : Addr} {cl : Cell} {y j : Int32} (ev : t.eval args s none [] s = some (.ref x)) (hc : s.arrayAt? x = some cl) (h : (Jvm.Cond.eq (.elem t (.int j)) (.int y)).value args s none s [] = some true) (hj : ¬ j < 0) : cl.slots[j.toNatClampNeg]? = some (.int y) :=
  (elem_f ev (Term.int_eval j) hc hj).symm.trans (eqv_j (Term.int_eval y) h)
theorem elr {args : Array Value} {s : State} {t u : Term} {x y : Addr} {cl : Cell} {j : Int32} (ev : t.eval args s none [] s = some (.ref x)) (eu : u.eval args s none [] s = some (.ref y)) (hc : s.arrayAt? x = some cl) (h : (Jvm.Cond.eq (.elem t (.int j)) u).value args s none s [] = some true) (hj : ¬ j < 0) : cl.slots[j.toNatClampNeg]? = some (.ref y) :=
  (elem_f ev (Term.int_eval j) hc hj).symm.trans (eqv_r eu h)
theorem sl_eq {cl : Cell} {vs : List Value} {σ : Nat → Nat} (hs : cl.slots.size = vs.length) (h : ∀ (k : Nat) (v : Value), vs[k]? = some v → cl.slots[k]? = some (cv σ v)) : cl.slots = (vs.map (cv σ)).toArray := by
  apply Array.ext_getElem?
  intro k
  have e : ((vs.map (cv σ)).toArray)[k]? = (vs[k]?).map (cv σ) := by simp
  rw [e]
  rcases Nat.lt_or_ge k vs.length with q | q
  · rw [List.getElem?_eq_getElem q]; exact h k _ (List.getElem?_eq_getElem q)
  · rw [Array.getElem?_eq_none (by omega), List.getElem?_eq_none q]; rfl
theorem fld_cg {args : Array Value} {first : State} {o : Option Outcome} {idx : List Nat} {s : State} {t t' : Term} {C n d : String} (h : t.eval args first o idx s = t'.eval args first o idx s) : (Term.field t C n d).eval args first o idx s = (Term.field t' C n d).eval args first o idx s := by
  simp only [Term.eval, h]
set_option maxRecDepth 65536 in
set_option maxHeartbeats 4000000 in
theorem start_ok {s : State} {args : Array Value} (hrest : rest_1_c.before args s = true) (hn : narrow_1.value args s none s [] = some true) (hcl : ∀ p ∈ consts_1, Jvm.Lit.constHeld s p.1 p.2) (hw : ∀ d ∈ tables_1, d.before args s = true) : ∃ (w : Int32) (vF : Value) (xs : List Nat), w ≠ 0 ∧ (vF = .null ∨ vF = .ref 8) ∧ OwnSta w vF s (sgx xs s.heap.size) ∧ CHv s consts_1 s.vm s.heap ∧ Sg (sgx xs s.heap.size) 25 s.heap.size (Bk s consts_1 s.vm s.heap) s.heap ∧ Rep s (sgx xs s.heap.size) 25 s.heap.size H0.length (Bk s consts_1 s.vm s.heap) s.heap K s.heap H0 := by
  obtain ⟨nVA, hn⟩ := and_e hn
  obtain ⟨nVX, hn⟩ := and_e hn
  obtain ⟨nVL, hn⟩ := and_e hn
  obtain ⟨nEX, hn⟩ := and_e hn
  obtain ⟨nV0, hn⟩ := and_e hn
  obtain ⟨nLX, hn⟩ := and_e hn
  obtain ⟨nV1, hn⟩ := and_e hn
  obtain ⟨nES, hn⟩ := and_e hn
  obtain ⟨nEC, hn⟩ := and_e hn
  obtain ⟨nEA, hn⟩ := and_e hn
  obtain ⟨nEN, hn⟩ := and_e hn
  obtain ⟨nLS, hn⟩ := and_e hn
  obtain ⟨nLC, hn⟩ := and_e hn
  obtain ⟨nLA, hn⟩ := and_e hn
  obtain ⟨nLN, hn⟩ := and_e hn
  obtain ⟨bE0, hn⟩ := and_e hn
  obtain ⟨bE1, hn⟩ := and_e hn
  obtain ⟨bE2, hn⟩ := and_e hn
  obtain ⟨bE3, hn⟩ := and_e hn
  obtain ⟨bE4, hn⟩ := and_e hn
  obtain ⟨bL0, hn⟩ := and_e hn
  obtain ⟨bL1, hn⟩ := and_e hn
  obtain ⟨bL2, hn⟩ := and_e hn
  obtain ⟨bL3, hn⟩ := and_e hn
  obtain ⟨bL4, hn⟩ := and_e hn
  obtain ⟨bL5, hn⟩ := and_e hn
  obtain ⟨bL6, hn⟩ := and_e hn
  obtain ⟨bL7, hn⟩ := and_e hn
  obtain ⟨bL8, hn⟩ := and_e hn
  have bL9 := hn
  have hr := Cond.before_iff.mp hrest
  obtain ⟨c1, hr⟩ := and_e hr
  obtain ⟨c2, hr⟩ := and_e hr
  obtain ⟨c3, hr⟩ := and_e hr
  obtain ⟨c4, hr⟩ := and_e hr
  obtain ⟨c5, hr⟩ := and_e hr
  obtain ⟨c6, hr⟩ := and_e hr
  obtain ⟨c7, hr⟩ := and_e hr
  obtain ⟨c8, hr⟩ := and_e hr
  obtain ⟨c9, hr⟩ := and_e hr
  obtain ⟨c10, hr⟩ := and_e hr
  obtain ⟨c11, hr⟩ := and_e hr
  obtain ⟨c12, hr⟩ := and_e hr
  obtain ⟨c13, hr⟩ := and_e hr
  have c14 := hr
  obtain ⟨w, ew⟩ := is_v c2
  have tC := Sta.start ew (Or.inl (Cond.before_iff.mpr c1))
  have hw0 : w ≠ 0 := fun h0 => by
    have u := not_v c3
    rw [eq_i ew (Term.int_eval 0) (by rw [h0])] at u
    exact absurd u (by decide)
  obtain ⟨vX, eX, hX⟩ := isR_v c9
  have tX := Sta.start eX (Or.inl (Cond.before_iff.mpr c8))
  obtain ⟨aO, eO⟩ := exa_v c12
  have xO := Exa.start eO c12
  have fO := Fld.start ((fld_at eO).symm.trans (null_v c13))
  have tO := Sta.start eO (Or.inl (Cond.before_iff.mpr c11))
  obtain ⟨aE, eE⟩ := exa_v nEX
  have xE := Exa.start eE nEX
  have tE := Sta.start eE (Or.inr ⟨(hw _ (List.mem_of_getElem? (i := 82) rfl)), (hw _ (List.mem_of_getElem? (i := 96) rfl))⟩)
  obtain ⟨aL, eL⟩ := exa_v nLX
  have xL := Exa.start eL nLX
  have tL := Sta.start eL (Or.inr ⟨(hw _ (List.mem_of_getElem? (i := 82) rfl)), (hw _ (List.mem_of_getElem? (i := 97) rfl))⟩)
  obtain ⟨aV, eV⟩ := exa_v nVX
  have xV := Exa.start eV nVX
  have tV := Sta.start eV (Or.inr ⟨(hw _ (List.mem_of_getElem? (i := 82) rfl)), (hw _ (List.mem_of_getElem? (i := 88) rfl))⟩)
  obtain ⟨cV, AV⟩ := Arr.start eV nVA
  have hcV : s.arrayAt? aV = some cV := AV.fin (Vm.Alike.refl _)
  have sV : cV.slots.size = 2 := len_e2 (eqv_j (Term.int_eval 2) nVL) eV hcV (by decide)
  have r0 : cV.slots[0]? = some (Value.ref aE) := elr eV eE hcV nV0 (by decide)
  have r1 : cV.slots[1]? = some (Value.ref aL) := elr eV eL hcV nV1 (by decide)
  obtain ⟨lE, vE, cE, fEl, xEl, fEv, fEc, AE, evE⟩ := lab eE nES nEC nEA
  have hcE : s.arrayAt? vE = some cE := AE.fin (Vm.Alike.refl _)
  have sE : cE.slots.size = 5 := len_e2 (eqv_j (Term.int_eval 5) nEN) evE hcE (by decide)
  obtain ⟨lL, vL, cL', fLl, xLl, fLv, fLc, AL, evL⟩ := lab eL nLS nLC nLA
  have hcL : s.arrayAt? vL = some cL' := AL.fin (Vm.Alike.refl _)
  have sL : cL'.slots.size = 10 := len_e2 (eqv_j (Term.int_eval 10) nLN) evL hcL (by decide)
  have e0 : cE.slots[0]? = some (Value.int 101) := el1 evE hcE bE0 (by decide)
  have e1 : cE.slots[1]? = some (Value.int 113) := el1 evE hcE bE1 (by decide)
  have e2 : cE.slots[2]? = some (Value.int 117) := el1 evE hcE bE2 (by decide)
  have e3 : cE.slots[3]? = some (Value.int 97) := el1 evE hcE bE3 (by decide)
  have e4 : cE.slots[4]? = some (Value.int 108) := el1 evE hcE bE4 (by decide)
  have g0 : cL'.slots[0]? = some (Value.int 108) := el1 evL hcL bL0 (by decide)
  have g1 : cL'.slots[1]? = some (Value.int 111) := el1 evL hcL bL1 (by decide)
  have g2 : cL'.slots[2]? = some (Value.int 103) := el1 evL hcL bL2 (by decide)
  have g3 : cL'.slots[3]? = some (Value.int 45) := el1 evL hcL bL3 (by decide)
  have g4 : cL'.slots[4]? = some (Value.int 100) := el1 evL hcL bL4 (by decide)
  have g5 : cL'.slots[5]? = some (Value.int 101) := el1 evL hcL bL5 (by decide)
  have g6 : cL'.slots[6]? = some (Value.int 103) := el1 evL hcL bL6 (by decide)
  have g7 : cL'.slots[7]? = some (Value.int 114) := el1 evL hcL bL7 (by decide)
  have g8 : cL'.slots[8]? = some (Value.int 101) := el1 evL hcL bL8 (by decide)
  have g9 : cL'.slots[9]? = some (Value.int 101) := el1 evL hcL bL9 (by decide)
  have dEL : aE ≠ aL := fun q => by
    have u := fld_cg (C := "java/lang/String") (n := "value") (d := "[B") (fld_cg (C := "com/example/mithi/mithi/importer/EdgeWeighting$Scheme") (n := "label") (d := "Ljava/lang/String;") (eE.trans ((congrArg (fun z => some (Value.ref z)) q).trans eL.symm)))
    rw [evE, evL] at u
    cases u
    cases hcE.symm.trans hcL
    omega
  obtain ⟨vF, a8, hvF, hcv⟩ : ∃ (vF : Value) (a8 : Nat), (vF = .null ∨ vF = .ref 8) ∧ ∀ σ : Nat → Nat, σ 8 = a8 → cv σ vF = vX := by
    rcases ref_cases hX with rfl | ⟨a, rfl⟩
    · exact ⟨.null, 0, Or.inl rfl, fun _ _ => rfl⟩
    · exact ⟨.ref 8, a, Or.inr rfl, fun σ h => by show Value.ref _ = Value.ref _; rw [h]⟩
  have hb : ∀ k a, k ≠ 8 → ([aE, aL, aV, lE, vE, lL, vL, aO, a8, aE, aE, aE, aE, aE, aE, aE, aE, aE, aE, aE, aE, aE, aE, aE, aE] : List Nat)[k]? = some a → a < s.heap.size := by
    intro k a k8 h
    match k, k8, h with
    | 0, k8, h => cases h; exact xE.lt
    | 1, k8, h => cases h; exact xL.lt
    | 2, k8, h => cases h; exact xV.lt
    | 3, k8, h => cases h; exact xEl.lt
    | 4, k8, h => cases h; exact AE.lt
    | 5, k8, h => cases h; exact xLl.lt
    | 6, k8, h => cases h; exact AL.lt
    | 7, k8, h => cases h; exact xO.lt
    | 8, k8, h => exact absurd rfl k8
    | 9, k8, h => cases h; exact xE.lt
    | 10, k8, h => cases h; exact xE.lt
    | 11, k8, h => cases h; exact xE.lt
    | 12, k8, h => cases h; exact xE.lt
    | 13, k8, h => cases h; exact xE.lt
    | 14, k8, h => cases h; exact xE.lt
    | 15, k8, h => cases h; exact xE.lt
    | 16, k8, h => cases h; exact xE.lt
    | 17, k8, h => cases h; exact xE.lt
    | 18, k8, h => cases h; exact xE.lt
    | 19, k8, h => cases h; exact xE.lt
    | 20, k8, h => cases h; exact xE.lt
    | 21, k8, h => cases h; exact xE.lt
    | 22, k8, h => cases h; exact xE.lt
    | 23, k8, h => cases h; exact xE.lt
    | 24, k8, h => cases h; exact xE.lt
    | k + 25, k8, h => cases h
  refine ⟨w, vF, [aE, aL, aV, lE, vE, lL, vL, aO, a8, aE, aE, aE, aE, aE, aE, aE, aE, aE, aE, aE, aE, aE, aE, aE, aE], hw0, hvF, ⟨tE, tL, tV, tO, tC, by rw [hcv (sgx [aE, aL, aV, lE, vE, lL, vL, aO, a8, aE, aE, aE, aE, aE, aE, aE, aE, aE, aE, aE, aE, aE, aE, aE, aE] s.heap.size) rfl]; exact tX, hvF⟩, CHv.start (hEL hw) hcl (Cond.before_iff.mpr c3) (hw _ (List.mem_of_getElem? (i := 4) rfl)) (hw _ (List.mem_of_getElem? (i := 3) rfl)), sgx_ok hb ?_, rep_x hb rfl (show 8 < 25 by decide) rfl ?_⟩
  · intro i j hi hj h
    match i, j, hi, hj, h with
    | 0, 0, _, _, _ => rfl
    | 1, 1, _, _, _ => rfl
    | 0, 1, _, _, h => exact absurd (show aE = aL from h) dEL
    | 1, 0, _, _, h => exact absurd (show aE = aL from (show aL = aE from h).symm) dEL
    | i + 2, _, hi, _, _ => exact absurd hi (by omega)
    | _, j + 2, _, hj, _ => exact absurd hj (by omega)
  · intro k o h
    match k, h with
    | 0, h => cases h; exact Or.inr ⟨by decide, _, _, rfl, xE, fun j v q => by match j, q with | 0, q => cases q; exact ⟨_, _, _, rfl, fEl⟩ | j + 1, q => cases q⟩
    | 1, h => cases h; exact Or.inr ⟨by decide, _, _, rfl, xL, fun j v q => by match j, q with | 0, q => cases q; exact ⟨_, _, _, rfl, fLl⟩ | j + 1, q => cases q⟩
    | 2, h =>
      cases h
      refine Or.inr ⟨by decide, cV, AV, sl_eq sV fun j v q => ?_, by decide, fun v hv => ?_, fun _ _ => ?_⟩
      · match j, q with | 0, q => cases q; exact r0 | 1, q => cases q; exact r1 | j + 2, q => cases q
      · simp only [List.mem_cons, List.not_mem_nil, or_false] at hv
        rcases hv with rfl | rfl <;> rfl
      · have e : "[" ++ (FieldType.object "com/example/mithi/mithi/importer/EdgeWeighting$Scheme").toString = "[Lcom/example/mithi/mithi/importer/EdgeWeighting$Scheme;" := by decide +kernel
        rw [e]; exact xV
    | 3, h => cases h; exact Or.inr ⟨by decide, _, _, rfl, xEl, fun j v q => by match j, q with | 0, q => cases q; exact ⟨_, _, _, rfl, fEv⟩ | 1, q => cases q; exact ⟨_, _, _, rfl, fEc⟩ | j + 2, q => cases q⟩
    | 4, h =>
      cases h
      refine Or.inr ⟨by decide, cE, AE, sl_eq sE fun j v q => ?_, by decide, fun v hv => ?_, fun u => absurd rfl u⟩
      · match j, q with
        | 0, q => cases q; exact e0
        | 1, q => cases q; exact e1
        | 2, q => cases q; exact e2
        | 3, q => cases q; exact e3
        | 4, q => cases q; exact e4
        | j + 5, q => cases q
      · exact (fit_of [101, 113, 117, 97, 108] rfl v hv).1
    | 5, h => cases h; exact Or.inr ⟨by decide, _, _, rfl, xLl, fun j v q => by match j, q with | 0, q => cases q; exact ⟨_, _, _, rfl, fLv⟩ | 1, q => cases q; exact ⟨_, _, _, rfl, fLc⟩ | j + 2, q => cases q⟩
    | 6, h =>
      cases h
      refine Or.inr ⟨by decide, cL', AL, sl_eq sL fun j v q => ?_, by decide, fun v hv => ?_, fun u => absurd rfl u⟩
      · match j, q with
        | 0, q => cases q; exact g0
        | 1, q => cases q; exact g1
        | 2, q => cases q; exact g2
        | 3, q => cases q; exact g3
        | 4, q => cases q; exact g4
        | 5, q => cases q; exact g5
        | 6, q => cases q; exact g6
        | 7, q => cases q; exact g7
        | 8, q => cases q; exact g8
        | 9, q => cases q; exact g9
        | j + 10, q => cases q
      · exact (fit_of [108, 111, 103, 45, 100, 101, 103, 114, 101, 101] rfl v hv).1
    | 7, h => cases h; exact Or.inr ⟨by decide, _, _, rfl, xO, fun j v q => by match j, q with | 0, q => cases q; exact ⟨_, _, _, rfl, fO⟩ | j + 1, q => cases q⟩
    | 8, h => cases h; exact Or.inl rfl
    | 9, h => cases h; exact Or.inl rfl
    | 10, h => cases h; exact Or.inl rfl
    | 11, h => cases h; exact Or.inl rfl
    | 12, h => cases h; exact Or.inl rfl
    | 13, h => cases h; exact Or.inl rfl
    | 14, h => cases h; exact Or.inl rfl
    | 15, h => cases h; exact Or.inl rfl
    | 16, h => cases h; exact Or.inl rfl
    | 17, h => cases h; exact Or.inl rfl
    | 18, h => cases h; exact Or.inl rfl
    | 19, h => cases h; exact Or.inl rfl
    | 20, h => cases h; exact Or.inl rfl
    | 21, h => cases h; exact Or.inl rfl
    | 22, h => cases h; exact Or.inl rfl
    | 23, h => cases h; exact Or.inl rfl
    | 24, h => cases h; exact Or.inl rfl
    | k + 25, h => cases h
set_option maxRecDepth 65536 in
set_option maxHeartbeats 40000000 in
theorem comes_1 {Post : Tables → Env → Array Value → State → Outcome → State → Prop} (hpost : ∀ tb e args s v u, (limb_1_1.after args s (.returned v) u = true ∧ limb_1_2.after args s (.returned v) u = true ∧ True) → Jvm.D.FramedW s (.returned v) u (Jvm.fieldLocs frame_1_writes args s ++ Jvm.arrayLocs frame_1_arrays args s ++ Jvm.staticLocs frame_1_statics s) 32 4288 → Post tb e args s (.returned v) u) :
    ArmFor flags0 classFile x code maxLocals ret World_1 tables_1 room_1 Calls_1 rest_1 Pre_1 Post := by
  intro l hfl _ _ p e ha hc hk s m args below hf hA hF happ hP
  obtain ⟨hcalls, hrest, hpre⟩ := hP
  obtain ⟨-, -, -, hnamed, -, -, -, hat⟩ := (Spec.applies_iff hf).mp happ
  obtain ⟨hg, hn⟩ := and_e (Cond.before_iff.mp (show (Jvm.Cond.and given_1 narrow_1).before args s = true from hpre))
  obtain ⟨g0, g1⟩ := and_e hg
  obtain ⟨i1, g2⟩ := and_e g1
  obtain ⟨i2, g3⟩ := and_e g2
  obtain ⟨i3, g4⟩ := and_e g3
  obtain ⟨i4, g5⟩ := and_e g4
  obtain ⟨i5, g6⟩ := and_e g5
  obtain ⟨w0, w1, w2, w3, w4, w5, rfl⟩ : ∃ w0 w1 w2 w3 w4 w5 : Value, args = #[w0, w1, w2, w3, w4, w5] := by
    have hs : args.size = 6 := by simpa [Cond.value, given_1] using g0
    obtain ⟨L⟩ := args
    match L, hs with
    | [w0, w1, w2, w3, w4, w5], _ => exact ⟨w0, w1, w2, w3, w4, w5, rfl⟩
  have hw := fun d (hd : d ∈ tables_1) => atoms_spec (ws := Jvm.Cond.code x code maxLocals ret :: tables_1) hat d (List.mem_cons_of_mem _ hd)
  obtain ⟨v0, e0⟩ := is_v i1
  obtain rfl : w0 = (.int v0) := Option.some.inj e0
  obtain ⟨v1, e1⟩ := is_v i2
  obtain rfl : w1 = (.int v1) := Option.some.inj e1
  obtain ⟨v2, e2⟩ := is_v i3
  obtain rfl : w2 = (.int v2) := Option.some.inj e2
  obtain ⟨v3, e3⟩ := is_v i4
  obtain rfl : w3 = (.int v3) := Option.some.inj e3
  obtain ⟨v4, e4⟩ := is_v i5
  obtain rfl : w4 = (.int v4) := Option.some.inj e4
  obtain ⟨v5, e5⟩ := is_v g6
  obtain rfl : w5 = (.int v5) := Option.some.inj e5
  obtain ⟨w, vF, xs, hw0, hvF, hst, hch, hsg, hrep⟩ := start_ok hrest hn hcalls.1 hw
  obtain ⟨H', hv⟩ := law_val (w := w) (vF := vF) hw0 hvF v0 v1 v2 v3 v4 v5
  obtain ⟨n, o, h1, h2, h3, _, L, σ', rfl, rfl, -, -, -, -, N, hq⟩ := says0 (w := w) (vF := vF) l (Z := s) (n0 := s.heap.size) hw _ _ _ (sgx xs s.heap.size) hst hv p e ha hc hk s m _ below hf ((Spec.applies_iff_loose hf).mp happ).1 ⟨rfl, State.Warmed39.refl s, hch, hsg, hrep⟩ trivial
  refine ⟨n, _, h1, h2, h3, hpost _ _ _ _ _ _ ⟨Cond.after_iff.mpr rfl, Cond.after_iff.mpr (eq_i res_at (Term.int_eval (1)) rfl), trivial⟩ ⟨hq.1, hq.2.1, hq.2.2.1, (hq.2.2.2.sift fun y hy => Or.inr (N y hy)).mono (by decide) (by decide)⟩⟩
theorem main_1_1 : Claimed_1_1 := comes_1 fun _ _ _ _ _ _ h hF => ⟨h.1, hF⟩
theorem main_1_2 : Claimed_1_2 := comes_1 fun _ _ _ _ _ _ h hF => ⟨h.2.1, hF⟩
end Jvm.Pilot.@@N@@
namespace Jvm.Pilot.@@N@@
open Jvm Jvm.ClassFile Sem Op Lib Jvm.Free Jvm.Stand Jvm.Pilot.@@N@@.Jvm.D
/-! MADE BY PROGRAM (witnessworld.py) out of the Statement's table words and the real class files: 24 classes; the members and pool entries that the words name. The judged class is class 1, her method 1. -/
namespace start1
open Jvm.ClassFile
def u (s : String) : CpInfo := .utf8 (stringToUtf16 s)
/-- a pool by its gaps: so many unusable entries, then the entry; so many at the end -/
def gap : Nat → List CpInfo → List CpInfo
  | 0, r => r
  | n + 1, r => .unusable :: gap n r
def poolList (es : List (Nat × CpInfo)) (last : Nat) : List CpInfo := es.foldr (fun e r => gap e.1 (e.2 :: r)) (gap last [])
def pool (es : List (Nat × CpInfo)) (last : Nat) : Array CpInfo := ⟨poolList es last⟩
def fileOf (pool : Array CpInfo) (this : Nat) (attrs : Array Attribute := #[]) (ms : Array MethodInfo := #[]) (fl : Nat := 33) (sup : Nat := 0) (ifs : Array Nat := #[]) (fds : Array FieldInfo := #[]) : ClassFile where
  minorVersion := 0
  majorVersion := 65
  constantPool := pool
  accessFlags := fl
  thisClass := this
  superClass := sup
  interfaces := ifs
  fields := fds
  methods := ms
  attributes := attrs
def plain (name : String) (sup : Option ClassId) : Class where
  name := name
  kind := .ordinary
  loader := none
  accessFlags := 33
  super := sup
  interfaces := #[]
  cf := none
  fields := #[]
  methods := #[]
  instanceTypes := #[]
  staticTypes := #[]
  resolved := #[]
  callSites := []
  init := .initialized
  statics := none
  mirror := none

def pool0 : Array CpInfo := pool [(5, u "<init>"), (0, u "()V"), (1, .class_ 10), (1, u "java/lang/Object"), (85, u "clone"), (0, u "()Ljava/lang/Object;")] 26

def k0c0 : Code := { maxStack := 0, maxLocals := 1, code := object_method_1_code, exceptionTable := #[], attributes := #[] }
def k0m0 : Method := { name := "<init>", desc := "()V", sig := { parameters := [], returnType := none }, accessFlags := 1, code := some k0c0 }
def k0m1 : Method := { name := "clone", desc := "()Ljava/lang/Object;", sig := { parameters := [], returnType := some (.object "java/lang/Object") }, accessFlags := 260, code := none }
/-- java/lang/Object -/
def k0 : Class := { plain "java/lang/Object" none with
  accessFlags := 33
  interfaces := #[]
  cf := some (fileOf pool0 8 #[] #[{ accessFlags := 1, nameIndex := 5, descriptorIndex := 6, attributes := #[] }, { accessFlags := 260, nameIndex := 96, descriptorIndex := 97, attributes := #[] }] 33 0 #[] #[])
  fields := #[]
  methods := #[k0m0, k0m1]
  instanceTypes := #[]
  staticTypes := #[]
  resolved := Array.replicate 124 none
  statics := none }

def pool1 : Array CpInfo := pool [(2, .class_ 4), (1, u "java/lang/Object"), (0, u "<init>"), (0, u "()V"), (0, .integer 2147483647), (0, .string 9), (0, u "equal"), (0, .string 11), (0, u "log-degree"), (0, .string 13), (0, u ""), (0, .methodref 15 16), (0, .class_ 17), (0, .nameAndType 18 19), (0, u "java/lang/String"), (0, u "length"), (0, u "()I"), (0, .methodref 21 22), (0, .class_ 23), (0, .nameAndType 24 25), (0, u "com/example/mithi/mithi/importer/SchemeLabelledPinLaw"), (0, u "at"), (0, u "(Ljava/lang/String;IIII)C"), (0, .methodref 15 27), (0, .nameAndType 5 28), (0, u "([C)V"), (0, .methodref 15 30), (0, .nameAndType 31 32), (0, u "equals"), (0, u "(Ljava/lang/Object;)Z"), (0, .fieldref 34 35), (0, .class_ 36), (0, .nameAndType 37 38), (0, u "com/example/mithi/mithi/importer/EdgeWeighting$Scheme"), (0, u "EQUAL"), (0, u "Lcom/example/mithi/mithi/importer/EdgeWeighting$Scheme;"), (0, .fieldref 34 40), (0, .nameAndType 41 38), (0, u "LOG_DEGREE"), (0, .methodref 34 43), (0, .nameAndType 44 45), (0, u "labelled"), (0, u "(Ljava/lang/String;)Ljava/util/Optional;"), (0, .methodref 47 48), (0, .class_ 49), (0, .nameAndType 50 51), (0, u "java/util/Optional"), (0, u "isPresent"), (0, u "()Z"), (0, .methodref 47 53), (0, .nameAndType 54 55), (0, u "get"), (0, u "()Ljava/lang/Object;"), (0, .methodref 15 57), (0, .nameAndType 58 59), (0, u "charAt"), (0, u "(I)C"), (2, u "law"), (0, u "(IIIIII)Z")] 9

def k1m0 : Method := { name := "<init>", desc := "()V", sig := { parameters := [], returnType := none }, accessFlags := 1, code := none }
def k1c1 : Code := { maxStack := 7, maxLocals := 13, code := code, exceptionTable := #[], attributes := #[] }
def k1m1 : Method := { name := "law", desc := "(IIIIII)Z", sig := { parameters := [.int, .int, .int, .int, .int, .int], returnType := some .boolean }, accessFlags := 9, code := some k1c1 }
def k1c2 : Code := { maxStack := 3, maxLocals := 7, code := method_3_code, exceptionTable := #[], attributes := #[] }
def k1m2 : Method := { name := "at", desc := "(Ljava/lang/String;IIII)C", sig := { parameters := [(.object "java/lang/String"), .int, .int, .int, .int], returnType := some .char }, accessFlags := 10, code := some k1c2 }
/-- com/example/mithi/mithi/importer/SchemeLabelledPinLaw -/
def k1 : Class := { plain "com/example/mithi/mithi/importer/SchemeLabelledPinLaw" (some 0) with
  accessFlags := 49
  interfaces := #[]
  cf := some (fileOf pool1 21 #[] #[{ accessFlags := 1, nameIndex := 5, descriptorIndex := 6, attributes := #[] }, { accessFlags := 9, nameIndex := 62, descriptorIndex := 63, attributes := #[] }, { accessFlags := 10, nameIndex := 24, descriptorIndex := 25, attributes := #[] }] 49 2 #[] #[])
  fields := #[]
  methods := #[k1m0, k1m1, k1m2]
  instanceTypes := #[]
  staticTypes := #[]
  resolved := Array.replicate 73 none
  statics := none }

def pool2 : Array CpInfo := pool [(1, .class_ 2), (0, u "java/io/Serializable"), (0, .class_ 4), (0, u "java/lang/Object")] 2

/-- java/io/Serializable -/
def k2 : Class := { plain "java/io/Serializable" (some 0) with
  accessFlags := 1537
  interfaces := #[]
  cf := some (fileOf pool2 1 #[] #[] 1537 3 #[] #[])
  fields := #[]
  methods := #[]
  instanceTypes := #[]
  staticTypes := #[]
  resolved := Array.replicate 7 none
  statics := none }

def pool3 : Array CpInfo := pool [(1, .class_ 2), (0, u "java/lang/Comparable"), (0, .class_ 4), (0, u "java/lang/Object")] 7

/-- java/lang/Comparable -/
def k3 : Class := { plain "java/lang/Comparable" (some 0) with
  accessFlags := 1537
  interfaces := #[]
  cf := some (fileOf pool3 1 #[] #[] 1537 3 #[] #[])
  fields := #[]
  methods := #[]
  instanceTypes := #[]
  staticTypes := #[]
  resolved := Array.replicate 12 none
  statics := none }

def pool4 : Array CpInfo := pool [(2, .class_ 4), (1, u "java/lang/CharSequence"), (42, .class_ 48), (0, u "java/lang/CharSequence$1CodePointIterator"), (10, .class_ 60), (0, u "java/lang/CharSequence$1CharIterator"), (5, .class_ 67), (0, u "java/lang/Object")] 63

/-- java/lang/CharSequence -/
def k4 : Class := { plain "java/lang/CharSequence" (some 0) with
  accessFlags := 1537
  interfaces := #[]
  cf := some (fileOf pool4 2 #[.nestMembers #[47, 59]] #[] 1537 66 #[] #[])
  fields := #[]
  methods := #[]
  instanceTypes := #[]
  staticTypes := #[]
  resolved := Array.replicate 131 none
  statics := none }

def pool5 : Array CpInfo := pool [(1, .class_ 2), (0, u "java/lang/constant/Constable"), (0, .class_ 4), (0, u "java/lang/Object")] 6

/-- java/lang/constant/Constable -/
def k5 : Class := { plain "java/lang/constant/Constable" (some 0) with
  accessFlags := 1537
  interfaces := #[]
  cf := some (fileOf pool5 1 #[] #[] 1537 3 #[] #[])
  fields := #[]
  methods := #[]
  instanceTypes := #[]
  staticTypes := #[]
  resolved := Array.replicate 11 none
  statics := none }

def pool6 : Array CpInfo := pool [(1, .class_ 2), (0, u "java/lang/constant/ConstantDesc"), (0, .class_ 4), (0, u "java/lang/Object")] 32

/-- java/lang/constant/ConstantDesc -/
def k6 : Class := { plain "java/lang/constant/ConstantDesc" (some 0) with
  accessFlags := 1537
  interfaces := #[]
  cf := some (fileOf pool6 1 #[] #[] 1537 3 #[] #[])
  fields := #[]
  methods := #[]
  instanceTypes := #[]
  staticTypes := #[]
  resolved := Array.replicate 37 none
  statics := none }

def pool7 : Array CpInfo := pool [(1, .methodref 2 3), (0, .class_ 4), (0, .nameAndType 5 6), (0, u "java/lang/Object"), (0, u "<init>"), (0, u "()V"), (0, .string 8), (0, u ""), (0, .fieldref 10 11), (0, .class_ 12), (0, .nameAndType 13 14), (0, u "java/lang/String"), (0, u "value"), (0, u "[B"), (0, .fieldref 10 16), (0, .nameAndType 17 18), (0, u "coder"), (0, u "B"), (2, u "hash"), (0, u "I"), (2, u "hashIsZero"), (0, u "Z"), (0, .methodref 10 28), (0, .nameAndType 5 29), (0, u "([CIILjava/lang/Void;)V"), (8, .fieldref 10 39), (0, .nameAndType 40 26), (0, u "COMPACT_STRINGS"), (1, .class_ 44), (1, u "java/lang/StringUTF16"), (0, u "compress"), (1, .methodref 42 48), (0, .nameAndType 49 50), (0, u "coderFromArrayLen"), (0, u "([BI)B"), (56, .class_ 109), (1, u "java/lang/StringLatin1"), (32, u "()Z"), (34, .methodref 42 178), (0, .nameAndType 45 179), (0, u "([CII)[B"), (154, u "()I"), (0, .methodref 10 336), (0, .nameAndType 17 337), (0, u "()B"), (25, u "([BI)C"), (27, u "(II)V"), (35, u "(I)C"), (64, .methodref 10 493), (0, .nameAndType 494 142), (0, u "isLatin1"), (0, .methodref 107 496), (0, .nameAndType 497 363), (0, u "charAt"), (3, u "checkIndex"), (5, u "length"), (33, .methodref 107 542), (0, .nameAndType 543 544), (0, u "equals"), (0, u "([B[B)Z"), (28, u "(Ljava/lang/Object;)Z"), (1, .class_ 576), (0, u "java/lang/CharSequence"), (22, u "CASE_INSENSITIVE_ORDER"), (0, u "Ljava/util/Comparator;"), (409, u "([C)V"), (42, .fieldref 1054 1055), (0, .class_ 1056), (0, .nameAndType 1057 1058), (0, u "jdk/internal/util/Preconditions"), (0, u "SIOOBE_FORMATTER"), (0, u "Ljava/util/function/BiFunction;"), (0, .methodref 1054 1060), (0, .nameAndType 501 1061), (0, u "(IILjava/util/function/BiFunction;)I"), (39, u "serialPersistentFields"), (0, u "[Ljava/io/ObjectStreamField;"), (0, .class_ 1104), (0, u "java/lang/String$CaseInsensitiveComparator"), (1, .class_ 1107), (0, u "java/io/Serializable"), (0, .class_ 1109), (0, u "java/lang/Comparable"), (0, .class_ 1111), (0, u "java/lang/constant/Constable"), (0, .class_ 1113), (0, u "java/lang/constant/ConstantDesc"), (2, u "serialVersionUID"), (0, u "J"), (3, u "REPL"), (0, u "C"), (2, u "LATIN1"), (1, u "UTF16")] 323

def k7m0 : Method := { name := "<init>", desc := "()V", sig := { parameters := [], returnType := none }, accessFlags := 1, code := none }
def k7c1 : Code := { maxStack := 5, maxLocals := 2, code := jdk_42_method_3_code, exceptionTable := #[], attributes := #[] }
def k7m1 : Method := { name := "<init>", desc := "([C)V", sig := { parameters := [(.array .char)], returnType := none }, accessFlags := 1, code := some k7c1 }
def k7c2 : Code := { maxStack := 2, maxLocals := 1, code := jdk_42_method_54_code, exceptionTable := #[], attributes := #[] }
def k7m2 : Method := { name := "length", desc := "()I", sig := { parameters := [], returnType := some .int }, accessFlags := 1, code := some k7c2 }
def k7c3 : Code := { maxStack := 2, maxLocals := 2, code := jdk_42_method_56_code, exceptionTable := #[], attributes := #[] }
def k7m3 : Method := { name := "charAt", desc := "(I)C", sig := { parameters := [.int], returnType := some .char }, accessFlags := 1, code := some k7c3 }
def k7c4 : Code := { maxStack := 2, maxLocals := 3, code := jdk_42_method_66_code, exceptionTable := #[], attributes := #[] }
def k7m4 : Method := { name := "equals", desc := "(Ljava/lang/Object;)Z", sig := { parameters := [(.object "java/lang/Object")], returnType := some .boolean }, accessFlags := 1, code := some k7c4 }
def k7c5 : Code := { maxStack := 4, maxLocals := 6, code := jdk_42_method_149_code, exceptionTable := #[], attributes := #[] }
def k7m5 : Method := { name := "<init>", desc := "([CIILjava/lang/Void;)V", sig := { parameters := [(.array .char), .int, .int, (.object "java/lang/Void")], returnType := none }, accessFlags := 2, code := some k7c5 }
def k7c6 : Code := { maxStack := 1, maxLocals := 1, code := jdk_42_method_152_code, exceptionTable := #[], attributes := #[] }
def k7m6 : Method := { name := "coder", desc := "()B", sig := { parameters := [], returnType := some .byte }, accessFlags := 0, code := some k7c6 }
def k7c7 : Code := { maxStack := 1, maxLocals := 1, code := jdk_42_method_154_code, exceptionTable := #[], attributes := #[] }
def k7m7 : Method := { name := "isLatin1", desc := "()Z", sig := { parameters := [], returnType := some .boolean }, accessFlags := 0, code := some k7c7 }
def k7c8 : Code := { maxStack := 3, maxLocals := 2, code := jdk_42_method_155_code, exceptionTable := #[], attributes := #[] }
def k7m8 : Method := { name := "checkIndex", desc := "(II)V", sig := { parameters := [.int, .int], returnType := none }, accessFlags := 8, code := some k7c8 }
/-- java/lang/String -/
def k7 : Class := { plain "java/lang/String" (some 0) with
  accessFlags := 49
  interfaces := #[2, 3, 4, 5, 6]
  cf := some (fileOf pool7 10 #[.nestMembers #[1103]] #[{ accessFlags := 1, nameIndex := 5, descriptorIndex := 6, attributes := #[] }, { accessFlags := 1, nameIndex := 5, descriptorIndex := 1010, attributes := #[] }, { accessFlags := 1, nameIndex := 507, descriptorIndex := 334, attributes := #[] }, { accessFlags := 1, nameIndex := 497, descriptorIndex := 427, attributes := #[] }, { accessFlags := 1, nameIndex := 543, descriptorIndex := 573, attributes := #[] }, { accessFlags := 2, nameIndex := 5, descriptorIndex := 29, attributes := #[] }, { accessFlags := 0, nameIndex := 17, descriptorIndex := 337, attributes := #[] }, { accessFlags := 0, nameIndex := 494, descriptorIndex := 142, attributes := #[] }, { accessFlags := 8, nameIndex := 501, descriptorIndex := 391, attributes := #[] }] 49 2 #[1106, 1108, 575, 1110, 1112] #[{ accessFlags := 18, nameIndex := 13, descriptorIndex := 14, attributes := #[] }, { accessFlags := 18, nameIndex := 17, descriptorIndex := 18, attributes := #[] }, { accessFlags := 2, nameIndex := 21, descriptorIndex := 22, attributes := #[] }, { accessFlags := 2, nameIndex := 25, descriptorIndex := 26, attributes := #[] }, { accessFlags := 26, nameIndex := 1116, descriptorIndex := 1117, attributes := #[] }, { accessFlags := 24, nameIndex := 40, descriptorIndex := 26, attributes := #[] }, { accessFlags := 26, nameIndex := 1101, descriptorIndex := 1102, attributes := #[] }, { accessFlags := 26, nameIndex := 1121, descriptorIndex := 1122, attributes := #[] }, { accessFlags := 25, nameIndex := 599, descriptorIndex := 600, attributes := #[] }, { accessFlags := 24, nameIndex := 1125, descriptorIndex := 18, attributes := #[] }, { accessFlags := 24, nameIndex := 1127, descriptorIndex := 18, attributes := #[] }])
  fields := #[{ name := "value", type := (.array .byte), accessFlags := 18, slot := 0, constantValue := 0 }, { name := "coder", type := .byte, accessFlags := 18, slot := 1, constantValue := 0 }, { name := "hash", type := .int, accessFlags := 2, slot := 2, constantValue := 0 }, { name := "hashIsZero", type := .boolean, accessFlags := 2, slot := 3, constantValue := 0 }, { name := "serialVersionUID", type := .long, accessFlags := 26, slot := 0, constantValue := 0 }, { name := "COMPACT_STRINGS", type := .boolean, accessFlags := 24, slot := 1, constantValue := 0 }, { name := "serialPersistentFields", type := (.array (.object "java/io/ObjectStreamField")), accessFlags := 26, slot := 2, constantValue := 0 }, { name := "REPL", type := .char, accessFlags := 26, slot := 3, constantValue := 0 }, { name := "CASE_INSENSITIVE_ORDER", type := (.object "java/util/Comparator"), accessFlags := 25, slot := 4, constantValue := 0 }, { name := "LATIN1", type := .byte, accessFlags := 24, slot := 5, constantValue := 0 }, { name := "UTF16", type := .byte, accessFlags := 24, slot := 6, constantValue := 0 }]
  methods := #[k7m0, k7m1, k7m2, k7m3, k7m4, k7m5, k7m6, k7m7, k7m8]
  instanceTypes := #[(.array .byte), .byte, .int, .boolean]
  staticTypes := #[.long, .boolean, (.array (.object "java/io/ObjectStreamField")), .char, (.object "java/util/Comparator"), .byte, .byte]
  resolved := Array.replicate 1451 none
  statics := some 0 }

def pool8 : Array CpInfo := pool [(1, .class_ 2), (0, u "java/lang/String"), (1, .class_ 6), (1, u "java/lang/Object"), (0, u "<init>"), (0, u "()V"), (0, .methodref 1 10), (0, .nameAndType 11 12), (0, u "checkIndex"), (0, u "(II)V"), (1, .class_ 16), (1, u "java/lang/StringLatin1"), (36, u "([BI)C"), (67, u "$assertionsDisabled"), (0, u "Z"), (98, .class_ 223), (1, u "java/lang/StringLatin1$LinesSpliterator"), (28, u "charAt"), (28, u "equals"), (0, u "([B[B)Z"), (107, .class_ 391), (0, u "java/lang/StringLatin1$CharsSpliterator")] 3

def k8m0 : Method := { name := "<init>", desc := "()V", sig := { parameters := [], returnType := none }, accessFlags := 0, code := none }
def k8c1 : Code := { maxStack := 2, maxLocals := 2, code := jdk_43_method_2_code, exceptionTable := #[], attributes := #[] }
def k8m1 : Method := { name := "charAt", desc := "([BI)C", sig := { parameters := [(.array .byte), .int], returnType := some .char }, accessFlags := 9, code := some k8c1 }
def k8c2 : Code := { maxStack := 3, maxLocals := 3, code := jdk_43_method_13_code, exceptionTable := #[], attributes := #[] }
def k8m2 : Method := { name := "equals", desc := "([B[B)Z", sig := { parameters := [(.array .byte), (.array .byte)], returnType := some .boolean }, accessFlags := 9, code := some k8c2 }
/-- java/lang/StringLatin1 -/
def k8 : Class := { plain "java/lang/StringLatin1" (some 0) with
  accessFlags := 48
  interfaces := #[]
  cf := some (fileOf pool8 14 #[.nestMembers #[390, 221]] #[{ accessFlags := 0, nameIndex := 7, descriptorIndex := 8, attributes := #[] }, { accessFlags := 9, nameIndex := 252, descriptorIndex := 53, attributes := #[] }, { accessFlags := 9, nameIndex := 281, descriptorIndex := 282, attributes := #[] }] 48 4 #[] #[{ accessFlags := 4120, nameIndex := 121, descriptorIndex := 122, attributes := #[] }])
  fields := #[{ name := "$assertionsDisabled", type := .boolean, accessFlags := 4120, slot := 0, constantValue := 0 }]
  methods := #[k8m0, k8m1, k8m2]
  instanceTypes := #[]
  staticTypes := #[.boolean]
  resolved := Array.replicate 395 none
  statics := none }

def pool9 : Array CpInfo := pool [(2, .class_ 4), (1, u "java/lang/Object"), (0, u "<init>"), (0, u "()V"), (17, .class_ 26), (1, u "jdk/internal/util/Preconditions"), (6, u "checkIndex"), (21, .class_ 56), (0, u "jdk/internal/util/Preconditions$4"), (57, .class_ 115), (0, u "jdk/internal/util/Preconditions$1"), (7, u "SIOOBE_FORMATTER"), (0, u "Ljava/util/function/BiFunction;"), (0, .class_ 126), (0, u "jdk/internal/util/Preconditions$2"), (3, u "AIOOBE_FORMATTER"), (0, .class_ 132), (0, u "jdk/internal/util/Preconditions$3"), (3, u "IOOBE_FORMATTER"), (41, u "(IILjava/util/function/BiFunction;)I")] 15

def k9m0 : Method := { name := "<init>", desc := "()V", sig := { parameters := [], returnType := none }, accessFlags := 1, code := none }
def k9c1 : Code := { maxStack := 3, maxLocals := 3, code := jdk_41_method_11_code, exceptionTable := #[], attributes := #[] }
def k9m1 : Method := { name := "checkIndex", desc := "(IILjava/util/function/BiFunction;)I", sig := { parameters := [.int, .int, (.object "java/util/function/BiFunction")], returnType := some .int }, accessFlags := 9, code := some k9c1 }
/-- jdk/internal/util/Preconditions -/
def k9 : Class := { plain "jdk/internal/util/Preconditions" (some 0) with
  accessFlags := 33
  interfaces := #[]
  cf := some (fileOf pool9 24 #[.nestMembers #[55, 131, 125, 114]] #[{ accessFlags := 1, nameIndex := 5, descriptorIndex := 6, attributes := #[] }, { accessFlags := 9, nameIndex := 33, descriptorIndex := 178, attributes := #[] }] 33 2 #[] #[{ accessFlags := 25, nameIndex := 123, descriptorIndex := 124, attributes := #[] }, { accessFlags := 25, nameIndex := 130, descriptorIndex := 124, attributes := #[] }, { accessFlags := 25, nameIndex := 136, descriptorIndex := 124, attributes := #[] }])
  fields := #[{ name := "SIOOBE_FORMATTER", type := (.object "java/util/function/BiFunction"), accessFlags := 25, slot := 0, constantValue := 0 }, { name := "AIOOBE_FORMATTER", type := (.object "java/util/function/BiFunction"), accessFlags := 25, slot := 1, constantValue := 0 }, { name := "IOOBE_FORMATTER", type := (.object "java/util/function/BiFunction"), accessFlags := 25, slot := 2, constantValue := 0 }]
  methods := #[k9m0, k9m1]
  instanceTypes := #[]
  staticTypes := #[(.object "java/util/function/BiFunction"), (.object "java/util/function/BiFunction"), (.object "java/util/function/BiFunction")]
  resolved := Array.replicate 194 none
  statics := some 1 }

def pool10 : Array CpInfo := pool [(6, .class_ 8), (1, u "java/lang/Object"), (0, u "<init>"), (0, u "()V"), (1, .class_ 14), (1, u "java/lang/StringUTF16"), (31, u "$assertionsDisabled"), (0, u "Z"), (13, u "HI_BYTE_SHIFT"), (0, u "I"), (2, u "LO_BYTE_SHIFT"), (49, .methodref 12 116), (0, .nameAndType 117 118), (0, u "compress"), (0, u "([CI[BII)I"), (3, u "([CII)[B"), (138, u "coderFromArrayLen"), (0, u "([BI)B"), (106, .class_ 371), (1, u "java/lang/StringUTF16$LinesSpliterator"), (58, u "MAX_LENGTH"), (196, .class_ 628), (0, u "java/lang/StringUTF16$CodePointsSpliterator"), (0, .class_ 630), (0, u "java/lang/StringUTF16$CharsSpliterator")] 4

def k10m0 : Method := { name := "<init>", desc := "()V", sig := { parameters := [], returnType := none }, accessFlags := 0, code := none }
def k10c1 : Code := { maxStack := 2, maxLocals := 2, code := jdk_52_method_15_code, exceptionTable := #[], attributes := #[] }
def k10m1 : Method := { name := "coderFromArrayLen", desc := "([BI)B", sig := { parameters := [(.array .byte), .int], returnType := some .byte }, accessFlags := 8, code := some k10c1 }
def k10c2 : Code := { maxStack := 5, maxLocals := 6, code := jdk_52_method_16_code, exceptionTable := #[], attributes := #[] }
def k10m2 : Method := { name := "compress", desc := "([CII)[B", sig := { parameters := [(.array .char), .int, .int], returnType := some (.array .byte) }, accessFlags := 9, code := some k10c2 }
def k10c3 : Code := { maxStack := 3, maxLocals := 7, code := jdk_52_method_21_code, exceptionTable := #[], attributes := #[] }
def k10m3 : Method := { name := "compress", desc := "([CI[BII)I", sig := { parameters := [(.array .char), .int, (.array .byte), .int, .int], returnType := some .int }, accessFlags := 9, code := some k10c3 }
/-- java/lang/StringUTF16 -/
def k10 : Class := { plain "java/lang/StringUTF16" (some 0) with
  accessFlags := 48
  interfaces := #[]
  cf := some (fileOf pool10 12 #[.nestMembers #[627, 629, 369]] #[{ accessFlags := 0, nameIndex := 9, descriptorIndex := 10, attributes := #[] }, { accessFlags := 8, nameIndex := 261, descriptorIndex := 262, attributes := #[] }, { accessFlags := 9, nameIndex := 117, descriptorIndex := 122, attributes := #[] }, { accessFlags := 9, nameIndex := 117, descriptorIndex := 118, attributes := #[] }] 48 6 #[] #[{ accessFlags := 26, nameIndex := 61, descriptorIndex := 62, attributes := #[] }, { accessFlags := 26, nameIndex := 65, descriptorIndex := 62, attributes := #[] }, { accessFlags := 24, nameIndex := 430, descriptorIndex := 62, attributes := #[] }, { accessFlags := 4120, nameIndex := 46, descriptorIndex := 47, attributes := #[] }])
  fields := #[{ name := "HI_BYTE_SHIFT", type := .int, accessFlags := 26, slot := 0, constantValue := 0 }, { name := "LO_BYTE_SHIFT", type := .int, accessFlags := 26, slot := 1, constantValue := 0 }, { name := "MAX_LENGTH", type := .int, accessFlags := 24, slot := 2, constantValue := 0 }, { name := "$assertionsDisabled", type := .boolean, accessFlags := 4120, slot := 3, constantValue := 0 }]
  methods := #[k10m0, k10m1, k10m2, k10m3]
  instanceTypes := #[]
  staticTypes := #[.int, .int, .int, .boolean]
  resolved := Array.replicate 635 none
  statics := none }

def pool11 : Array CpInfo := pool [(2, .class_ 4), (1, u "java/lang/Enum"), (0, u "name"), (0, u "Ljava/lang/String;"), (2, u "ordinal"), (0, u "I"), (1, .class_ 14), (1, u "java/lang/Object"), (4, u "hash"), (86, .class_ 108), (1, u "java/lang/Enum$EnumDesc"), (2, .class_ 112), (0, u "java/lang/constant/Constable"), (0, .class_ 114), (0, u "java/lang/Comparable"), (0, .class_ 116), (0, u "java/io/Serializable")] 87

/-- java/lang/Enum -/
def k11 : Class := { plain "java/lang/Enum" (some 0) with
  accessFlags := 1057
  interfaces := #[5, 3, 2]
  cf := some (fileOf pool11 2 #[.nestMembers #[106]] #[] 1057 12 #[111, 113, 115] #[{ accessFlags := 18, nameIndex := 5, descriptorIndex := 6, attributes := #[] }, { accessFlags := 18, nameIndex := 9, descriptorIndex := 10, attributes := #[] }, { accessFlags := 2, nameIndex := 19, descriptorIndex := 10, attributes := #[] }])
  fields := #[{ name := "name", type := (.object "java/lang/String"), accessFlags := 18, slot := 0, constantValue := 0 }, { name := "ordinal", type := .int, accessFlags := 18, slot := 1, constantValue := 0 }, { name := "hash", type := .int, accessFlags := 2, slot := 2, constantValue := 0 }]
  methods := #[]
  instanceTypes := #[(.object "java/lang/String"), .int, .int]
  staticTypes := #[]
  resolved := Array.replicate 204 none
  statics := none }

def pool12 : Array CpInfo := pool [(1, .class_ 2), (0, u "com/example/mithi/mithi/importer/EdgeWeighting$Scheme"), (2, u "EQUAL"), (0, u "Lcom/example/mithi/mithi/importer/EdgeWeighting$Scheme;"), (2, u "LOG_DEGREE"), (0, .fieldref 1 11), (0, .nameAndType 12 13), (0, u "$VALUES"), (0, u "[Lcom/example/mithi/mithi/importer/EdgeWeighting$Scheme;"), (0, .methodref 15 16), (0, .class_ 13), (0, .nameAndType 17 18), (0, u "clone"), (0, u "()Ljava/lang/Object;"), (1, .class_ 22), (1, u "java/lang/Enum"), (6, .fieldref 1 30), (0, .nameAndType 31 32), (0, u "label"), (0, u "Ljava/lang/String;"), (0, .methodref 1 34), (0, .nameAndType 35 36), (0, u "values"), (0, u "()[Lcom/example/mithi/mithi/importer/EdgeWeighting$Scheme;"), (0, .methodref 38 39), (0, .class_ 40), (0, .nameAndType 41 42), (0, u "java/lang/String"), (0, u "equals"), (0, u "(Ljava/lang/Object;)Z"), (0, .methodref 44 45), (0, .class_ 46), (0, .nameAndType 47 48), (0, u "java/util/Optional"), (0, u "of"), (0, u "(Ljava/lang/Object;)Ljava/util/Optional;"), (0, .methodref 44 50), (0, .nameAndType 51 52), (0, u "empty"), (0, u "()Ljava/util/Optional;"), (19, u "labelled"), (0, u "(Ljava/lang/String;)Ljava/util/Optional;"), (8, .class_ 83), (0, u "com/example/mithi/mithi/importer/EdgeWeighting")] 2

def k12c0 : Code := { maxStack := 1, maxLocals := 0, code := prog_8_method_1_code, exceptionTable := #[], attributes := #[] }
def k12m0 : Method := { name := "values", desc := "()[Lcom/example/mithi/mithi/importer/EdgeWeighting$Scheme;", sig := { parameters := [], returnType := some (.array (.object "com/example/mithi/mithi/importer/EdgeWeighting$Scheme")) }, accessFlags := 9, code := some k12c0 }
def k12c1 : Code := { maxStack := 2, maxLocals := 5, code := prog_8_method_5_code, exceptionTable := #[], attributes := #[] }
def k12m1 : Method := { name := "labelled", desc := "(Ljava/lang/String;)Ljava/util/Optional;", sig := { parameters := [(.object "java/lang/String")], returnType := some (.object "java/util/Optional") }, accessFlags := 9, code := some k12c1 }
/-- com/example/mithi/mithi/importer/EdgeWeighting$Scheme -/
def k12 : Class := { plain "com/example/mithi/mithi/importer/EdgeWeighting$Scheme" (some 11) with
  accessFlags := 16433
  interfaces := #[]
  cf := some (fileOf pool12 1 #[.nestHost 82] #[{ accessFlags := 9, nameIndex := 35, descriptorIndex := 36, attributes := #[] }, { accessFlags := 9, nameIndex := 72, descriptorIndex := 73, attributes := #[] }] 16433 20 #[] #[{ accessFlags := 16409, nameIndex := 5, descriptorIndex := 6, attributes := #[] }, { accessFlags := 16409, nameIndex := 9, descriptorIndex := 6, attributes := #[] }, { accessFlags := 18, nameIndex := 31, descriptorIndex := 32, attributes := #[] }, { accessFlags := 4122, nameIndex := 12, descriptorIndex := 13, attributes := #[] }])
  fields := #[{ name := "EQUAL", type := (.object "com/example/mithi/mithi/importer/EdgeWeighting$Scheme"), accessFlags := 16409, slot := 0, constantValue := 0 }, { name := "LOG_DEGREE", type := (.object "com/example/mithi/mithi/importer/EdgeWeighting$Scheme"), accessFlags := 16409, slot := 1, constantValue := 0 }, { name := "label", type := (.object "java/lang/String"), accessFlags := 18, slot := 3, constantValue := 0 }, { name := "$VALUES", type := (.array (.object "com/example/mithi/mithi/importer/EdgeWeighting$Scheme")), accessFlags := 4122, slot := 2, constantValue := 0 }]
  methods := #[k12m0, k12m1]
  instanceTypes := #[(.object "java/lang/String"), .int, .int, (.object "java/lang/String")]
  staticTypes := #[(.object "com/example/mithi/mithi/importer/EdgeWeighting$Scheme"), (.object "com/example/mithi/mithi/importer/EdgeWeighting$Scheme"), (.array (.object "com/example/mithi/mithi/importer/EdgeWeighting$Scheme"))]
  resolved := Array.replicate 86 none
  statics := some 2 }

def pool13 : Array CpInfo := pool [(1, .class_ 2), (0, u "java/lang/Cloneable"), (0, .class_ 4), (0, u "java/lang/Object")] 2

/-- java/lang/Cloneable -/
def k13 : Class := { plain "java/lang/Cloneable" (some 0) with
  accessFlags := 1537
  interfaces := #[]
  cf := some (fileOf pool13 1 #[] #[] 1537 3 #[] #[])
  fields := #[]
  methods := #[]
  instanceTypes := #[]
  staticTypes := #[]
  resolved := Array.replicate 7 none
  statics := none }

def pool14 : Array CpInfo := pool [(1, .fieldref 2 3), (0, .class_ 4), (0, .nameAndType 5 6), (0, u "java/util/Optional"), (0, u "EMPTY"), (0, u "Ljava/util/Optional;"), (0, .methodref 8 9), (0, .class_ 10), (0, .nameAndType 11 12), (0, u "java/lang/Object"), (0, u "<init>"), (0, u "()V"), (0, .fieldref 2 14), (0, .nameAndType 15 16), (0, u "value"), (0, u "Ljava/lang/Object;"), (0, .methodref 18 19), (0, .class_ 20), (0, .nameAndType 21 22), (0, u "java/util/Objects"), (0, u "requireNonNull"), (0, u "(Ljava/lang/Object;)Ljava/lang/Object;"), (0, .methodref 2 24), (0, .nameAndType 11 25), (0, u "(Ljava/lang/Object;)V"), (20, u "()Z"), (8, u "empty"), (0, u "()Ljava/util/Optional;"), (8, u "(Ljava/lang/Object;)Ljava/util/Optional;"), (2, u "isPresent"), (4, u "get"), (0, u "()Ljava/lang/Object;"), (7, u "of")] 104

def k14c0 : Code := { maxStack := 1, maxLocals := 1, code := jdk_32_method_1_code, exceptionTable := #[], attributes := #[] }
def k14m0 : Method := { name := "empty", desc := "()Ljava/util/Optional;", sig := { parameters := [], returnType := some (.object "java/util/Optional") }, accessFlags := 9, code := some k14c0 }
def k14c1 : Code := { maxStack := 2, maxLocals := 2, code := jdk_32_method_2_code, exceptionTable := #[], attributes := #[] }
def k14m1 : Method := { name := "<init>", desc := "(Ljava/lang/Object;)V", sig := { parameters := [(.object "java/lang/Object")], returnType := none }, accessFlags := 2, code := some k14c1 }
def k14c2 : Code := { maxStack := 3, maxLocals := 1, code := jdk_32_method_3_code, exceptionTable := #[], attributes := #[] }
def k14m2 : Method := { name := "of", desc := "(Ljava/lang/Object;)Ljava/util/Optional;", sig := { parameters := [(.object "java/lang/Object")], returnType := some (.object "java/util/Optional") }, accessFlags := 9, code := some k14c2 }
def k14c3 : Code := { maxStack := 3, maxLocals := 1, code := jdk_32_method_5_code, exceptionTable := #[], attributes := #[] }
def k14m3 : Method := { name := "get", desc := "()Ljava/lang/Object;", sig := { parameters := [], returnType := some (.object "java/lang/Object") }, accessFlags := 1, code := some k14c3 }
def k14c4 : Code := { maxStack := 1, maxLocals := 1, code := jdk_32_method_6_code, exceptionTable := #[], attributes := #[] }
def k14m4 : Method := { name := "isPresent", desc := "()Z", sig := { parameters := [], returnType := some .boolean }, accessFlags := 1, code := some k14c4 }
/-- java/util/Optional -/
def k14 : Class := { plain "java/util/Optional" (some 0) with
  accessFlags := 49
  interfaces := #[]
  cf := some (fileOf pool14 2 #[] #[{ accessFlags := 9, nameIndex := 55, descriptorIndex := 56, attributes := #[] }, { accessFlags := 2, nameIndex := 11, descriptorIndex := 25, attributes := #[] }, { accessFlags := 9, nameIndex := 82, descriptorIndex := 65, attributes := #[] }, { accessFlags := 1, nameIndex := 73, descriptorIndex := 74, attributes := #[] }, { accessFlags := 1, nameIndex := 68, descriptorIndex := 46, attributes := #[] }] 49 8 #[] #[{ accessFlags := 26, nameIndex := 5, descriptorIndex := 6, attributes := #[] }, { accessFlags := 18, nameIndex := 15, descriptorIndex := 16, attributes := #[] }])
  fields := #[{ name := "EMPTY", type := (.object "java/util/Optional"), accessFlags := 26, slot := 0, constantValue := 0 }, { name := "value", type := (.object "java/lang/Object"), accessFlags := 18, slot := 0, constantValue := 0 }]
  methods := #[k14m0, k14m1, k14m2, k14m3, k14m4]
  instanceTypes := #[(.object "java/lang/Object")]
  staticTypes := #[(.object "java/util/Optional")]
  resolved := Array.replicate 187 none
  statics := some 3 }

def pool15 : Array CpInfo := pool [(2, .class_ 4), (1, u "java/lang/Object"), (0, u "<init>"), (0, u "()V"), (35, .class_ 44), (1, u "java/util/Objects"), (0, u "requireNonNull"), (0, u "(Ljava/lang/Object;)Ljava/lang/Object;")] 137

def k15m0 : Method := { name := "<init>", desc := "()V", sig := { parameters := [], returnType := none }, accessFlags := 2, code := none }
def k15c1 : Code := { maxStack := 2, maxLocals := 1, code := jdk_31_method_10_code, exceptionTable := #[], attributes := #[] }
def k15m1 : Method := { name := "requireNonNull", desc := "(Ljava/lang/Object;)Ljava/lang/Object;", sig := { parameters := [(.object "java/lang/Object")], returnType := some (.object "java/lang/Object") }, accessFlags := 9, code := some k15c1 }
/-- java/util/Objects -/
def k15 : Class := { plain "java/util/Objects" (some 0) with
  accessFlags := 49
  interfaces := #[]
  cf := some (fileOf pool15 42 #[] #[{ accessFlags := 2, nameIndex := 5, descriptorIndex := 6, attributes := #[] }, { accessFlags := 9, nameIndex := 45, descriptorIndex := 46, attributes := #[] }] 49 2 #[] #[])
  fields := #[]
  methods := #[k15m0, k15m1]
  instanceTypes := #[]
  staticTypes := #[]
  resolved := Array.replicate 184 none
  statics := none }

def pool16 : Array CpInfo := pool [(9, u "<init>"), (6, .class_ 18), (1, u "java/lang/Object"), (0, u "()V"), (1, .class_ 23), (1, u "jdk/internal/util/ArraysSupport"), (0, u "LOG2_ARRAY_LONG_INDEX_SCALE"), (0, u "I"), (2, u "U"), (0, u "Ljdk/internal/misc/Unsafe;"), (8, u "BIG_ENDIAN"), (0, u "Z"), (8, u "LOG2_BYTE_BIT_SIZE"), (4, u "LOG2_ARRAY_INT_INDEX_SCALE"), (54, u "JLA"), (0, u "Ljdk/internal/access/JavaLangAccess;"), (11, u "LOG2_ARRAY_BOOLEAN_INDEX_SCALE"), (9, u "LOG2_ARRAY_BYTE_INDEX_SCALE"), (5, u "LOG2_ARRAY_CHAR_INDEX_SCALE"), (5, u "LOG2_ARRAY_SHORT_INDEX_SCALE"), (18, u "LOG2_ARRAY_FLOAT_INDEX_SCALE"), (24, u "LOG2_ARRAY_DOUBLE_INDEX_SCALE"), (89, u "T_BOOLEAN"), (2, u "T_CHAR"), (1, u "T_FLOAT"), (1, u "T_DOUBLE"), (1, u "T_BYTE"), (1, u "T_SHORT"), (1, u "T_INT"), (1, u "T_LONG"), (1, u "SOFT_MAX_ARRAY_LENGTH")] 83

def k16m0 : Method := { name := "<init>", desc := "()V", sig := { parameters := [], returnType := none }, accessFlags := 2, code := none }
/-- jdk/internal/util/ArraysSupport -/
def k16 : Class := { plain "jdk/internal/util/ArraysSupport" (some 0) with
  accessFlags := 33
  interfaces := #[]
  cf := some (fileOf pool16 21 #[] #[{ accessFlags := 2, nameIndex := 9, descriptorIndex := 19, attributes := #[] }] 33 16 #[] #[{ accessFlags := 24, nameIndex := 28, descriptorIndex := 29, attributes := #[] }, { accessFlags := 26, nameIndex := 38, descriptorIndex := 39, attributes := #[] }, { accessFlags := 25, nameIndex := 121, descriptorIndex := 25, attributes := #[] }, { accessFlags := 25, nameIndex := 131, descriptorIndex := 25, attributes := #[] }, { accessFlags := 25, nameIndex := 137, descriptorIndex := 25, attributes := #[] }, { accessFlags := 25, nameIndex := 143, descriptorIndex := 25, attributes := #[] }, { accessFlags := 25, nameIndex := 53, descriptorIndex := 25, attributes := #[] }, { accessFlags := 25, nameIndex := 24, descriptorIndex := 25, attributes := #[] }, { accessFlags := 25, nameIndex := 162, descriptorIndex := 25, attributes := #[] }, { accessFlags := 25, nameIndex := 187, descriptorIndex := 25, attributes := #[] }, { accessFlags := 26, nameIndex := 48, descriptorIndex := 25, attributes := #[] }, { accessFlags := 25, nameIndex := 277, descriptorIndex := 25, attributes := #[] }, { accessFlags := 25, nameIndex := 280, descriptorIndex := 25, attributes := #[] }, { accessFlags := 25, nameIndex := 282, descriptorIndex := 25, attributes := #[] }, { accessFlags := 25, nameIndex := 284, descriptorIndex := 25, attributes := #[] }, { accessFlags := 25, nameIndex := 286, descriptorIndex := 25, attributes := #[] }, { accessFlags := 25, nameIndex := 288, descriptorIndex := 25, attributes := #[] }, { accessFlags := 25, nameIndex := 290, descriptorIndex := 25, attributes := #[] }, { accessFlags := 25, nameIndex := 292, descriptorIndex := 25, attributes := #[] }, { accessFlags := 26, nameIndex := 108, descriptorIndex := 109, attributes := #[] }, { accessFlags := 25, nameIndex := 294, descriptorIndex := 25, attributes := #[] }])
  fields := #[{ name := "U", type := (.object "jdk/internal/misc/Unsafe"), accessFlags := 24, slot := 0, constantValue := 0 }, { name := "BIG_ENDIAN", type := .boolean, accessFlags := 26, slot := 1, constantValue := 0 }, { name := "LOG2_ARRAY_BOOLEAN_INDEX_SCALE", type := .int, accessFlags := 25, slot := 2, constantValue := 0 }, { name := "LOG2_ARRAY_BYTE_INDEX_SCALE", type := .int, accessFlags := 25, slot := 3, constantValue := 0 }, { name := "LOG2_ARRAY_CHAR_INDEX_SCALE", type := .int, accessFlags := 25, slot := 4, constantValue := 0 }, { name := "LOG2_ARRAY_SHORT_INDEX_SCALE", type := .int, accessFlags := 25, slot := 5, constantValue := 0 }, { name := "LOG2_ARRAY_INT_INDEX_SCALE", type := .int, accessFlags := 25, slot := 6, constantValue := 0 }, { name := "LOG2_ARRAY_LONG_INDEX_SCALE", type := .int, accessFlags := 25, slot := 7, constantValue := 0 }, { name := "LOG2_ARRAY_FLOAT_INDEX_SCALE", type := .int, accessFlags := 25, slot := 8, constantValue := 0 }, { name := "LOG2_ARRAY_DOUBLE_INDEX_SCALE", type := .int, accessFlags := 25, slot := 9, constantValue := 0 }, { name := "LOG2_BYTE_BIT_SIZE", type := .int, accessFlags := 26, slot := 10, constantValue := 0 }, { name := "T_BOOLEAN", type := .int, accessFlags := 25, slot := 11, constantValue := 0 }, { name := "T_CHAR", type := .int, accessFlags := 25, slot := 12, constantValue := 0 }, { name := "T_FLOAT", type := .int, accessFlags := 25, slot := 13, constantValue := 0 }, { name := "T_DOUBLE", type := .int, accessFlags := 25, slot := 14, constantValue := 0 }, { name := "T_BYTE", type := .int, accessFlags := 25, slot := 15, constantValue := 0 }, { name := "T_SHORT", type := .int, accessFlags := 25, slot := 16, constantValue := 0 }, { name := "T_INT", type := .int, accessFlags := 25, slot := 17, constantValue := 0 }, { name := "T_LONG", type := .int, accessFlags := 25, slot := 18, constantValue := 0 }, { name := "JLA", type := (.object "jdk/internal/access/JavaLangAccess"), accessFlags := 26, slot := 19, constantValue := 0 }, { name := "SOFT_MAX_ARRAY_LENGTH", type := .int, accessFlags := 25, slot := 20, constantValue := 0 }]
  methods := #[k16m0]
  instanceTypes := #[]
  staticTypes := #[(.object "jdk/internal/misc/Unsafe"), .boolean, .int, .int, .int, .int, .int, .int, .int, .int, .int, .int, .int, .int, .int, .int, .int, .int, .int, (.object "jdk/internal/access/JavaLangAccess"), .int]
  resolved := Array.replicate 378 none
  statics := none }

/-- the primitive byte -/
def k17 : Class := { plain "byte" none with kind := .primitive 'B', accessFlags := 0x411 }
/-- [B -/
def k18 : Class := { plain "[B" (some 0) with kind := .array 17 .byte, interfaces := #[13, 2], accessFlags := 1041 }

/-- the primitive char -/
def k19 : Class := { plain "char" none with kind := .primitive 'C', accessFlags := 0x411 }
/-- [C -/
def k20 : Class := { plain "[C" (some 0) with kind := .array 19 .char, interfaces := #[13, 2], accessFlags := 1041 }

/-- the primitive int -/
def k21 : Class := { plain "int" none with kind := .primitive 'I', accessFlags := 0x411 }
/-- [I -/
def k22 : Class := { plain "[I" (some 0) with kind := .array 21 .int, interfaces := #[13, 2], accessFlags := 1041 }

/-- [Lcom/example/mithi/mithi/importer/EdgeWeighting$Scheme; -/
def k23 : Class := { plain "[Lcom/example/mithi/mithi/importer/EdgeWeighting$Scheme;" (some 0) with kind := .array 12 (.object "com/example/mithi/mithi/importer/EdgeWeighting$Scheme"), interfaces := #[13, 2], accessFlags := 1041 }

def heap : Heap := #[{ cls := 7, slots := #[.long 0, .int 1, .null, .int 0, .null, .int 0, .int 0], vm := .statics 7 },
  { cls := 9, slots := #[.null, .null, .null], vm := .statics 9 },
  { cls := 12, slots := #[.ref 5, .ref 6, .ref 4], vm := .statics 12 },
  { cls := 14, slots := #[.ref 11], vm := .statics 14 },
  { cls := 23, slots := #[.ref 5, .ref 6], vm := .none },
  { cls := 12, slots := #[.null, .int 0, .int 0, .ref 7], vm := .none },
  { cls := 12, slots := #[.null, .int 1, .int 0, .ref 9], vm := .none },
  { cls := 7, slots := #[.ref 8, .int 0, .int 0, .int 0], vm := .none },
  { cls := 18, slots := #[.int 101, .int 113, .int 117, .int 97, .int 108], vm := .none },
  { cls := 7, slots := #[.ref 10, .int 0, .int 0, .int 0], vm := .none },
  { cls := 18, slots := #[.int 108, .int 111, .int 103, .int 45, .int 100, .int 101, .int 103, .int 114, .int 101, .int 101], vm := .none },
  { cls := 14, slots := #[.null], vm := .none }]
def classes : Array Class := #[k0, k1, k2, k3, k4, k5, k6, k7, k8, k9, k10, k11, k12, k13, k14, k15, k16, k17, k18, k19, k20, k21, k22, k23]
def interned : List (Array UInt16 × Addr) := []
def slotsUsed : Nat := 48
def theMethod : MethodId := ⟨1, 1⟩
def args0 : Array Value := #[.int 0, .int 0, .int 0, .int 0, .int 0, .int 0]
def aboutOver (below : List Frame) : State where
  vm := { classes := classes, interned := interned.toArray }
  heap := heap
  slotsUsed := slotsUsed
  threads := #[{ frames := .invoking theMethod args0 :: below }]
def below0 : List Frame := [.native { method := ⟨0, 0⟩, args := #[] }]
def about1 : State := aboutOver below0
def p0 : Program := .bare "" "" ""
def e0 : Env := launch0.env 0 0 0
theorem w_frames : about1.frames = Frame.invoking theMethod args0 :: below0 := rfl
set_option maxRecDepth 65536 in
theorem w_args : argsFit about1.vm theMethod args0 = true := by decide +kernel
set_option maxRecDepth 65536 in
theorem w_heap : heapFits about1 = true := by decide +kernel
set_option maxRecDepth 65536 in
theorem w_runnable : about1.curStatus? = some .runnable := by decide +kernel
set_option maxRecDepth 65536 in
theorem w_alone : about1.alone = true := by decide +kernel
set_option maxRecDepth 65536 in
theorem w_named : about1.methodNamed? x = some theMethod := by decide +kernel
set_option maxRecDepth 65536 in
theorem w_hears : about1.hears theMethod below0 = true := by decide +kernel
set_option maxRecDepth 65536 in
theorem w_ripe : about1.ripe theMethod args0 below0 = true := by decide +kernel
theorem w_running : about1.status = .running := rfl
set_option maxRecDepth 65536 in
theorem w_room : about1.hasRoom e0.platform room_1 = true :=
  launch0.hasRoom_least _ room_1 (by decide +kernel) (by decide +kernel) (by decide +kernel) (by decide +kernel) (by decide +kernel) (by decide +kernel)
theorem allAtoms_all (ts : List Jvm.Cond) (a : Array Jvm.Value) (st : Jvm.State) : (allAtoms ts).before a st = ts.all (fun c => c.before a st) := by
  induction ts with
  | nil => rfl
  | cons c t ih =>
    show (Jvm.Cond.and c (allAtoms t)).before a st = _
    rw [Jvm.Cond.before_and, ih, List.all_cons]
def words1 : List Jvm.Cond := Jvm.Cond.code x code maxLocals ret :: tables_1
/-- a 'code' word, met by the world's own term for the bytes: nothing is compared byte by byte -/
theorem code_word {y : MethodName} {bytes : ByteArray} {mx : Nat} {rt : Option FieldType} {a : Array Value} {s : State} {m : MethodId} {meth : Method} {c : Code} (h1 : s.methodNamed? y = some m) (h2 : s.vm.method? m = some meth) (h3 : meth.code = some c) (h4 : c.code = bytes)
    (h5 : (c.maxLocals == mx && c.exceptionTable.isEmpty && decide (c.maxStack ≤ mostOperands) && decide (meth.sig.returnType = rt) && !meth.locks && decide (parseMethodDescriptor y.desc = some meth.sig)) = true) : (Jvm.Cond.code y bytes mx rt).before a s = true := by
  simp only [Bool.and_eq_true, beq_iff_eq, Bool.not_eq_true', decide_eq_true_eq] at h5
  obtain ⟨⟨⟨⟨⟨g1, g2⟩, g3⟩, g4⟩, g5⟩, g6⟩ := h5
  simp [Cond.before, Cond.holds, Cond.value, h1, h2, h3, h4, g1, g2, g3, g4, g5, g6]
def isCode : Jvm.Cond → Bool
  | .code _ _ _ _ => true
  | _ => false
theorem all_split {L : List Jvm.Cond} {P : Jvm.Cond → Bool} (h1 : L.all (fun c => isCode c || P c) = true) (h2 : ∀ c ∈ L.filter isCode, P c = true) : L.all P = true := by
  refine List.all_eq_true.mpr fun c hc => ?_
  have h := List.all_eq_true.mp h1 c hc
  rcases Bool.eq_false_or_eq_true (isCode c) with hi | hi
  · exact h2 c (List.mem_filter.mpr ⟨hc, hi⟩)
  · simpa [hi] using h
set_option maxRecDepth 65536 in
theorem w_c0 : (Jvm.Cond.code x code maxLocals ret).before args0 about1 = true := code_word (m := ⟨1, 1⟩) (meth := k1m1) (c := k1c1) (by decide +kernel) rfl rfl rfl (by decide +kernel)
set_option maxRecDepth 65536 in
theorem w_c1 : (Jvm.Cond.code ({ cls := "java/lang/String", name := "length", desc := "()I" } : Jvm.MethodName) jdk_42_method_54_code (1 : Nat) (Option.some Jvm.ClassFile.FieldType.int)).before args0 about1 = true := code_word (m := ⟨7, 2⟩) (meth := k7m2) (c := k7c2) (by decide +kernel) rfl rfl rfl (by decide +kernel)
set_option maxRecDepth 65536 in
theorem w_c2 : (Jvm.Cond.code ({ cls := "java/lang/String", name := "coder", desc := "()B" } : Jvm.MethodName) jdk_42_method_152_code (1 : Nat) (Option.some Jvm.ClassFile.FieldType.byte)).before args0 about1 = true := code_word (m := ⟨7, 6⟩) (meth := k7m6) (c := k7c6) (by decide +kernel) rfl rfl rfl (by decide +kernel)
set_option maxRecDepth 65536 in
theorem w_c3 : (Jvm.Cond.code ({ cls := "com/example/mithi/mithi/importer/SchemeLabelledPinLaw", name := "at", desc := "(Ljava/lang/String;IIII)C" } : Jvm.MethodName) method_3_code (7 : Nat) (Option.some Jvm.ClassFile.FieldType.char)).before args0 about1 = true := code_word (m := ⟨1, 2⟩) (meth := k1m2) (c := k1c2) (by decide +kernel) rfl rfl rfl (by decide +kernel)
set_option maxRecDepth 65536 in
theorem w_c4 : (Jvm.Cond.code ({ cls := "java/lang/String", name := "charAt", desc := "(I)C" } : Jvm.MethodName) jdk_42_method_56_code (2 : Nat) (Option.some Jvm.ClassFile.FieldType.char)).before args0 about1 = true := code_word (m := ⟨7, 3⟩) (meth := k7m3) (c := k7c3) (by decide +kernel) rfl rfl rfl (by decide +kernel)
set_option maxRecDepth 65536 in
theorem w_c5 : (Jvm.Cond.code ({ cls := "java/lang/String", name := "isLatin1", desc := "()Z" } : Jvm.MethodName) jdk_42_method_154_code (1 : Nat) (Option.some Jvm.ClassFile.FieldType.boolean)).before args0 about1 = true := code_word (m := ⟨7, 7⟩) (meth := k7m7) (c := k7c7) (by decide +kernel) rfl rfl rfl (by decide +kernel)
set_option maxRecDepth 65536 in
theorem w_c6 : (Jvm.Cond.code ({ cls := "java/lang/StringLatin1", name := "charAt", desc := "([BI)C" } : Jvm.MethodName) jdk_43_method_2_code (2 : Nat) (Option.some Jvm.ClassFile.FieldType.char)).before args0 about1 = true := code_word (m := ⟨8, 1⟩) (meth := k8m1) (c := k8c1) (by decide +kernel) rfl rfl rfl (by decide +kernel)
set_option maxRecDepth 65536 in
theorem w_c7 : (Jvm.Cond.code ({ cls := "java/lang/String", name := "checkIndex", desc := "(II)V" } : Jvm.MethodName) jdk_42_method_155_code (2 : Nat) (Option.none : Option Jvm.ClassFile.FieldType)).before args0 about1 = true := code_word (m := ⟨7, 8⟩) (meth := k7m8) (c := k7c8) (by decide +kernel) rfl rfl rfl (by decide +kernel)
set_option maxRecDepth 65536 in
theorem w_c8 : (Jvm.Cond.code ({ cls := "jdk/internal/util/Preconditions", name := "checkIndex", desc := "(IILjava/util/function/BiFunction;)I" } : Jvm.MethodName) jdk_41_method_11_code (3 : Nat) (Option.some Jvm.ClassFile.FieldType.int)).before args0 about1 = true := code_word (m := ⟨9, 1⟩) (meth := k9m1) (c := k9c1) (by decide +kernel) rfl rfl rfl (by decide +kernel)
set_option maxRecDepth 65536 in
theorem w_c9 : (Jvm.Cond.code ({ cls := "java/lang/String", name := "<init>", desc := "([C)V" } : Jvm.MethodName) jdk_42_method_3_code (2 : Nat) (Option.none : Option Jvm.ClassFile.FieldType)).before args0 about1 = true := code_word (m := ⟨7, 1⟩) (meth := k7m1) (c := k7c1) (by decide +kernel) rfl rfl rfl (by decide +kernel)
set_option maxRecDepth 65536 in
theorem w_c10 : (Jvm.Cond.code ({ cls := "java/lang/String", name := "<init>", desc := "([CIILjava/lang/Void;)V" } : Jvm.MethodName) jdk_42_method_149_code (6 : Nat) (Option.none : Option Jvm.ClassFile.FieldType)).before args0 about1 = true := code_word (m := ⟨7, 5⟩) (meth := k7m5) (c := k7c5) (by decide +kernel) rfl rfl rfl (by decide +kernel)
set_option maxRecDepth 65536 in
theorem w_c11 : (Jvm.Cond.code ({ cls := "java/lang/Object", name := "<init>", desc := "()V" } : Jvm.MethodName) object_method_1_code (1 : Nat) (Option.none : Option Jvm.ClassFile.FieldType)).before args0 about1 = true := code_word (m := ⟨0, 0⟩) (meth := k0m0) (c := k0c0) (by decide +kernel) rfl rfl rfl (by decide +kernel)
set_option maxRecDepth 65536 in
theorem w_c12 : (Jvm.Cond.code ({ cls := "java/lang/StringUTF16", name := "compress", desc := "([CII)[B" } : Jvm.MethodName) jdk_52_method_16_code (6 : Nat) (Option.some (Jvm.ClassFile.FieldType.array Jvm.ClassFile.FieldType.byte))).before args0 about1 = true := code_word (m := ⟨10, 2⟩) (meth := k10m2) (c := k10c2) (by decide +kernel) rfl rfl rfl (by decide +kernel)
set_option maxRecDepth 65536 in
theorem w_c13 : (Jvm.Cond.code ({ cls := "java/lang/StringUTF16", name := "compress", desc := "([CI[BII)I" } : Jvm.MethodName) jdk_52_method_21_code (7 : Nat) (Option.some Jvm.ClassFile.FieldType.int)).before args0 about1 = true := code_word (m := ⟨10, 3⟩) (meth := k10m3) (c := k10c3) (by decide +kernel) rfl rfl rfl (by decide +kernel)
set_option maxRecDepth 65536 in
theorem w_c14 : (Jvm.Cond.code ({ cls := "java/lang/StringUTF16", name := "coderFromArrayLen", desc := "([BI)B" } : Jvm.MethodName) jdk_52_method_15_code (2 : Nat) (Option.some Jvm.ClassFile.FieldType.byte)).before args0 about1 = true := code_word (m := ⟨10, 1⟩) (meth := k10m1) (c := k10c1) (by decide +kernel) rfl rfl rfl (by decide +kernel)
set_option maxRecDepth 65536 in
theorem w_c15 : (Jvm.Cond.code ({ cls := "java/lang/String", name := "equals", desc := "(Ljava/lang/Object;)Z" } : Jvm.MethodName) jdk_42_method_66_code (3 : Nat) (Option.some Jvm.ClassFile.FieldType.boolean)).before args0 about1 = true := code_word (m := ⟨7, 4⟩) (meth := k7m4) (c := k7c4) (by decide +kernel) rfl rfl rfl (by decide +kernel)
set_option maxRecDepth 65536 in
theorem w_c16 : (Jvm.Cond.code ({ cls := "java/lang/StringLatin1", name := "equals", desc := "([B[B)Z" } : Jvm.MethodName) jdk_43_method_13_code (3 : Nat) (Option.some Jvm.ClassFile.FieldType.boolean)).before args0 about1 = true := code_word (m := ⟨8, 2⟩) (meth := k8m2) (c := k8c2) (by decide +kernel) rfl rfl rfl (by decide +kernel)
set_option maxRecDepth 65536 in
theorem w_c17 : (Jvm.Cond.code ({ cls := "com/example/mithi/mithi/importer/EdgeWeighting$Scheme", name := "labelled", desc := "(Ljava/lang/String;)Ljava/util/Optional;" } : Jvm.MethodName) prog_8_method_5_code (5 : Nat) (Option.some (Jvm.ClassFile.FieldType.object "java/util/Optional"))).before args0 about1 = true := code_word (m := ⟨12, 1⟩) (meth := k12m1) (c := k12c1) (by decide +kernel) rfl rfl rfl (by decide +kernel)
set_option maxRecDepth 65536 in
theorem w_c18 : (Jvm.Cond.code ({ cls := "com/example/mithi/mithi/importer/EdgeWeighting$Scheme", name := "values", desc := "()[Lcom/example/mithi/mithi/importer/EdgeWeighting$Scheme;" } : Jvm.MethodName) prog_8_method_1_code (0 : Nat) (Option.some (Jvm.ClassFile.FieldType.array (Jvm.ClassFile.FieldType.object "com/example/mithi/mithi/importer/EdgeWeighting$Scheme")))).before args0 about1 = true := code_word (m := ⟨12, 0⟩) (meth := k12m0) (c := k12c0) (by decide +kernel) rfl rfl rfl (by decide +kernel)
set_option maxRecDepth 65536 in
theorem w_c19 : (Jvm.Cond.code ({ cls := "java/util/Optional", name := "empty", desc := "()Ljava/util/Optional;" } : Jvm.MethodName) jdk_32_method_1_code (1 : Nat) (Option.some (Jvm.ClassFile.FieldType.object "java/util/Optional"))).before args0 about1 = true := code_word (m := ⟨14, 0⟩) (meth := k14m0) (c := k14c0) (by decide +kernel) rfl rfl rfl (by decide +kernel)
set_option maxRecDepth 65536 in
theorem w_c20 : (Jvm.Cond.code ({ cls := "java/util/Optional", name := "isPresent", desc := "()Z" } : Jvm.MethodName) jdk_32_method_6_code (1 : Nat) (Option.some Jvm.ClassFile.FieldType.boolean)).before args0 about1 = true := code_word (m := ⟨14, 4⟩) (meth := k14m4) (c := k14c4) (by decide +kernel) rfl rfl rfl (by decide +kernel)
set_option maxRecDepth 65536 in
theorem w_c21 : (Jvm.Cond.code ({ cls := "java/util/Optional", name := "of", desc := "(Ljava/lang/Object;)Ljava/util/Optional;" } : Jvm.MethodName) jdk_32_method_3_code (1 : Nat) (Option.some (Jvm.ClassFile.FieldType.object "java/util/Optional"))).before args0 about1 = true := code_word (m := ⟨14, 2⟩) (meth := k14m2) (c := k14c2) (by decide +kernel) rfl rfl rfl (by decide +kernel)
set_option maxRecDepth 65536 in
theorem w_c22 : (Jvm.Cond.code ({ cls := "java/util/Objects", name := "requireNonNull", desc := "(Ljava/lang/Object;)Ljava/lang/Object;" } : Jvm.MethodName) jdk_31_method_10_code (1 : Nat) (Option.some (Jvm.ClassFile.FieldType.object "java/lang/Object"))).before args0 about1 = true := code_word (m := ⟨15, 1⟩) (meth := k15m1) (c := k15c1) (by decide +kernel) rfl rfl rfl (by decide +kernel)
set_option maxRecDepth 65536 in
theorem w_c23 : (Jvm.Cond.code ({ cls := "java/util/Optional", name := "<init>", desc := "(Ljava/lang/Object;)V" } : Jvm.MethodName) jdk_32_method_2_code (2 : Nat) (Option.none : Option Jvm.ClassFile.FieldType)).before args0 about1 = true := code_word (m := ⟨14, 1⟩) (meth := k14m1) (c := k14c1) (by decide +kernel) rfl rfl rfl (by decide +kernel)
set_option maxRecDepth 65536 in
theorem w_c24 : (Jvm.Cond.code ({ cls := "java/util/Optional", name := "get", desc := "()Ljava/lang/Object;" } : Jvm.MethodName) jdk_32_method_5_code (1 : Nat) (Option.some (Jvm.ClassFile.FieldType.object "java/lang/Object"))).before args0 about1 = true := code_word (m := ⟨14, 3⟩) (meth := k14m3) (c := k14c3) (by decide +kernel) rfl rfl rfl (by decide +kernel)
def codes1 : List Jvm.Cond := [Jvm.Cond.code x code maxLocals ret, Jvm.Cond.code ({ cls := "java/lang/String", name := "length", desc := "()I" } : Jvm.MethodName) jdk_42_method_54_code (1 : Nat) (Option.some Jvm.ClassFile.FieldType.int), Jvm.Cond.code ({ cls := "java/lang/String", name := "coder", desc := "()B" } : Jvm.MethodName) jdk_42_method_152_code (1 : Nat) (Option.some Jvm.ClassFile.FieldType.byte), Jvm.Cond.code ({ cls := "com/example/mithi/mithi/importer/SchemeLabelledPinLaw", name := "at", desc := "(Ljava/lang/String;IIII)C" } : Jvm.MethodName) method_3_code (7 : Nat) (Option.some Jvm.ClassFile.FieldType.char), Jvm.Cond.code ({ cls := "java/lang/String", name := "charAt", desc := "(I)C" } : Jvm.MethodName) jdk_42_method_56_code (2 : Nat) (Option.some Jvm.ClassFile.FieldType.char), Jvm.Cond.code ({ cls := "java/lang/String", name := "isLatin1", desc := "()Z" } : Jvm.MethodName) jdk_42_method_154_code (1 : Nat) (Option.some Jvm.ClassFile.FieldType.boolean), Jvm.Cond.code ({ cls := "java/lang/StringLatin1", name := "charAt", desc := "([BI)C" } : Jvm.MethodName) jdk_43_method_2_code (2 : Nat) (Option.some Jvm.ClassFile.FieldType.char), Jvm.Cond.code ({ cls := "java/lang/String", name := "checkIndex", desc := "(II)V" } : Jvm.MethodName) jdk_42_method_155_code (2 : Nat) (Option.none : Option Jvm.ClassFile.FieldType), Jvm.Cond.code ({ cls := "jdk/internal/util/Preconditions", name := "checkIndex", desc := "(IILjava/util/function/BiFunction;)I" } : Jvm.MethodName) jdk_41_method_11_code (3 : Nat) (Option.some Jvm.ClassFile.FieldType.int), Jvm.Cond.code ({ cls := "java/lang/String", name := "<init>", desc := "([C)V" } : Jvm.MethodName) jdk_42_method_3_code (2 : Nat) (Option.none : Option Jvm.ClassFile.FieldType), Jvm.Cond.code ({ cls := "java/lang/String", name := "<init>", desc := "([CIILjava/lang/Void;)V" } : Jvm.MethodName) jdk_42_method_149_code (6 : Nat) (Option.none : Option Jvm.ClassFile.FieldType), Jvm.Cond.code ({ cls := "java/lang/Object", name := "<init>", desc := "()V" } : Jvm.MethodName) object_method_1_code (1 : Nat) (Option.none : Option Jvm.ClassFile.FieldType), Jvm.Cond.code ({ cls := "java/lang/StringUTF16", name := "compress", desc := "([CII)[B" } : Jvm.MethodName) jdk_52_method_16_code (6 : Nat) (Option.some (Jvm.ClassFile.FieldType.array Jvm.ClassFile.FieldType.byte)), Jvm.Cond.code ({ cls := "java/lang/StringUTF16", name := "compress", desc := "([CI[BII)I" } : Jvm.MethodName) jdk_52_method_21_code (7 : Nat) (Option.some Jvm.ClassFile.FieldType.int), Jvm.Cond.code ({ cls := "java/lang/StringUTF16", name := "coderFromArrayLen", desc := "([BI)B" } : Jvm.MethodName) jdk_52_method_15_code (2 : Nat) (Option.some Jvm.ClassFile.FieldType.byte), Jvm.Cond.code ({ cls := "java/lang/String", name := "equals", desc := "(Ljava/lang/Object;)Z" } : Jvm.MethodName) jdk_42_method_66_code (3 : Nat) (Option.some Jvm.ClassFile.FieldType.boolean), Jvm.Cond.code ({ cls := "java/lang/StringLatin1", name := "equals", desc := "([B[B)Z" } : Jvm.MethodName) jdk_43_method_13_code (3 : Nat) (Option.some Jvm.ClassFile.FieldType.boolean), Jvm.Cond.code ({ cls := "com/example/mithi/mithi/importer/EdgeWeighting$Scheme", name := "labelled", desc := "(Ljava/lang/String;)Ljava/util/Optional;" } : Jvm.MethodName) prog_8_method_5_code (5 : Nat) (Option.some (Jvm.ClassFile.FieldType.object "java/util/Optional")), Jvm.Cond.code ({ cls := "com/example/mithi/mithi/importer/EdgeWeighting$Scheme", name := "values", desc := "()[Lcom/example/mithi/mithi/importer/EdgeWeighting$Scheme;" } : Jvm.MethodName) prog_8_method_1_code (0 : Nat) (Option.some (Jvm.ClassFile.FieldType.array (Jvm.ClassFile.FieldType.object "com/example/mithi/mithi/importer/EdgeWeighting$Scheme"))), Jvm.Cond.code ({ cls := "java/util/Optional", name := "empty", desc := "()Ljava/util/Optional;" } : Jvm.MethodName) jdk_32_method_1_code (1 : Nat) (Option.some (Jvm.ClassFile.FieldType.object "java/util/Optional")), Jvm.Cond.code ({ cls := "java/util/Optional", name := "isPresent", desc := "()Z" } : Jvm.MethodName) jdk_32_method_6_code (1 : Nat) (Option.some Jvm.ClassFile.FieldType.boolean), Jvm.Cond.code ({ cls := "java/util/Optional", name := "of", desc := "(Ljava/lang/Object;)Ljava/util/Optional;" } : Jvm.MethodName) jdk_32_method_3_code (1 : Nat) (Option.some (Jvm.ClassFile.FieldType.object "java/util/Optional")), Jvm.Cond.code ({ cls := "java/util/Objects", name := "requireNonNull", desc := "(Ljava/lang/Object;)Ljava/lang/Object;" } : Jvm.MethodName) jdk_31_method_10_code (1 : Nat) (Option.some (Jvm.ClassFile.FieldType.object "java/lang/Object")), Jvm.Cond.code ({ cls := "java/util/Optional", name := "<init>", desc := "(Ljava/lang/Object;)V" } : Jvm.MethodName) jdk_32_method_2_code (2 : Nat) (Option.none : Option Jvm.ClassFile.FieldType), Jvm.Cond.code ({ cls := "java/util/Optional", name := "get", desc := "()Ljava/lang/Object;" } : Jvm.MethodName) jdk_32_method_5_code (1 : Nat) (Option.some (Jvm.ClassFile.FieldType.object "java/lang/Object"))]
set_option maxRecDepth 65536 in
theorem codes_eq : words1.filter isCode = codes1 := rfl
theorem w_codes : ∀ c ∈ words1.filter isCode, c.before args0 about1 = true := by
  rw [codes_eq]
  intro c hc
  simp only [codes1, List.mem_cons, List.not_mem_nil, or_false] at hc
  rcases hc with rfl | rfl | rfl | rfl | rfl | rfl | rfl | rfl | rfl | rfl | rfl | rfl | rfl | rfl | rfl | rfl | rfl | rfl | rfl | rfl | rfl | rfl | rfl | rfl | rfl
  · exact w_c0
  · exact w_c1
  · exact w_c2
  · exact w_c3
  · exact w_c4
  · exact w_c5
  · exact w_c6
  · exact w_c7
  · exact w_c8
  · exact w_c9
  · exact w_c10
  · exact w_c11
  · exact w_c12
  · exact w_c13
  · exact w_c14
  · exact w_c15
  · exact w_c16
  · exact w_c17
  · exact w_c18
  · exact w_c19
  · exact w_c20
  · exact w_c21
  · exact w_c22
  · exact w_c23
  · exact w_c24
set_option maxRecDepth 65536 in
theorem w_t1 : (words1.take 24).all (fun c => isCode c || c.before args0 about1) = true := by decide +kernel
set_option maxRecDepth 65536 in
theorem w_t2 : ((words1.drop 24).take 24).all (fun c => isCode c || c.before args0 about1) = true := by decide +kernel
set_option maxRecDepth 65536 in
theorem w_t3 : (((words1.drop 24).drop 24).take 24).all (fun c => isCode c || c.before args0 about1) = true := by decide +kernel
set_option maxRecDepth 65536 in
theorem w_t4 : ((((words1.drop 24).drop 24).drop 24).take 24).all (fun c => isCode c || c.before args0 about1) = true := by decide +kernel
set_option maxRecDepth 65536 in
theorem w_t5 : (((((words1.drop 24).drop 24).drop 24).drop 24).take 24).all (fun c => isCode c || c.before args0 about1) = true := by decide +kernel
set_option maxRecDepth 65536 in
theorem w_t6 : (((((words1.drop 24).drop 24).drop 24).drop 24).drop 24).all (fun c => isCode c || c.before args0 about1) = true := by decide +kernel
theorem w_tables : (allAtoms (Jvm.Cond.code x code maxLocals ret :: tables_1)).before args0 about1 = true := by
  rw [allAtoms_all]
  show words1.all (fun c => c.before args0 about1) = true
  refine all_split ?_ w_codes
  rw [← List.take_append_drop 24 words1, List.all_append, w_t1, ← List.take_append_drop 24 (words1.drop 24), List.all_append, w_t2, ← List.take_append_drop 24 ((words1.drop 24).drop 24), List.all_append, w_t3, ← List.take_append_drop 24 (((words1.drop 24).drop 24).drop 24), List.all_append, w_t4, ← List.take_append_drop 24 ((((words1.drop 24).drop 24).drop 24).drop 24), List.all_append, w_t5, w_t6]
  rfl
set_option maxRecDepth 65536 in
theorem w_rest : rest_1_c.before args0 about1 = true := by decide +kernel
set_option maxRecDepth 65536 in
theorem w_case : (Jvm.Cond.and given_1 narrow_1).before args0 about1 = true := by decide +kernel
set_option maxRecDepth 65536 in
theorem w_consts : constsHeld consts_1 about1 := Jvm.Lit.constsHeldB_iff.mp (by decide +kernel)
theorem w_applies : (headSpec (Jvm.Cond.code x code maxLocals ret :: tables_1) room_1).applies x e0.platform about1 = true :=
  (Spec.applies_iff w_frames).mpr ⟨w_running, w_runnable, w_alone, w_named, w_hears, w_ripe, w_room, w_tables⟩
theorem atStart : AtStart classFile x code maxLocals ret World_1 tables_1 room_1 Calls_1 rest_1 Pre_1 launch0 p0 e0 about1 theMethod args0 below0 :=
  ⟨lists_1, trivial, launch0.admits_env _ _ _, launch0.least_env, fairChoices_fair.cas, fairChoices_fair.clock, w_frames, w_args, w_heap, w_applies, ⟨w_consts, trivial⟩, w_rest, w_case⟩
end start1
theorem witness_1 : WitnessClaimed_1 := ⟨start1.p0, start1.e0, start1.about1, start1.theMethod, start1.args0, start1.below0, start1.atStart⟩
end Jvm.Pilot.@@N@@
