import JvmDerived
import JvmDerived.Pilot.@@N@@Statement
import JvmDerived.Pilot.@@N@@Code
set_option linter.unusedVariables false
set_option linter.unusedSimpArgs false
namespace Jvm.Own
open Sem ClassFile Op Lib Jvm.Stand Jvm.Free Jvm.LawKit Jvm.RoadKit
/-! ## 1. A machine over abstract states: refs are numbers of objects -/
abbrev Ob := Sum (Nat × List Value) (FieldType × List Value)
abbrev AH := List Ob
abbrev Act := List Value → AH → Nat → Nat → Option (List Value × AH × Nat × Nat)
abbrev St := Nat × List Slot × List Value × AH × Nat × Nat
abbrev ORes := Option Value × AH
def il : Instr → Nat
  | .aload _ | .astore _ | .iload _ | .istore _ | .lload _ | .lstore _ | .bipush _ | .ldc _ | .newarray _ => 2
  | .sipush _ | .iinc _ _ | .goto _ | .if_icmp _ _ | .ifCond _ _ | .if_acmp _ _ | .ifnull _ | .ifnonnull _ | .ldc_w _ | .ldc2_w _ | .getfield _ | .putfield _ | .getstatic _ | .putstatic _ | .new _ | .anewarray _ | .checkcast _ | .instanceof _ | .invokestatic _ | .invokespecial _ | .invokevirtual _ => 3
  | .invokeinterface _ _ => 5
  | _ => 1
def dec (code : ByteArray) (pc : Nat) : Option Instr :=
  match decode code pc with
  | .ok (i, len) => if len = il i then some i else none
  | .error _ => none
theorem dec_spec {code : ByteArray} {pc : Nat} {i : Instr} (h : dec code pc = some i) : decode code pc = .ok (i, il i) := by
  unfold dec at h
  split at h
  · rename_i j len hd
    split at h
    · rename_i hl; cases h; rw [hd, hl]
    · cases h
  · cases h
def gI (L : List Slot) (k : Nat) : Option Int32 := match L[k]? with | some (.val (.int v)) => some v | _ => none
def gL (L : List Slot) (k : Nat) : Option Int64 := match L[k]? with | some (.val (.long v)) => some v | _ => none
def gA (L : List Slot) (k : Nat) : Option Value := match L[k]? with | some (.val (.ref a)) => some (.ref a) | some (.val .null) => some .null | _ => none
def st1 (L : List Slot) (k : Nat) (v : Value) : Option (List Slot) := match L[k]? with
  | some .unset => some (L.set k (.val v))
  | some (.val (.int _)) => some (L.set k (.val v))
  | some (.val (.ref _)) => some (L.set k (.val v))
  | some (.val .null) => some (L.set k (.val v))
  | _ => none
def st2 (L : List Slot) (k : Nat) (x : Int64) : Option (List Slot) := match L[k]?, L[k + 1]? with
  | some .unset, some .unset => some ((L.set k (.val (.long x))).set (k + 1) .second)
  | some (.val (.long _)), some .second => some ((L.set k (.val (.long x))).set (k + 1) .second)
  | _, _ => none
def pI : List Value → (Int32 → List Value → Option ORes) → Option ORes | .int x :: r, f => f x r | _, _ => none
def pL : List Value → (Int64 → List Value → Option ORes) → Option ORes | .long x :: r, f => f x r | _, _ => none
def pA : List Value → (Value → List Value → Option ORes) → Option ORes | .ref a :: r, f => f (.ref a) r | .null :: r, f => f .null r | _, _ => none
def pR : List Value → (Nat → List Value → Option ORes) → Option ORes | .ref a :: r, f => f a r | _, _ => none
def p1 : List Value → (Value → List Value → Option ORes) → Option ORes | .int a :: r, f => f (.int a) r | .ref a :: r, f => f (.ref a) r | .null :: r, f => f .null r | _, _ => none
def br (b : Bool) (pc : Nat) (o : Int) (f : Nat → Option ORes) : Option ORes := if 0 ≤ (pc : Int) + o then (bif b then f ((pc : Int) + o).toNat else f (pc + 3)) else none
def arr (H : AH) (k : Nat) : Option (FieldType × List Value) := match H[k]? with | some (.inr q) => some q | _ => none
def ald (ok : FieldType → Bool) (S : List Value) (H : AH) (f : Value → List Value → Option ORes) : Option ORes :=
  pI S fun j S => pR S fun a r => (arr H a).bind fun q => if ok q.1 = true ∧ ¬ j < 0 then (q.2[j.toNatClampNeg]?).bind fun v => f v r else none
def ast (ok : FieldType → Bool) (x0 : Nat) (S : List Value) (H : AH) (f : List Value → AH → Option ORes) : Option ORes :=
  pI S fun x S => pI S fun j S => pR S fun a r => (arr H a).bind fun q => if ok q.1 = true ∧ ¬ j < 0 ∧ j.toNatClampNeg < q.2.length ∧ x0 ≤ a then f r (H.set a (.inr (q.1, q.2.set j.toNatClampNeg (.int (nar q.1 x))))) else none
def astL (x0 : Nat) (S : List Value) (H : AH) (f : List Value → AH → Option ORes) : Option ORes :=
  pL S fun x S => pI S fun j S => pR S fun a r => (arr H a).bind fun q => if q.1 = .long ∧ ¬ j < 0 ∧ j.toNatClampNeg < q.2.length ∧ x0 ≤ a then f r (H.set a (.inr (q.1, q.2.set j.toNatClampNeg (.long x)))) else none
def isT (t u : FieldType) : Bool := decide (u = t)
def isBZ : FieldType → Bool | .byte => true | .boolean => true | _ => false
def rI (rt : Option FieldType) (S : List Value) (H : AH) : Option ORes := pI S fun z _ => match rt with
  | some .int => some (some (.int z), H)
  | some .boolean => some (some (.int (z &&& 1)), H)
  | some .byte => some (some (.int z.toInt8.toInt32), H)
  | some .char => some (some (.int z.toUInt32.toUInt16.toUInt32.toInt32), H)
  | some .short => some (some (.int z.toInt16.toInt32), H)
  | _ => none
def rL (rt : Option FieldType) (S : List Value) (H : AH) : Option ORes := pL S fun z _ => match rt with | some .long => some (some (.long z), H) | _ => none
def rA (rt : Option FieldType) (S : List Value) (H : AH) : Option ORes := pA S fun z _ => match rt with | some (.object _) => some (some z, H) | some (.array _) => some (some z, H) | _ => none
def rV (rt : Option FieldType) (S : List Value) (H : AH) : Option ORes := match rt, S with | none, [] => some (none, H) | _, _ => none
def look (q i : Nat) : List (Nat × Nat × Act) → Option Act
  | [] => none
  | x :: r => if x.1 = q ∧ x.2.1 = i then some x.2.2 else look q i r
def spc (E : List (Nat × Nat × Act)) (q i : Nat) (S : List Value) (H : AH) (cs ss : Nat) (f : List Value → AH → Nat → Nat → Option ORes) : Option ORes :=
  (look q i E).bind fun act => (act S H cs ss).bind fun r => f r.1 r.2.1 r.2.2.1 r.2.2.2
def atn : ArrayType → Nat | .boolean => 0 | .char => 1 | .float => 2 | .double => 3 | .byte => 4 | .short => 5 | .int => 6 | .long => 7
def aty : Nat → ArrayType | 0 => .boolean | 1 => .char | 2 => .float | 3 => .double | 4 => .byte | 5 => .short | 6 => .int | _ => .long
def insOf (q i : Nat) : Instr := match q with
  | 0 => .ldc i | 1 => .ldc_w i | 2 => .ldc2_w i | 3 => .getfield i | 4 => .putfield i | 5 => .getstatic i | 6 => .new i | 7 => .invokestatic i | 8 => .invokespecial i | 9 => .invokevirtual i
  | 10 => .checkcast i | 11 => .instanceof i | 12 => .anewarray i | 13 => .newarray (aty i) | _ => .putstatic i
def refEq : Value → Value → Bool | .ref a, .ref b => decide (a = b) | .null, .null => true | _, _ => false
def ex (rt : Option FieldType) (E : List (Nat × Nat × Act)) (x0 : Nat) (k : St → Option ORes) (i : Instr) (pc : Nat) (L : List Slot) (S : List Value) (H : AH) (cs ss : Nat) : Option ORes := match i with
  | .iload n => (gI L n).bind fun v => k (pc + 2, L, .int v :: S, H, cs, ss)
  | .iload_n n => (gI L n.val).bind fun v => k (pc + 1, L, .int v :: S, H, cs, ss)
  | .lload n => (gL L n).bind fun v => k (pc + 2, L, .long v :: S, H, cs, ss)
  | .lload_n n => (gL L n.val).bind fun v => k (pc + 1, L, .long v :: S, H, cs, ss)
  | .aload n => (gA L n).bind fun v => k (pc + 2, L, v :: S, H, cs, ss)
  | .aload_n n => (gA L n.val).bind fun v => k (pc + 1, L, v :: S, H, cs, ss)
  | .istore n => pI S fun x r => (st1 L n (.int x)).bind fun L' => k (pc + 2, L', r, H, cs, ss)
  | .istore_n n => pI S fun x r => (st1 L n.val (.int x)).bind fun L' => k (pc + 1, L', r, H, cs, ss)
  | .lstore n => pL S fun x r => (st2 L n x).bind fun L' => k (pc + 2, L', r, H, cs, ss)
  | .lstore_n n => pL S fun x r => (st2 L n.val x).bind fun L' => k (pc + 1, L', r, H, cs, ss)
  | .astore n => pA S fun x r => (st1 L n x).bind fun L' => k (pc + 2, L', r, H, cs, ss)
  | .astore_n n => pA S fun x r => (st1 L n.val x).bind fun L' => k (pc + 1, L', r, H, cs, ss)
  | .iinc n c => (gI L n).bind fun v => (st1 L n (.int (v + Int32.ofInt c))).bind fun L' => k (pc + 3, L', S, H, cs, ss)
  | .iconst c => k (pc + 1, L, .int (Int32.ofInt c) :: S, H, cs, ss)
  | .bipush c => k (pc + 2, L, .int (Int8.ofInt c).toInt32 :: S, H, cs, ss)
  | .sipush c => k (pc + 3, L, .int (Int16.ofInt c).toInt32 :: S, H, cs, ss)
  | .lconst c => k (pc + 1, L, .long (Int64.ofNat c) :: S, H, cs, ss)
  | .aconst_null => k (pc + 1, L, .null :: S, H, cs, ss)
  | .iadd => pI S fun y S => pI S fun x r => k (pc + 1, L, .int (x + y) :: r, H, cs, ss)
  | .isub => pI S fun y S => pI S fun x r => k (pc + 1, L, .int (x - y) :: r, H, cs, ss)
  | .imul => pI S fun y S => pI S fun x r => k (pc + 1, L, .int (x * y) :: r, H, cs, ss)
  | .iand => pI S fun y S => pI S fun x r => k (pc + 1, L, .int (x &&& y) :: r, H, cs, ss)
  | .ior => pI S fun y S => pI S fun x r => k (pc + 1, L, .int (x ||| y) :: r, H, cs, ss)
  | .ixor => pI S fun y S => pI S fun x r => k (pc + 1, L, .int (x ^^^ y) :: r, H, cs, ss)
  | .ishl => pI S fun y S => pI S fun x r => k (pc + 1, L, .int (x <<< (y &&& 31)) :: r, H, cs, ss)
  | .ishr => pI S fun y S => pI S fun x r => k (pc + 1, L, .int (x >>> (y &&& 31)) :: r, H, cs, ss)
  | .iushr => pI S fun y S => pI S fun x r => k (pc + 1, L, .int ((x.toUInt32 >>> (y &&& 31).toUInt32).toInt32) :: r, H, cs, ss)
  | .idiv => pI S fun y S => pI S fun x r => if y = 0 then none else k (pc + 1, L, .int (x / y) :: r, H, cs, ss)
  | .irem => pI S fun y S => pI S fun x r => if y = 0 then none else k (pc + 1, L, .int (x % y) :: r, H, cs, ss)
  | .ineg => pI S fun x r => k (pc + 1, L, .int (-x) :: r, H, cs, ss)
  | .i2b => pI S fun x r => k (pc + 1, L, .int x.toInt8.toInt32 :: r, H, cs, ss)
  | .i2c => pI S fun x r => k (pc + 1, L, .int x.toUInt32.toUInt16.toUInt32.toInt32 :: r, H, cs, ss)
  | .i2s => pI S fun x r => k (pc + 1, L, .int x.toInt16.toInt32 :: r, H, cs, ss)
  | .i2l => pI S fun x r => k (pc + 1, L, .long x.toInt64 :: r, H, cs, ss)
  | .l2i => pL S fun x r => k (pc + 1, L, .int x.toInt32 :: r, H, cs, ss)
  | .lneg => pL S fun x r => k (pc + 1, L, .long (-x) :: r, H, cs, ss)
  | .ladd => pL S fun y S => pL S fun x r => k (pc + 1, L, .long (x + y) :: r, H, cs, ss)
  | .lsub => pL S fun y S => pL S fun x r => k (pc + 1, L, .long (x - y) :: r, H, cs, ss)
  | .lmul => pL S fun y S => pL S fun x r => k (pc + 1, L, .long (x * y) :: r, H, cs, ss)
  | .land => pL S fun y S => pL S fun x r => k (pc + 1, L, .long (x &&& y) :: r, H, cs, ss)
  | .lor => pL S fun y S => pL S fun x r => k (pc + 1, L, .long (x ||| y) :: r, H, cs, ss)
  | .lxor => pL S fun y S => pL S fun x r => k (pc + 1, L, .long (x ^^^ y) :: r, H, cs, ss)
  | .lshl => pI S fun y S => pL S fun x r => k (pc + 1, L, .long (x <<< (y &&& 0x3f).toInt64) :: r, H, cs, ss)
  | .lshr => pI S fun y S => pL S fun x r => k (pc + 1, L, .long (x >>> (y &&& 0x3f).toInt64) :: r, H, cs, ss)
  | .lushr => pI S fun y S => pL S fun x r => k (pc + 1, L, .long ((x.toUInt64 >>> (y &&& 0x3f).toInt64.toUInt64).toInt64) :: r, H, cs, ss)
  | .ldiv => pL S fun y S => pL S fun x r => if y = 0 then none else k (pc + 1, L, .long (x / y) :: r, H, cs, ss)
  | .lrem => pL S fun y S => pL S fun x r => if y = 0 then none else k (pc + 1, L, .long (x % y) :: r, H, cs, ss)
  | .lcmp => pL S fun y S => pL S fun x r => k (pc + 1, L, .int (lcmpW x y) :: r, H, cs, ss)
  | .dup => p1 S fun v r => k (pc + 1, L, v :: v :: r, H, cs, ss)
  | .pop => p1 S fun _ r => k (pc + 1, L, r, H, cs, ss)
  | .dup_x1 => p1 S fun x S => p1 S fun y r => k (pc + 1, L, x :: y :: x :: r, H, cs, ss)
  | .dup2 => p1 S fun x S => p1 S fun y r => k (pc + 1, L, x :: y :: x :: y :: r, H, cs, ss)
  | .goto o => if 0 ≤ (pc : Int) + o then k (((pc : Int) + o).toNat, L, S, H, cs, ss) else none
  | .ifCond cd o => pI S fun x r => br (ifCond.holds cd x) pc o fun q => k (q, L, r, H, cs, ss)
  | .if_icmp cd o => pI S fun y S => pI S fun x r => br (if_icmp.holds cd x y) pc o fun q => k (q, L, r, H, cs, ss)
  | .ifnull o => pA S fun v r => br (refEq v .null) pc o fun q => k (q, L, r, H, cs, ss)
  | .ifnonnull o => pA S fun v r => br (!refEq v .null) pc o fun q => k (q, L, r, H, cs, ss)
  | .if_acmp cd o => pA S fun y S => pA S fun x r => br (acV cd (refEq x y)) pc o fun q => k (q, L, r, H, cs, ss)
  | .arraylength => pR S fun a r => (arr H a).bind fun q => k (pc + 1, L, .int q.2.length.toInt32 :: r, H, cs, ss)
  | .iaload => ald (isT .int) S H fun v r => k (pc + 1, L, v :: r, H, cs, ss)
  | .baload => ald isBZ S H fun v r => k (pc + 1, L, v :: r, H, cs, ss)
  | .caload => ald (isT .char) S H fun v r => k (pc + 1, L, v :: r, H, cs, ss)
  | .laload => ald (isT .long) S H fun v r => k (pc + 1, L, v :: r, H, cs, ss)
  | .aaload => ald FieldType.isReference S H fun v r => k (pc + 1, L, v :: r, H, cs, ss)
  | .iastore => ast (isT .int) x0 S H fun r H' => k (pc + 1, L, r, H', cs, ss)
  | .bastore => ast (isT .byte) x0 S H fun r H' => k (pc + 1, L, r, H', cs, ss)
  | .castore => ast (isT .char) x0 S H fun r H' => k (pc + 1, L, r, H', cs, ss)
  | .lastore => astL x0 S H fun r H' => k (pc + 1, L, r, H', cs, ss)
  | .ldc i => spc E 0 i S H cs ss fun S' H' cs' ss' => k (pc + 2, L, S', H', cs', ss')
  | .ldc_w i => spc E 1 i S H cs ss fun S' H' cs' ss' => k (pc + 3, L, S', H', cs', ss')
  | .ldc2_w i => spc E 2 i S H cs ss fun S' H' cs' ss' => k (pc + 3, L, S', H', cs', ss')
  | .getfield i => spc E 3 i S H cs ss fun S' H' cs' ss' => k (pc + 3, L, S', H', cs', ss')
  | .putfield i => spc E 4 i S H cs ss fun S' H' cs' ss' => k (pc + 3, L, S', H', cs', ss')
  | .getstatic i => spc E 5 i S H cs ss fun S' H' cs' ss' => k (pc + 3, L, S', H', cs', ss')
  | .new i => spc E 6 i S H cs ss fun S' H' cs' ss' => k (pc + 3, L, S', H', cs', ss')
  | .invokestatic i => spc E 7 i S H cs ss fun S' H' cs' ss' => k (pc + 3, L, S', H', cs', ss')
  | .invokespecial i => spc E 8 i S H cs ss fun S' H' cs' ss' => k (pc + 3, L, S', H', cs', ss')
  | .invokevirtual i => spc E 9 i S H cs ss fun S' H' cs' ss' => k (pc + 3, L, S', H', cs', ss')
  | .checkcast i => spc E 10 i S H cs ss fun S' H' cs' ss' => k (pc + 3, L, S', H', cs', ss')
  | .instanceof i => spc E 11 i S H cs ss fun S' H' cs' ss' => k (pc + 3, L, S', H', cs', ss')
  | .anewarray i => spc E 12 i S H cs ss fun S' H' cs' ss' => k (pc + 3, L, S', H', cs', ss')
  | .newarray t => spc E 13 (atn t) S H cs ss fun S' H' cs' ss' => k (pc + 2, L, S', H', cs', ss')
  | .ireturn => rI rt S H
  | .lreturn => rL rt S H
  | .areturn => rA rt S H
  | .return_ => rV rt S H
  | _ => none
def orun (code : ByteArray) (rt : Option FieldType) (E : List (Nat × Nat × Act)) (x0 : Nat) : Nat → St → Option ORes
  | 0, _ => none
  | n + 1, s => (dec code s.1).bind fun i => ex rt E x0 (orun code rt E x0 n) i s.1 s.2.1 s.2.2.1 s.2.2.2.1 s.2.2.2.2.1 s.2.2.2.2.2
theorem orun_succ {code : ByteArray} {rt : Option FieldType} {E : List (Nat × Nat × Act)} {x0 n pc : Nat} {L : List Slot} {S : List Value} {H : AH} {cs ss : Nat} :
    orun code rt E x0 (n + 1) (pc, L, S, H, cs, ss) = (dec code pc).bind fun i => ex rt E x0 (orun code rt E x0 n) i pc L S H cs ss := rfl
/-! ## 2. What an abstract state stands for -/
def cv (σ : Nat → Nat) : Value → Value | .ref k => .ref (σ k) | v => v
def csl (σ : Nat → Nat) : Slot → Slot | .val v => .val (cv σ v) | x => x
def cL (σ : Nat → Nat) (L : List Slot) : Array Slot := (L.map (csl σ)).toArray
abbrev CD := String × List (String × String × String)
def RepO (Z : State) (σ : Nat → Nat) (K : List CD) (h : Heap) (a : Addr) : Ob → Prop
  | .inl (c, vs) => ∃ C fs, K[c]? = some (C, fs) ∧ Exa Z h a C ∧ ∀ (j : Nat) (v : Value), vs[j]? = some v → ∃ O n d, fs[j]? = some (O, n, d) ∧ Fld Z h a O n d (cv σ v)
  | .inr (ty, vs) => ∃ cell : Cell, Arr Z h a cell ty ∧ cell.slots = (vs.map (cv σ)).toArray ∧ vs.length < 2 ^ 31 ∧ (∀ v ∈ vs, fits ty v = true) ∧ (Z.heap.size ≤ a → Exa Z h a ("[" ++ ty.toString))
def Rep (Z : State) (σ : Nat → Nat) (x0 n0 : Nat) (K : List CD) (h : Heap) (H : AH) : Prop :=
  h.size + x0 = n0 + H.length ∧ x0 ≤ H.length ∧ Old Z n0 h ∧ ∀ (k : Nat) (o : Ob), H[k]? = some o → RepO Z σ K h (σ k) o
def Sg (σ : Nat → Nat) (x0 n0 : Nat) : Prop := (∀ k, x0 ≤ k → σ k + x0 = n0 + k) ∧ (∀ i, i < x0 → σ i < n0) ∧ ∀ i j, i < x0 → j < x0 → σ i = σ j → i = j
theorem Sg.inj {σ : Nat → Nat} {x0 n0 i j : Nat} (h : Sg σ x0 n0) (e : σ i = σ j) : i = j := by
  obtain ⟨h1, h2, h3⟩ := h
  rcases Nat.lt_or_ge i x0 with a | a <;> rcases Nat.lt_or_ge j x0 with b | b
  · exact h3 i j a b e
  · have := h2 i a; have := h1 j b; omega
  · have := h2 j b; have := h1 i a; omega
  · have := h1 i a; have := h1 j b; omega
theorem Sg.new {σ : Nat → Nat} {x0 n0 k : Nat} (h : Sg σ x0 n0) (q : x0 ≤ k) : n0 ≤ σ k := by have := h.1 k q; omega
def KOk (Z : State) (a0 : Array Value) (K : List CD) : Prop := ∀ (c : Nat) (C : String) (fs : List (String × String × String)), K[c]? = some (C, fs) →
  (∃ kk, (Jvm.Cond.instantiable C kk).before a0 Z = true) ∧ (∀ (i : Nat) (f : String × String × String), fs[i]? = some f → Laid Z a0 C f.1 f.2.1 f.2.2 ∧ ∃ ty, parseFieldDescriptor f.2.2 = some ty) ∧
  ∀ (i j : Nat) (f g : String × String × String), fs[i]? = some f → fs[j]? = some g → f.2.1 = g.2.1 → i = j
section Reps
variable {Z : State} {σ : Nat → Nat} {x0 n0 : Nat} {K : List CD} {h h' : Heap} {H : AH} {a0 : Array Value}
theorem RepO.ext {a : Addr} {o : Ob} (E : Ext h h') (R : RepO Z σ K h a o) : RepO Z σ K h' a o := by
  rcases o with ⟨c, vs⟩ | ⟨ty, vs⟩
  · obtain ⟨C, fs, h1, h2, h3⟩ := R
    exact ⟨C, fs, h1, h2.ext E, fun j v q => by obtain ⟨O, n, d, q1, q2⟩ := h3 j v q; exact ⟨O, n, d, q1, q2.ext E⟩⟩
  · obtain ⟨cell, h1, h2, h3, h4, h5⟩ := R
    exact ⟨cell, h1.ext E, h2, h3, h4, fun q => (h5 q).ext E⟩
theorem RepO.other {a b : Addr} {o : Ob} {sl : Nat} {v : Value} (W : Wr h h' a sl v) (R : RepO Z σ K h b o) (ne : b ≠ a) : RepO Z σ K h' b o := by
  rcases o with ⟨c, vs⟩ | ⟨ty, vs⟩
  · obtain ⟨C, fs, h1, h2, h3⟩ := R
    exact ⟨C, fs, h1, h2.wr W, fun j v q => by obtain ⟨O, n, d, q1, q2⟩ := h3 j v q; exact ⟨O, n, d, q1, q2.other W (Or.inl ne)⟩⟩
  · obtain ⟨cell, h1, h2, h3, h4, h5⟩ := R
    exact ⟨cell, h1.other W ne, h2, h3, h4, fun q => (h5 q).wr W⟩
theorem Rep.push (R : Rep Z σ x0 n0 K h H) (E : Ext h h') (hs : h'.size = h.size + 1) {o : Ob} (ho : RepO Z σ K h' (σ H.length) o) : Rep Z σ x0 n0 K h' (H ++ [o]) := by
  obtain ⟨r1, r2, r3, r4⟩ := R
  refine ⟨by rw [hs]; simp; omega, by simp; omega, r3.ext E, fun k o' q => ?_⟩
  rcases Nat.lt_trichotomy k H.length with a | a | a
  · rw [List.getElem?_append_left a] at q; exact (r4 k o' q).ext E
  · subst a; simp at q; subst q; exact ho
  · rw [List.getElem?_append_right (Nat.le_of_lt a), List.getElem?_eq_none (by simp; omega)] at q; cases q
theorem Rep.addr (S : Sg σ x0 n0) (R : Rep Z σ x0 n0 K h H) : σ H.length = h.size := by have := S.1 H.length R.2.1; have := R.1; omega
theorem Rep.write (S : Sg σ x0 n0) (R : Rep Z σ x0 n0 K h H) {k sl : Nat} {v : Value} {o : Ob} (hk : x0 ≤ k) (W : Wr h h' (σ k) sl v) (ho : RepO Z σ K h' (σ k) o) : Rep Z σ x0 n0 K h' (H.set k o) := by
  obtain ⟨r1, r2, r3, r4⟩ := R
  refine ⟨by rw [W.size]; simpa using r1, by simpa using r2, r3.wr W (S.new hk), fun j o' q => ?_⟩
  by_cases e : k = j
  · subst e
    by_cases hl : k < H.length
    · rw [List.getElem?_set_self hl] at q; cases q; exact ho
    · rw [List.getElem?_eq_none (by simp; omega)] at q; cases q
  · rw [List.getElem?_set_ne e] at q
    exact (r4 j o' q).other W fun u => e (S.inj u).symm
theorem cv_fits (ty : FieldType) (v : Value) : fits ty (cv σ v) = fits ty v := by cases v <;> first | rfl | (cases ty <;> rfl)
theorem RepO.fld (KO : KOk Z a0 K) {a : Addr} {c j : Nat} {vs : List Value} {v : Value} {C O n d : String} {fs : List (String × String × String)} (hC : K[c]? = some (C, fs)) (hj : fs[j]? = some (O, n, d)) (R : RepO Z σ K h a (.inl (c, vs))) (W : Wr h h' a (Jvm.RoadKit.slotOf Z O n d) (cv σ v)) : RepO Z σ K h' a (.inl (c, vs.set j v)) := by
  obtain ⟨C', fs', h1, h2, h3⟩ := R
  cases hC.symm.trans h1
  obtain ⟨-, k2, k3⟩ := KO c C fs hC
  refine ⟨C, fs, hC, h2.wr W, fun i w q => ?_⟩
  by_cases e : j = i
  · subst e
    by_cases hl : j < vs.length
    · rw [List.getElem?_set_self hl] at q; cases q
      obtain ⟨O', n', d', q1, q2⟩ := h3 j _ (List.getElem?_eq_getElem hl)
      cases hj.symm.trans q1
      exact ⟨O, n, d, hj, q2.same W⟩
    · rw [List.getElem?_eq_none (by simp; omega)] at q; cases q
  · rw [List.getElem?_set_ne e] at q
    obtain ⟨O', n', d', q1, q2⟩ := h3 i w q
    obtain ⟨l1, t1, p1⟩ := k2 j _ hj
    obtain ⟨l2, t2, p2⟩ := k2 i _ q1
    exact ⟨O', n', d', q1, q2.other W (Or.inr (slot_ne l2 l1 (fun u => e (k3 j i _ _ hj q1 u.symm)) p2 p1))⟩
theorem RepO.arr {a : Addr} {i : Nat} {ty : FieldType} {vs : List Value} {v : Value} (R : RepO Z σ K h a (.inr (ty, vs))) (hf : fits ty v = true) (W : Wr h h' a i (cv σ v)) : RepO Z σ K h' a (.inr (ty, vs.set i v)) := by
  obtain ⟨cell, h1, h2, h3, h4, h5⟩ := R
  refine ⟨_, h1.same W, ?_, by simpa using h3, fun w hw => ?_, fun q => (h5 q).wr W⟩
  · simp [Cell.setSlot, h2]
  · rcases List.mem_or_eq_of_mem_set hw with q | rfl
    · exact h4 w q
    · exact hf
theorem arr_some {H : AH} {k : Nat} {q : FieldType × List Value} (e : arr H k = some q) : H[k]? = some (.inr q) := by
  unfold arr at e; split at e
  · rename_i q' hq; cases e; exact hq
  · cases e
end Reps
/-! ## 3. One step of the machine is a orun of the JVM -/
section Sound
def Good (p : Program) (l : Launch) (e : Env) (R : Room) (s : State) (m : MethodId) (args : Array Value) (below : List Frame) (meth : Method) (c : Code) (Z : State) (σ : Nat → Nat) (x0 n0 : Nat) (K : List CD) (i : Instr) (act : Act) : Prop :=
  ∀ (T : State) (locs : List Loc) (cs ss pc : Nat) (L : List Slot) (S : List Value) (H : AH) (S' : List Value) (H' : AH) (cs' ss' : Nat), Stand p l e R s m args below meth c T locs cs ss → decode c.code pc = .ok (i, il i) → L.length = c.maxLocals → Rep Z σ x0 n0 K T.heap H → Fr n0 locs → cs ≤ R.cells ∧ ss ≤ R.slots → act S H cs ss = some (S', H', cs', ss') →
    ∃ T' locs', Stand p l e R s m args below meth c T' locs' cs' ss' ∧ Rep Z σ x0 n0 K T'.heap H' ∧ Fr n0 locs' ∧ (cs' ≤ R.cells ∧ ss' ≤ R.slots) ∧ ∀ target, Steps p.tables e below (T'.setTop (mkF m (pc + il i) (cL σ L) (S'.map (cv σ)))) target → Steps p.tables e below (T.setTop (mkF m pc (cL σ L) (S.map (cv σ)))) target
def AllGood (p : Program) (l : Launch) (e : Env) (R : Room) (s : State) (m : MethodId) (args : Array Value) (below : List Frame) (meth : Method) (c : Code) (Z : State) (σ : Nat → Nat) (x0 n0 : Nat) (K : List CD) : List (Nat × Nat × Act) → Prop
  | [] => True
  | x :: r => Good p l e R s m args below meth c Z σ x0 n0 K (insOf x.1 x.2.1) x.2.2 ∧ AllGood p l e R s m args below meth c Z σ x0 n0 K r
/-- the end: it has returned v, over the heap H' -/
def Done (p : Program) (e : Env) (R : Room) (s : State) (below : List Frame) (Z : State) (σ : Nat → Nat) (x0 n0 : Nat) (K : List CD) (r : ORes) (T : State) (g : JFrame) : Prop :=
  ∃ t, Steps p.tables e below (T.setTop g) t ∧ t.status = .running ∧ Ended t below (.returned (r.1.map (cv σ))) ∧ Rep Z σ x0 n0 K t.heap r.2 ∧ ∃ L, Fr n0 L ∧ s.WarmedH t.vm ∧ s.sameButNew ({ t with vm := s.vm } : State) L R.cells R.slots
variable {p : Program} {l : Launch} {e : Env} {R : Room} {s : State} {m : MethodId} {args : Array Value} {below : List Frame} {meth : Method} {c : Code} {Z : State} {σ : Nat → Nat} {x0 n0 : Nat} {K : List CD}
theorem look_good {E : List (Nat × Nat × Act)} {q i : Nat} {act : Act} (h : AllGood p l e R s m args below meth c Z σ x0 n0 K E) (hl : look q i E = some act) : Good p l e R s m args below meth c Z σ x0 n0 K (insOf q i) act := by
  induction E with
  | nil => cases hl
  | cons x r ih =>
    unfold look at hl
    split at hl
    · rename_i hq; cases hl; obtain ⟨rfl, rfl⟩ := hq; exact h.1
    · exact ih h.2 hl
theorem Done.step {r : ORes} {T T' : State} {g g' : JFrame} (D : Done p e R s below Z σ x0 n0 K r T' g') (st : ∀ target, Steps p.tables e below (T'.setTop g') target → Steps p.tables e below (T.setTop g) target) : Done p e R s below Z σ x0 n0 K r T g := by
  obtain ⟨t, h1, h2⟩ := D; exact ⟨t, st _ h1, h2⟩
theorem gI_ok {L : List Slot} {k : Nat} {v : Int32} (h : gI L k = some v) : (cL σ L)[k]? = some (.val (.int v)) := by
  unfold gI at h; split at h
  · rename_i w hw; cases h; simp [cL, hw, csl, cv]
  · cases h
theorem gL_ok {L : List Slot} {k : Nat} {v : Int64} (h : gL L k = some v) : (cL σ L)[k]? = some (.val (.long v)) := by
  unfold gL at h; split at h
  · rename_i w hw; cases h; simp [cL, hw, csl, cv]
  · cases h
theorem gA_ok {L : List Slot} {k : Nat} {v : Value} (h : gA L k = some v) : (cL σ L)[k]? = some (.val (cv σ v)) ∧ (cv σ v).isRef = true := by
  unfold gA at h; split at h
  · rename_i w hw; cases h; simp [cL, hw, csl, cv, Value.isRef]
  · rename_i hw; cases h; simp [cL, hw, csl, cv, Value.isRef]
  · cases h
theorem st1_ok {L L' : List Slot} {k : Nat} {v : Value} (h : st1 L k v = some L') (hv : v.category = 1) : storeLocals (cL σ L) k (cv σ v) = some (cL σ L') ∧ L'.length = L.length := by
  have hv' : (cv σ v).category = 1 := by cases v <;> first | rfl | exact hv
  have key : ∀ o : Slot, L[k]? = some o → One (csl σ o) → L' = L.set k (.val v) → storeLocals (cL σ L) k (cv σ v) = some (cL σ L') ∧ L'.length = L.length := by
    intro o ho h1 e
    subst e
    refine ⟨?_, by simp⟩
    rw [XS.store1 (o := csl σ o) (by simp [cL, ho]) h1 hv']
    simp [cL, csl, List.map_set]
  unfold st1 at h; split at h <;> first | cases h | skip
  all_goals (rename_i ho; exact key _ ho (by first | exact One.u | exact One.val rfl) rfl)
theorem st2_ok {L L' : List Slot} {k : Nat} {x : Int64} (h : st2 L k x = some L') : storeLocals (cL σ L) k (.long x) = some (cL σ L') ∧ L'.length = L.length := by
  unfold st2 at h; split at h
  · rename_i h1 h2
    cases h
    refine ⟨?_, by simp⟩
    obtain ⟨b1, g1⟩ := List.getElem?_eq_some_iff.mp h1
    obtain ⟨b2, g2⟩ := List.getElem?_eq_some_iff.mp h2
    simp [storeLocals, storeSelf, setAt, cL, csl, cv, h1, h2, b1, b2, g1, g2, Value.category, List.map_set, List.getElem?_set]
  · rename_i y h1 h2
    cases h
    refine ⟨?_, by simp⟩
    obtain ⟨b1, g1⟩ := List.getElem?_eq_some_iff.mp h1
    obtain ⟨b2, g2⟩ := List.getElem?_eq_some_iff.mp h2
    simp [storeLocals, storeSelf, setAt, cL, csl, cv, h1, h2, b1, b2, g1, g2, Value.category, List.map_set, List.getElem?_set]
    rw [List.set_comm _ _ (show k + 1 ≠ k by omega), List.set_set]
  · cases h
theorem pI_ok {S : List Value} {f : Int32 → List Value → Option ORes} {r : ORes} (h : pI S f = some r) : ∃ x S', S = .int x :: S' ∧ f x S' = some r := by
  unfold pI at h; split at h
  · exact ⟨_, _, rfl, h⟩
  · cases h
theorem pL_ok {S : List Value} {f : Int64 → List Value → Option ORes} {r : ORes} (h : pL S f = some r) : ∃ x S', S = .long x :: S' ∧ f x S' = some r := by
  unfold pL at h; split at h
  · exact ⟨_, _, rfl, h⟩
  · cases h
theorem pR_ok {S : List Value} {f : Nat → List Value → Option ORes} {r : ORes} (h : pR S f = some r) : ∃ x S', S = .ref x :: S' ∧ f x S' = some r := by
  unfold pR at h; split at h
  · exact ⟨_, _, rfl, h⟩
  · cases h
theorem pA_ok {S : List Value} {f : Value → List Value → Option ORes} {r : ORes} (h : pA S f = some r) : ∃ x S', S = x :: S' ∧ f x S' = some r ∧ (x = .null ∨ ∃ a, x = .ref a) := by
  unfold pA at h; split at h
  · exact ⟨_, _, rfl, h, Or.inr ⟨_, rfl⟩⟩
  · exact ⟨_, _, rfl, h, Or.inl rfl⟩
  · cases h
theorem p1_ok {S : List Value} {f : Value → List Value → Option ORes} {r : ORes} (h : p1 S f = some r) : ∃ x S', S = x :: S' ∧ f x S' = some r ∧ (cv σ x).category = 1 := by
  unfold p1 at h; split at h
  · exact ⟨_, _, rfl, h, rfl⟩
  · exact ⟨_, _, rfl, h, rfl⟩
  · exact ⟨_, _, rfl, h, rfl⟩
  · cases h
theorem bind_ok {α : Type} {o : Option α} {f : α → Option ORes} {r : ORes} (h : o.bind f = some r) : ∃ x, o = some x ∧ f x = some r := Option.bind_eq_some_iff.mp h
theorem br_ok {b : Bool} {pc : Nat} {o : Int} {f : Nat → Option ORes} {r : ORes} (h : br b pc o f = some r) : 0 ≤ (pc : Int) + o ∧ ((b = true ∧ f ((pc : Int) + o).toNat = some r) ∨ (b = false ∧ f (pc + 3) = some r)) := by
  unfold br at h; split at h
  · rename_i q; cases b
    · exact ⟨q, Or.inr ⟨rfl, h⟩⟩
    · exact ⟨q, Or.inl ⟨rfl, h⟩⟩
  · cases h
theorem ref_of {x : Value} (h : x = .null ∨ ∃ a, x = .ref a) : (cv σ x).isRef = true ∧ x.category = 1 := by rcases h with rfl | ⟨a, rfl⟩ <;> exact ⟨rfl, rfl⟩
theorem refEq_ok (hsg : Sg σ x0 n0) {x y : Value} (hx : x = .null ∨ ∃ a, x = .ref a) (hy : y = .null ∨ ∃ a, y = .ref a) : decide (cv σ x = cv σ y) = refEq x y := by
  rcases hx with rfl | ⟨a, rfl⟩ <;> rcases hy with rfl | ⟨b, rfl⟩ <;> simp [cv, refEq]
  exact ⟨fun h => hsg.inj h, fun h => by rw [h]⟩
theorem size_cL {L : List Slot} : (cL σ L).size = L.length := by simp [cL]
theorem inB {cell : Cell} {j : Int32} {v : Value} (h : ¬ j < 0) (hv : cell.slots[j.toNatClampNeg]? = some v) : ¬ (j < 0 ∨ cell.slots.size ≤ j.toNatClampNeg) := fun q => q.elim h fun q => by rw [Array.getElem?_eq_none q] at hv; cases hv
set_option maxHeartbeats 4000000 in
theorem ex_sound {rt : Option FieldType} {E : List (Nat × Nat × Act)} {k : St → Option ORes} {res : ORes} (hx : p.tables.exec = Jvm.exec) (hZ : Z.Warmed39 s.vm) (hsg : Sg σ x0 n0) (hrt : meth.sig.returnType = rt) (hlk : meth.locks = false) (hE : AllGood p l e R s m args below meth c Z σ x0 n0 K E)
    (hk : ∀ (T : State) (locs : List Loc) (cs ss pc : Nat) (L : List Slot) (S : List Value) (H : AH), Stand p l e R s m args below meth c T locs cs ss → L.length = c.maxLocals → Rep Z σ x0 n0 K T.heap H → Fr n0 locs → cs ≤ R.cells ∧ ss ≤ R.slots → k (pc, L, S, H, cs, ss) = some res → Done p e R s below Z σ x0 n0 K res T (mkF m pc (cL σ L) (S.map (cv σ))))
    {T : State} {locs : List Loc} {cs ss pc : Nat} {i : Instr} {L : List Slot} {S : List Value} {H : AH} (X : Stand p l e R s m args below meth c T locs cs ss) (hd : decode c.code pc = .ok (i, il i)) (hL : L.length = c.maxLocals) (hR : Rep Z σ x0 n0 K T.heap H) (hF : Fr n0 locs) (hB : cs ≤ R.cells ∧ ss ≤ R.slots)
    (h : ex rt E x0 k i pc L S H cs ss = some res) : Done p e R s below Z σ x0 n0 K res T (mkF m pc (cL σ L) (S.map (cv σ))) := by
  cases i with
  | iload n =>
    dsimp only [ex] at h
    replace h := bind_ok h
    obtain ⟨v, h1, h⟩ := h
    exact (hk _ _ _ _ _ _ _ _ X hL hR hF hB h).step fun t q => XS.iload X.here hx rfl hd (gI_ok h1) q
  | iload_n n =>
    dsimp only [ex] at h
    replace h := bind_ok h
    obtain ⟨v, h1, h⟩ := h
    exact (hk _ _ _ _ _ _ _ _ X hL hR hF hB h).step fun t q => XS.iloadN X.here hx rfl hd (gI_ok h1) q
  | lload n =>
    dsimp only [ex] at h
    replace h := bind_ok h
    obtain ⟨v, h1, h⟩ := h
    exact (hk _ _ _ _ _ _ _ _ X hL hR hF hB h).step fun t q => XS.lload X.here hx rfl hd (gL_ok h1) q
  | lload_n n =>
    dsimp only [ex] at h
    replace h := bind_ok h
    obtain ⟨v, h1, h⟩ := h
    exact (hk _ _ _ _ _ _ _ _ X hL hR hF hB h).step fun t q => XS.lloadN X.here hx rfl hd (gL_ok h1) q
  | aload n =>
    dsimp only [ex] at h
    replace h := bind_ok h
    obtain ⟨v, h1, h⟩ := h
    exact (hk _ _ _ _ _ _ _ _ X hL hR hF hB h).step fun t q => XS.aload X.here hx rfl hd (gA_ok h1).1 (gA_ok (σ := σ) h1).2 q
  | aload_n n =>
    dsimp only [ex] at h
    replace h := bind_ok h
    obtain ⟨v, h1, h⟩ := h
    exact (hk _ _ _ _ _ _ _ _ X hL hR hF hB h).step fun t q => XS.aloadN X.here hx rfl hd (gA_ok h1).1 (gA_ok (σ := σ) h1).2 q
  | istore n =>
    dsimp only [ex] at h
    replace h := pI_ok h
    obtain ⟨x, S1, rfl, h⟩ := h
    replace h := bind_ok h
    obtain ⟨L1, h1, h⟩ := h
    have h2 := st1_ok (σ := σ) h1 rfl
    exact (hk _ _ _ _ _ _ _ _ X (h2.2.trans hL) hR hF hB h).step fun t q => XS.istore X.here hx rfl hd rfl h2.1 q
  | istore_n n =>
    dsimp only [ex] at h
    replace h := pI_ok h
    obtain ⟨x, S1, rfl, h⟩ := h
    replace h := bind_ok h
    obtain ⟨L1, h1, h⟩ := h
    have h2 := st1_ok (σ := σ) h1 rfl
    exact (hk _ _ _ _ _ _ _ _ X (h2.2.trans hL) hR hF hB h).step fun t q => XS.istoreN X.here hx rfl hd rfl h2.1 q
  | lstore n =>
    dsimp only [ex] at h
    replace h := pL_ok h
    obtain ⟨x, S1, rfl, h⟩ := h
    replace h := bind_ok h
    obtain ⟨L1, h1, h⟩ := h
    have h2 := st2_ok (σ := σ) h1
    exact (hk _ _ _ _ _ _ _ _ X (h2.2.trans hL) hR hF hB h).step fun t q => XS.lstore X.here hx rfl hd rfl h2.1 q
  | lstore_n n =>
    dsimp only [ex] at h
    replace h := pL_ok h
    obtain ⟨x, S1, rfl, h⟩ := h
    replace h := bind_ok h
    obtain ⟨L1, h1, h⟩ := h
    have h2 := st2_ok (σ := σ) h1
    exact (hk _ _ _ _ _ _ _ _ X (h2.2.trans hL) hR hF hB h).step fun t q => XS.lstoreN X.here hx rfl hd rfl h2.1 q
  | astore n =>
    dsimp only [ex] at h
    replace h := pA_ok h
    obtain ⟨x, S1, rfl, h, hr⟩ := h
    replace h := bind_ok h
    obtain ⟨L1, h1, h⟩ := h
    have h2 := st1_ok (σ := σ) h1 (ref_of (σ := σ) hr).2
    exact (hk _ _ _ _ _ _ _ _ X (h2.2.trans hL) hR hF hB h).step fun t q => XS.astore X.here hx rfl hd rfl (ref_of hr).1 h2.1 q
  | astore_n n =>
    dsimp only [ex] at h
    replace h := pA_ok h
    obtain ⟨x, S1, rfl, h, hr⟩ := h
    replace h := bind_ok h
    obtain ⟨L1, h1, h⟩ := h
    have h2 := st1_ok (σ := σ) h1 (ref_of (σ := σ) hr).2
    exact (hk _ _ _ _ _ _ _ _ X (h2.2.trans hL) hR hF hB h).step fun t q => XS.astoreN X.here hx rfl hd rfl (ref_of hr).1 h2.1 q
  | iinc n cst =>
    dsimp only [ex] at h
    replace h := bind_ok h
    obtain ⟨v, h1, h⟩ := h
    replace h := bind_ok h
    obtain ⟨L1, h2, h⟩ := h
    have h2 := st1_ok (σ := σ) h2 rfl
    exact (hk _ _ _ _ _ _ _ _ X (h2.2.trans hL) hR hF hB h).step fun t q => XS.iinc X.here hx rfl hd (gI_ok h1) h2.1 q
  | iconst cst =>
    dsimp only [ex] at h
    exact (hk _ _ _ _ _ _ _ _ X hL hR hF hB h).step fun t q => XS.iconst X.here hx rfl hd q
  | bipush cst =>
    dsimp only [ex] at h
    exact (hk _ _ _ _ _ _ _ _ X hL hR hF hB h).step fun t q => XS.bipush X.here hx rfl hd q
  | sipush cst =>
    dsimp only [ex] at h
    exact (hk _ _ _ _ _ _ _ _ X hL hR hF hB h).step fun t q => XS.sipush X.here hx rfl hd q
  | lconst cst =>
    dsimp only [ex] at h
    exact (hk _ _ _ _ _ _ _ _ X hL hR hF hB h).step fun t q => XS.lconst X.here hx rfl hd q
  | aconst_null =>
    dsimp only [ex] at h
    exact (hk _ _ _ _ _ _ _ _ X hL hR hF hB h).step fun t q => XS.aconstNull X.here hx rfl hd q
  | iadd =>
    dsimp only [ex] at h
    replace h := pI_ok h
    obtain ⟨y, S1, rfl, h⟩ := h
    replace h := pI_ok h
    obtain ⟨x, S2, rfl, h⟩ := h
    exact (hk _ _ _ _ _ _ _ _ X hL hR hF hB h).step fun t q => XS.iadd X.here hx rfl hd rfl q
  | isub =>
    dsimp only [ex] at h
    replace h := pI_ok h
    obtain ⟨y, S1, rfl, h⟩ := h
    replace h := pI_ok h
    obtain ⟨x, S2, rfl, h⟩ := h
    exact (hk _ _ _ _ _ _ _ _ X hL hR hF hB h).step fun t q => XS.isub X.here hx rfl hd rfl q
  | imul =>
    dsimp only [ex] at h
    replace h := pI_ok h
    obtain ⟨y, S1, rfl, h⟩ := h
    replace h := pI_ok h
    obtain ⟨x, S2, rfl, h⟩ := h
    exact (hk _ _ _ _ _ _ _ _ X hL hR hF hB h).step fun t q => XS.imul X.here hx rfl hd rfl q
  | iand =>
    dsimp only [ex] at h
    replace h := pI_ok h
    obtain ⟨y, S1, rfl, h⟩ := h
    replace h := pI_ok h
    obtain ⟨x, S2, rfl, h⟩ := h
    exact (hk _ _ _ _ _ _ _ _ X hL hR hF hB h).step fun t q => XS.iand X.here hx rfl hd rfl q
  | ior =>
    dsimp only [ex] at h
    replace h := pI_ok h
    obtain ⟨y, S1, rfl, h⟩ := h
    replace h := pI_ok h
    obtain ⟨x, S2, rfl, h⟩ := h
    exact (hk _ _ _ _ _ _ _ _ X hL hR hF hB h).step fun t q => XS.ior X.here hx rfl hd rfl q
  | ixor =>
    dsimp only [ex] at h
    replace h := pI_ok h
    obtain ⟨y, S1, rfl, h⟩ := h
    replace h := pI_ok h
    obtain ⟨x, S2, rfl, h⟩ := h
    exact (hk _ _ _ _ _ _ _ _ X hL hR hF hB h).step fun t q => XS.ixor X.here hx rfl hd rfl q
  | ishl =>
    dsimp only [ex] at h
    replace h := pI_ok h
    obtain ⟨y, S1, rfl, h⟩ := h
    replace h := pI_ok h
    obtain ⟨x, S2, rfl, h⟩ := h
    exact (hk _ _ _ _ _ _ _ _ X hL hR hF hB h).step fun t q => XS.ishl X.here hx rfl hd rfl q
  | ishr =>
    dsimp only [ex] at h
    replace h := pI_ok h
    obtain ⟨y, S1, rfl, h⟩ := h
    replace h := pI_ok h
    obtain ⟨x, S2, rfl, h⟩ := h
    exact (hk _ _ _ _ _ _ _ _ X hL hR hF hB h).step fun t q => XS.ishr X.here hx rfl hd rfl q
  | iushr =>
    dsimp only [ex] at h
    replace h := pI_ok h
    obtain ⟨y, S1, rfl, h⟩ := h
    replace h := pI_ok h
    obtain ⟨x, S2, rfl, h⟩ := h
    exact (hk _ _ _ _ _ _ _ _ X hL hR hF hB h).step fun t q => XS.iushr X.here hx rfl hd rfl q
  | ladd =>
    dsimp only [ex] at h
    replace h := pL_ok h
    obtain ⟨y, S1, rfl, h⟩ := h
    replace h := pL_ok h
    obtain ⟨x, S2, rfl, h⟩ := h
    exact (hk _ _ _ _ _ _ _ _ X hL hR hF hB h).step fun t q => XS.ladd X.here hx rfl hd rfl q
  | lsub =>
    dsimp only [ex] at h
    replace h := pL_ok h
    obtain ⟨y, S1, rfl, h⟩ := h
    replace h := pL_ok h
    obtain ⟨x, S2, rfl, h⟩ := h
    exact (hk _ _ _ _ _ _ _ _ X hL hR hF hB h).step fun t q => XS.lsub X.here hx rfl hd rfl q
  | lmul =>
    dsimp only [ex] at h
    replace h := pL_ok h
    obtain ⟨y, S1, rfl, h⟩ := h
    replace h := pL_ok h
    obtain ⟨x, S2, rfl, h⟩ := h
    exact (hk _ _ _ _ _ _ _ _ X hL hR hF hB h).step fun t q => XS.lmul X.here hx rfl hd rfl q
  | land =>
    dsimp only [ex] at h
    replace h := pL_ok h
    obtain ⟨y, S1, rfl, h⟩ := h
    replace h := pL_ok h
    obtain ⟨x, S2, rfl, h⟩ := h
    exact (hk _ _ _ _ _ _ _ _ X hL hR hF hB h).step fun t q => XS.land X.here hx rfl hd rfl q
  | lor =>
    dsimp only [ex] at h
    replace h := pL_ok h
    obtain ⟨y, S1, rfl, h⟩ := h
    replace h := pL_ok h
    obtain ⟨x, S2, rfl, h⟩ := h
    exact (hk _ _ _ _ _ _ _ _ X hL hR hF hB h).step fun t q => XS.lor X.here hx rfl hd rfl q
  | lxor =>
    dsimp only [ex] at h
    replace h := pL_ok h
    obtain ⟨y, S1, rfl, h⟩ := h
    replace h := pL_ok h
    obtain ⟨x, S2, rfl, h⟩ := h
    exact (hk _ _ _ _ _ _ _ _ X hL hR hF hB h).step fun t q => XS.lxor X.here hx rfl hd rfl q
  | lcmp =>
    dsimp only [ex] at h
    replace h := pL_ok h
    obtain ⟨y, S1, rfl, h⟩ := h
    replace h := pL_ok h
    obtain ⟨x, S2, rfl, h⟩ := h
    exact (hk _ _ _ _ _ _ _ _ X hL hR hF hB h).step fun t q => XS.lcmp X.here hx rfl hd rfl q
  | lshl =>
    dsimp only [ex] at h
    replace h := pI_ok h
    obtain ⟨y, S1, rfl, h⟩ := h
    replace h := pL_ok h
    obtain ⟨x, S2, rfl, h⟩ := h
    exact (hk _ _ _ _ _ _ _ _ X hL hR hF hB h).step fun t q => XS.lshl X.here hx rfl hd rfl q
  | lshr =>
    dsimp only [ex] at h
    replace h := pI_ok h
    obtain ⟨y, S1, rfl, h⟩ := h
    replace h := pL_ok h
    obtain ⟨x, S2, rfl, h⟩ := h
    exact (hk _ _ _ _ _ _ _ _ X hL hR hF hB h).step fun t q => XS.lshr X.here hx rfl hd rfl q
  | lushr =>
    dsimp only [ex] at h
    replace h := pI_ok h
    obtain ⟨y, S1, rfl, h⟩ := h
    replace h := pL_ok h
    obtain ⟨x, S2, rfl, h⟩ := h
    exact (hk _ _ _ _ _ _ _ _ X hL hR hF hB h).step fun t q => XS.lushr X.here hx rfl hd rfl q
  | idiv =>
    dsimp only [ex] at h
    replace h := pI_ok h
    obtain ⟨y, S1, rfl, h⟩ := h
    replace h := pI_ok h
    obtain ⟨x, S2, rfl, h⟩ := h
    split at h
    · cases h
    · rename_i hy
      exact (hk _ _ _ _ _ _ _ _ X hL hR hF hB h).step fun t q => XS.idiv X.here hx rfl hd rfl hy q
  | irem =>
    dsimp only [ex] at h
    replace h := pI_ok h
    obtain ⟨y, S1, rfl, h⟩ := h
    replace h := pI_ok h
    obtain ⟨x, S2, rfl, h⟩ := h
    split at h
    · cases h
    · rename_i hy
      exact (hk _ _ _ _ _ _ _ _ X hL hR hF hB h).step fun t q => iremM X hx rfl hd rfl hy q
  | ldiv =>
    dsimp only [ex] at h
    replace h := pL_ok h
    obtain ⟨y, S1, rfl, h⟩ := h
    replace h := pL_ok h
    obtain ⟨x, S2, rfl, h⟩ := h
    split at h
    · cases h
    · rename_i hy
      exact (hk _ _ _ _ _ _ _ _ X hL hR hF hB h).step fun t q => XS.ldiv X.here hx rfl hd rfl hy q
  | lrem =>
    dsimp only [ex] at h
    replace h := pL_ok h
    obtain ⟨y, S1, rfl, h⟩ := h
    replace h := pL_ok h
    obtain ⟨x, S2, rfl, h⟩ := h
    split at h
    · cases h
    · rename_i hy
      exact (hk _ _ _ _ _ _ _ _ X hL hR hF hB h).step fun t q => XS.lrem X.here hx rfl hd rfl hy (by rw [lrem_mod]; exact q)
  | ineg =>
    dsimp only [ex] at h
    replace h := pI_ok h
    obtain ⟨x, S1, rfl, h⟩ := h
    exact (hk _ _ _ _ _ _ _ _ X hL hR hF hB h).step fun t q => XS.ineg X.here hx rfl hd rfl q
  | i2b =>
    dsimp only [ex] at h
    replace h := pI_ok h
    obtain ⟨x, S1, rfl, h⟩ := h
    exact (hk _ _ _ _ _ _ _ _ X hL hR hF hB h).step fun t q => XS.i2b X.here hx rfl hd rfl q
  | i2c =>
    dsimp only [ex] at h
    replace h := pI_ok h
    obtain ⟨x, S1, rfl, h⟩ := h
    exact (hk _ _ _ _ _ _ _ _ X hL hR hF hB h).step fun t q => XS.i2c X.here hx rfl hd rfl q
  | i2s =>
    dsimp only [ex] at h
    replace h := pI_ok h
    obtain ⟨x, S1, rfl, h⟩ := h
    exact (hk _ _ _ _ _ _ _ _ X hL hR hF hB h).step fun t q => XS.i2s X.here hx rfl hd rfl q
  | i2l =>
    dsimp only [ex] at h
    replace h := pI_ok h
    obtain ⟨x, S1, rfl, h⟩ := h
    exact (hk _ _ _ _ _ _ _ _ X hL hR hF hB h).step fun t q => XS.i2l X.here hx rfl hd rfl q
  | l2i =>
    dsimp only [ex] at h
    replace h := pL_ok h
    obtain ⟨x, S1, rfl, h⟩ := h
    exact (hk _ _ _ _ _ _ _ _ X hL hR hF hB h).step fun t q => XS.l2i X.here hx rfl hd rfl q
  | lneg =>
    dsimp only [ex] at h
    replace h := pL_ok h
    obtain ⟨x, S1, rfl, h⟩ := h
    exact (hk _ _ _ _ _ _ _ _ X hL hR hF hB h).step fun t q => XS.lneg X.here hx rfl hd rfl q
  | dup =>
    dsimp only [ex] at h
    replace h := p1_ok (σ := σ) h
    obtain ⟨x, S1, rfl, h, h1⟩ := h
    exact (hk _ _ _ _ _ _ _ _ X hL hR hF hB h).step fun t q => XS.dup X.here hx rfl hd rfl h1 q
  | pop =>
    dsimp only [ex] at h
    replace h := p1_ok (σ := σ) h
    obtain ⟨x, S1, rfl, h, h1⟩ := h
    exact (hk _ _ _ _ _ _ _ _ X hL hR hF hB h).step fun t q => XS.pop X.here hx rfl hd rfl h1 q
  | dup_x1 =>
    dsimp only [ex] at h
    replace h := p1_ok (σ := σ) h
    obtain ⟨x, S1, rfl, h, h1⟩ := h
    replace h := p1_ok (σ := σ) h
    obtain ⟨y, S2, rfl, h, h2⟩ := h
    exact (hk _ _ _ _ _ _ _ _ X hL hR hF hB h).step fun t q => XS.dupX1 X.here hx rfl hd rfl h1 h2 q
  | dup2 =>
    dsimp only [ex] at h
    replace h := p1_ok (σ := σ) h
    obtain ⟨x, S1, rfl, h, h1⟩ := h
    replace h := p1_ok (σ := σ) h
    obtain ⟨y, S2, rfl, h, h2⟩ := h
    exact (hk _ _ _ _ _ _ _ _ X hL hR hF hB h).step fun t q => XT.dup2 X.here hx rfl hd rfl h1 h2 q
  | goto o =>
    dsimp only [ex] at h
    split at h
    · rename_i ho
      exact (hk _ _ _ _ _ _ _ _ X hL hR hF hB h).step fun t q => XS.goto X.here hx rfl rfl hd ho rfl q
    · cases h
  | ifCond cd o =>
    dsimp only [ex] at h
    replace h := pI_ok h
    obtain ⟨x, S1, rfl, h⟩ := h
    replace h := br_ok h
    obtain ⟨ho, ⟨hc, h⟩ | ⟨hc, h⟩⟩ := h
    · exact (hk _ _ _ _ _ _ _ _ X hL hR hF hB h).step fun t q => XS.ifYes X.here hx rfl rfl hd rfl hc ho rfl q
    · exact (hk _ _ _ _ _ _ _ _ X hL hR hF hB h).step fun t q => XS.ifNo X.here hx rfl hd rfl hc q
  | if_icmp cd o =>
    dsimp only [ex] at h
    replace h := pI_ok h
    obtain ⟨y, S1, rfl, h⟩ := h
    replace h := pI_ok h
    obtain ⟨x, S2, rfl, h⟩ := h
    replace h := br_ok h
    obtain ⟨ho, ⟨hc, h⟩ | ⟨hc, h⟩⟩ := h
    · exact (hk _ _ _ _ _ _ _ _ X hL hR hF hB h).step fun t q => XS.icmpYes X.here hx rfl rfl hd rfl hc ho rfl q
    · exact (hk _ _ _ _ _ _ _ _ X hL hR hF hB h).step fun t q => XS.icmpNo X.here hx rfl hd rfl hc q
  | ifnull o =>
    dsimp only [ex] at h
    replace h := pA_ok h
    obtain ⟨x, S1, rfl, h, hr⟩ := h
    replace h := br_ok h
    obtain ⟨ho, ⟨hc, h⟩ | ⟨hc, h⟩⟩ := h
    · rcases hr with rfl | ⟨a, rfl⟩
      · exact (hk _ _ _ _ _ _ _ _ X hL hR hF hB h).step fun t q => XS.ifnullYes X.here hx rfl rfl hd rfl ho rfl q
      · cases hc
    · rcases hr with rfl | ⟨a, rfl⟩
      · cases hc
      · exact (hk _ _ _ _ _ _ _ _ X hL hR hF hB h).step fun t q => XS.ifnullNo X.here hx rfl hd rfl q
  | ifnonnull o =>
    dsimp only [ex] at h
    replace h := pA_ok h
    obtain ⟨x, S1, rfl, h, hr⟩ := h
    replace h := br_ok h
    obtain ⟨ho, ⟨hc, h⟩ | ⟨hc, h⟩⟩ := h
    · rcases hr with rfl | ⟨a, rfl⟩
      · cases hc
      · exact (hk _ _ _ _ _ _ _ _ X hL hR hF hB h).step fun t q => XS.ifnonnullYes X.here hx rfl rfl hd rfl ho rfl q
    · rcases hr with rfl | ⟨a, rfl⟩
      · exact (hk _ _ _ _ _ _ _ _ X hL hR hF hB h).step fun t q => XS.ifnonnullNo X.here hx rfl hd rfl q
      · cases hc
  | if_acmp cd o =>
    dsimp only [ex] at h
    replace h := pA_ok h
    obtain ⟨y, S1, rfl, h, hr⟩ := h
    replace h := pA_ok h
    obtain ⟨x, S2, rfl, h, hr'⟩ := h
    replace h := br_ok h
    obtain ⟨ho, ⟨hc, h⟩ | ⟨hc, h⟩⟩ := h
    · exact (hk _ _ _ _ _ _ _ _ X hL hR hF hB h).step fun t q => acmp X hx rfl (ref_of hr').1 (ref_of hr).1 (same := refEq x y) rfl hd rfl (refEq_ok hsg hr' hr) ho (by rw [if_pos hc]) q
    · exact (hk _ _ _ _ _ _ _ _ X hL hR hF hB h).step fun t q => acmp X hx rfl (ref_of hr').1 (ref_of hr).1 (same := refEq x y) rfl hd rfl (refEq_ok hsg hr' hr) ho (by rw [if_neg (by simp [hc])]) q
  | arraylength =>
    dsimp only [ex] at h
    replace h := pR_ok h
    obtain ⟨a, S1, rfl, h⟩ := h
    replace h := bind_ok h
    obtain ⟨⟨ty, vs⟩, h1, h⟩ := h
    obtain ⟨cell, A, hs, hl, hfi, -⟩ := hR.2.2.2 _ _ (arr_some h1)
    have hz : cell.slots.size.toInt32 = vs.length.toInt32 := by rw [hs]; simp
    have D := hk _ _ _ _ _ _ _ _ X hL hR hF hB h
    refine D.step fun t q => ?_
    refine X.arraylength hx (cell := cell) A.1 (State.isArrayOf_alike hZ.alike A.2.1) (g := mkF m pc (cL σ L) (.ref (σ a) :: S1.map (cv σ))) rfl rfl hd t ?_
    rw [hz]
    exact q
  | iaload =>
    dsimp only [ex, ald] at h
    replace h := pI_ok h
    obtain ⟨j, S1, rfl, h⟩ := h
    replace h := pR_ok h
    obtain ⟨a, S2, rfl, h⟩ := h
    replace h := bind_ok h
    obtain ⟨⟨ty, vs⟩, h1, h⟩ := h
    split at h
    · rename_i hq
      replace h := bind_ok h
      obtain ⟨v, h2, h⟩ := h
      obtain ⟨cell, A, hs, hl, hfi, -⟩ := hR.2.2.2 _ _ (arr_some h1)
      obtain rfl : ty = .int := of_decide_eq_true hq.1
      have hv : cell.slots[j.toNatClampNeg]? = some (cv σ v) := by rw [hs, List.getElem?_toArray, List.getElem?_map, h2]; rfl
      exact (hk _ _ _ _ _ _ _ _ X hL hR hF hB h).step fun t q => X.iaload hx (cell := cell) (j := j) (v := cv σ v) A.1 (State.isArrayOf_alike hZ.alike A.2.1) A.2.2 (inB hq.2 hv) hv (g := mkF m pc (cL σ L) (.int j :: .ref (σ a) :: S2.map (cv σ))) rfl rfl hd t q
    · cases h
  | baload =>
    dsimp only [ex, ald] at h
    replace h := pI_ok h
    obtain ⟨j, S1, rfl, h⟩ := h
    replace h := pR_ok h
    obtain ⟨a, S2, rfl, h⟩ := h
    replace h := bind_ok h
    obtain ⟨⟨ty, vs⟩, h1, h⟩ := h
    split at h
    · rename_i hq
      replace h := bind_ok h
      obtain ⟨v, h2, h⟩ := h
      obtain ⟨cell, A, hs, hl, hfi, -⟩ := hR.2.2.2 _ _ (arr_some h1)
      have hv : cell.slots[j.toNatClampNeg]? = some (cv σ v) := by rw [hs, List.getElem?_toArray, List.getElem?_map, h2]; rfl
      cases ty with
      | byte => exact (hk _ _ _ _ _ _ _ _ X hL hR hF hB h).step fun t q => X.baloadBytes hx (cell := cell) (j := j) (v := cv σ v) A.1 (State.isArrayOf_alike hZ.alike A.2.1) A.2.2 (inB hq.2 hv) hv (g := mkF m pc (cL σ L) (.int j :: .ref (σ a) :: S2.map (cv σ))) rfl rfl hd t q
      | boolean => exact (hk _ _ _ _ _ _ _ _ X hL hR hF hB h).step fun t q => X.baloadBooleans hx (cell := cell) (j := j) (v := cv σ v) A.1 (State.isArrayOf_alike hZ.alike A.2.1) A.2.2 (inB hq.2 hv) hv (g := mkF m pc (cL σ L) (.int j :: .ref (σ a) :: S2.map (cv σ))) rfl rfl hd t q
      | _ => exact nomatch (show false = true from hq.1)
    · cases h
  | caload =>
    dsimp only [ex, ald] at h
    replace h := pI_ok h
    obtain ⟨j, S1, rfl, h⟩ := h
    replace h := pR_ok h
    obtain ⟨a, S2, rfl, h⟩ := h
    replace h := bind_ok h
    obtain ⟨⟨ty, vs⟩, h1, h⟩ := h
    split at h
    · rename_i hq
      replace h := bind_ok h
      obtain ⟨v, h2, h⟩ := h
      obtain ⟨cell, A, hs, hl, hfi, -⟩ := hR.2.2.2 _ _ (arr_some h1)
      obtain rfl : ty = .char := of_decide_eq_true hq.1
      have hv : cell.slots[j.toNatClampNeg]? = some (cv σ v) := by rw [hs, List.getElem?_toArray, List.getElem?_map, h2]; rfl
      exact (hk _ _ _ _ _ _ _ _ X hL hR hF hB h).step fun t q => X.caload hx (cell := cell) (j := j) (v := cv σ v) A.1 (State.isArrayOf_alike hZ.alike A.2.1) A.2.2 (inB hq.2 hv) hv (g := mkF m pc (cL σ L) (.int j :: .ref (σ a) :: S2.map (cv σ))) rfl rfl hd t q
    · cases h
  | laload =>
    dsimp only [ex, ald] at h
    replace h := pI_ok h
    obtain ⟨j, S1, rfl, h⟩ := h
    replace h := pR_ok h
    obtain ⟨a, S2, rfl, h⟩ := h
    replace h := bind_ok h
    obtain ⟨⟨ty, vs⟩, h1, h⟩ := h
    split at h
    · rename_i hq
      replace h := bind_ok h
      obtain ⟨v, h2, h⟩ := h
      obtain ⟨cell, A, hs, hl, hfi, -⟩ := hR.2.2.2 _ _ (arr_some h1)
      obtain rfl : ty = .long := of_decide_eq_true hq.1
      have hv : cell.slots[j.toNatClampNeg]? = some (cv σ v) := by rw [hs, List.getElem?_toArray, List.getElem?_map, h2]; rfl
      exact (hk _ _ _ _ _ _ _ _ X hL hR hF hB h).step fun t q => X.laload hx (cell := cell) (j := j) (v := cv σ v) A.1 (State.isArrayOf_alike hZ.alike A.2.1) A.2.2 (inB hq.2 hv) hv (g := mkF m pc (cL σ L) (.int j :: .ref (σ a) :: S2.map (cv σ))) rfl rfl hd t q
    · cases h
  | aaload =>
    dsimp only [ex, ald] at h
    replace h := pI_ok h
    obtain ⟨j, S1, rfl, h⟩ := h
    replace h := pR_ok h
    obtain ⟨a, S2, rfl, h⟩ := h
    replace h := bind_ok h
    obtain ⟨⟨ty, vs⟩, h1, h⟩ := h
    split at h
    · rename_i hq
      replace h := bind_ok h
      obtain ⟨v, h2, h⟩ := h
      obtain ⟨cell, A, hs, hl, hfi, -⟩ := hR.2.2.2 _ _ (arr_some h1)
      have hv : cell.slots[j.toNatClampNeg]? = some (cv σ v) := by rw [hs, List.getElem?_toArray, List.getElem?_map, h2]; rfl
      exact (hk _ _ _ _ _ _ _ _ X hL hR hF hB h).step fun t q => X.aaload hx (cell := cell) (j := j) (v := cv σ v) A.1 (State.isArrayOf_alike hZ.alike A.2.1) hq.1 A.2.2 (inB hq.2 hv) hv (g := mkF m pc (cL σ L) (.int j :: .ref (σ a) :: S2.map (cv σ))) rfl rfl hd t q
    · cases h
  | iastore =>
    dsimp only [ex, ast] at h
    replace h := pI_ok h
    obtain ⟨x, S0, rfl, h⟩ := h
    replace h := pI_ok h
    obtain ⟨j, S1, rfl, h⟩ := h
    replace h := pR_ok h
    obtain ⟨a, S2, rfl, h⟩ := h
    replace h := bind_ok h
    obtain ⟨⟨ty, vs⟩, h1, h⟩ := h
    split at h
    · rename_i hq
      obtain rfl : ty = .int := of_decide_eq_true hq.1
      obtain ⟨cell, A, hs, hl, hfi, -⟩ := hR.2.2.2 _ _ (arr_some h1)
      obtain ⟨T', h', X', e', W, st⟩ := stI X hx hZ rfl A (j := j) (x := x) (by rw [hs]; simpa using And.intro hq.2.1 hq.2.2.1) (g := mkF m pc (cL σ L) _) rfl rfl hd
      refine (hk _ _ _ _ _ _ _ _ X' hL (e' ▸ hR.write hsg hq.2.2.2 W (RepO.arr (hR.2.2.2 _ _ (arr_some h1)) (v := .int _) (rfl) W)) (Fr.snoc X' hF (hsg.new hq.2.2.2)) hB h).step st
    · cases h
  | bastore =>
    dsimp only [ex, ast] at h
    replace h := pI_ok h
    obtain ⟨x, S0, rfl, h⟩ := h
    replace h := pI_ok h
    obtain ⟨j, S1, rfl, h⟩ := h
    replace h := pR_ok h
    obtain ⟨a, S2, rfl, h⟩ := h
    replace h := bind_ok h
    obtain ⟨⟨ty, vs⟩, h1, h⟩ := h
    split at h
    · rename_i hq
      obtain rfl : ty = .byte := of_decide_eq_true hq.1
      obtain ⟨cell, A, hs, hl, hfi, -⟩ := hR.2.2.2 _ _ (arr_some h1)
      obtain ⟨T', h', X', e', W, st⟩ := stB X hx hZ rfl A (j := j) (x := x) (by rw [hs]; simpa using And.intro hq.2.1 hq.2.2.1) (g := mkF m pc (cL σ L) _) rfl rfl hd
      refine (hk _ _ _ _ _ _ _ _ X' hL (e' ▸ hR.write hsg hq.2.2.2 W (RepO.arr (hR.2.2.2 _ _ (arr_some h1)) (v := .int _) (fits_nar_byte _) W)) (Fr.snoc X' hF (hsg.new hq.2.2.2)) hB h).step st
    · cases h
  | castore =>
    dsimp only [ex, ast] at h
    replace h := pI_ok h
    obtain ⟨x, S0, rfl, h⟩ := h
    replace h := pI_ok h
    obtain ⟨j, S1, rfl, h⟩ := h
    replace h := pR_ok h
    obtain ⟨a, S2, rfl, h⟩ := h
    replace h := bind_ok h
    obtain ⟨⟨ty, vs⟩, h1, h⟩ := h
    split at h
    · rename_i hq
      obtain rfl : ty = .char := of_decide_eq_true hq.1
      obtain ⟨cell, A, hs, hl, hfi, -⟩ := hR.2.2.2 _ _ (arr_some h1)
      obtain ⟨T', h', X', e', W, st⟩ := stC X hx hZ rfl A (j := j) (x := x) (by rw [hs]; simpa using And.intro hq.2.1 hq.2.2.1) (g := mkF m pc (cL σ L) _) rfl rfl hd
      refine (hk _ _ _ _ _ _ _ _ X' hL (e' ▸ hR.write hsg hq.2.2.2 W (RepO.arr (hR.2.2.2 _ _ (arr_some h1)) (v := .int _) (fits_nar_char _) W)) (Fr.snoc X' hF (hsg.new hq.2.2.2)) hB h).step st
    · cases h
  | lastore =>
    dsimp only [ex, astL] at h
    replace h := pL_ok h
    obtain ⟨x, S0, rfl, h⟩ := h
    replace h := pI_ok h
    obtain ⟨j, S1, rfl, h⟩ := h
    replace h := pR_ok h
    obtain ⟨a, S2, rfl, h⟩ := h
    replace h := bind_ok h
    obtain ⟨⟨ty, vs⟩, h1, h⟩ := h
    split at h
    · rename_i hq
      obtain rfl : ty = .long := hq.1
      obtain ⟨cell, A, hs, hl, hfi, -⟩ := hR.2.2.2 _ _ (arr_some h1)
      obtain ⟨T', h', X', e', W, st⟩ := stJ X hx hZ rfl A (j := j) (x := x) (by rw [hs]; simpa using And.intro hq.2.1 hq.2.2.1) (g := mkF m pc (cL σ L) _) rfl rfl hd
      refine (hk _ _ _ _ _ _ _ _ X' hL (e' ▸ hR.write hsg hq.2.2.2 W (RepO.arr (hR.2.2.2 _ _ (arr_some h1)) (v := .long _) rfl W)) (Fr.snoc X' hF (hsg.new hq.2.2.2)) hB h).step st
    · cases h
  | ldc i =>
    dsimp only [ex, spc] at h
    replace h := bind_ok h
    obtain ⟨act, h1, h⟩ := h
    replace h := bind_ok h
    obtain ⟨⟨S', H', cs', ss'⟩, h2, h⟩ := h
    obtain ⟨T', locs', X', hR', hF', hB', st⟩ := look_good (q := 0) hE h1 T locs cs ss pc L S H S' H' cs' ss' X hd hL hR hF hB h2
    exact (hk _ _ _ _ _ _ _ _ X' hL hR' hF' hB' h).step st
  | ldc_w i =>
    dsimp only [ex, spc] at h
    replace h := bind_ok h
    obtain ⟨act, h1, h⟩ := h
    replace h := bind_ok h
    obtain ⟨⟨S', H', cs', ss'⟩, h2, h⟩ := h
    obtain ⟨T', locs', X', hR', hF', hB', st⟩ := look_good (q := 1) hE h1 T locs cs ss pc L S H S' H' cs' ss' X hd hL hR hF hB h2
    exact (hk _ _ _ _ _ _ _ _ X' hL hR' hF' hB' h).step st
  | ldc2_w i =>
    dsimp only [ex, spc] at h
    replace h := bind_ok h
    obtain ⟨act, h1, h⟩ := h
    replace h := bind_ok h
    obtain ⟨⟨S', H', cs', ss'⟩, h2, h⟩ := h
    obtain ⟨T', locs', X', hR', hF', hB', st⟩ := look_good (q := 2) hE h1 T locs cs ss pc L S H S' H' cs' ss' X hd hL hR hF hB h2
    exact (hk _ _ _ _ _ _ _ _ X' hL hR' hF' hB' h).step st
  | getfield i =>
    dsimp only [ex, spc] at h
    replace h := bind_ok h
    obtain ⟨act, h1, h⟩ := h
    replace h := bind_ok h
    obtain ⟨⟨S', H', cs', ss'⟩, h2, h⟩ := h
    obtain ⟨T', locs', X', hR', hF', hB', st⟩ := look_good (q := 3) hE h1 T locs cs ss pc L S H S' H' cs' ss' X hd hL hR hF hB h2
    exact (hk _ _ _ _ _ _ _ _ X' hL hR' hF' hB' h).step st
  | putfield i =>
    dsimp only [ex, spc] at h
    replace h := bind_ok h
    obtain ⟨act, h1, h⟩ := h
    replace h := bind_ok h
    obtain ⟨⟨S', H', cs', ss'⟩, h2, h⟩ := h
    obtain ⟨T', locs', X', hR', hF', hB', st⟩ := look_good (q := 4) hE h1 T locs cs ss pc L S H S' H' cs' ss' X hd hL hR hF hB h2
    exact (hk _ _ _ _ _ _ _ _ X' hL hR' hF' hB' h).step st
  | getstatic i =>
    dsimp only [ex, spc] at h
    replace h := bind_ok h
    obtain ⟨act, h1, h⟩ := h
    replace h := bind_ok h
    obtain ⟨⟨S', H', cs', ss'⟩, h2, h⟩ := h
    obtain ⟨T', locs', X', hR', hF', hB', st⟩ := look_good (q := 5) hE h1 T locs cs ss pc L S H S' H' cs' ss' X hd hL hR hF hB h2
    exact (hk _ _ _ _ _ _ _ _ X' hL hR' hF' hB' h).step st
  | new i =>
    dsimp only [ex, spc] at h
    replace h := bind_ok h
    obtain ⟨act, h1, h⟩ := h
    replace h := bind_ok h
    obtain ⟨⟨S', H', cs', ss'⟩, h2, h⟩ := h
    obtain ⟨T', locs', X', hR', hF', hB', st⟩ := look_good (q := 6) hE h1 T locs cs ss pc L S H S' H' cs' ss' X hd hL hR hF hB h2
    exact (hk _ _ _ _ _ _ _ _ X' hL hR' hF' hB' h).step st
  | invokestatic i =>
    dsimp only [ex, spc] at h
    replace h := bind_ok h
    obtain ⟨act, h1, h⟩ := h
    replace h := bind_ok h
    obtain ⟨⟨S', H', cs', ss'⟩, h2, h⟩ := h
    obtain ⟨T', locs', X', hR', hF', hB', st⟩ := look_good (q := 7) hE h1 T locs cs ss pc L S H S' H' cs' ss' X hd hL hR hF hB h2
    exact (hk _ _ _ _ _ _ _ _ X' hL hR' hF' hB' h).step st
  | invokespecial i =>
    dsimp only [ex, spc] at h
    replace h := bind_ok h
    obtain ⟨act, h1, h⟩ := h
    replace h := bind_ok h
    obtain ⟨⟨S', H', cs', ss'⟩, h2, h⟩ := h
    obtain ⟨T', locs', X', hR', hF', hB', st⟩ := look_good (q := 8) hE h1 T locs cs ss pc L S H S' H' cs' ss' X hd hL hR hF hB h2
    exact (hk _ _ _ _ _ _ _ _ X' hL hR' hF' hB' h).step st
  | invokevirtual i =>
    dsimp only [ex, spc] at h
    replace h := bind_ok h
    obtain ⟨act, h1, h⟩ := h
    replace h := bind_ok h
    obtain ⟨⟨S', H', cs', ss'⟩, h2, h⟩ := h
    obtain ⟨T', locs', X', hR', hF', hB', st⟩ := look_good (q := 9) hE h1 T locs cs ss pc L S H S' H' cs' ss' X hd hL hR hF hB h2
    exact (hk _ _ _ _ _ _ _ _ X' hL hR' hF' hB' h).step st
  | checkcast i =>
    dsimp only [ex, spc] at h
    replace h := bind_ok h
    obtain ⟨act, h1, h⟩ := h
    replace h := bind_ok h
    obtain ⟨⟨S', H', cs', ss'⟩, h2, h⟩ := h
    obtain ⟨T', locs', X', hR', hF', hB', st⟩ := look_good (q := 10) hE h1 T locs cs ss pc L S H S' H' cs' ss' X hd hL hR hF hB h2
    exact (hk _ _ _ _ _ _ _ _ X' hL hR' hF' hB' h).step st
  | instanceof i =>
    dsimp only [ex, spc] at h
    replace h := bind_ok h
    obtain ⟨act, h1, h⟩ := h
    replace h := bind_ok h
    obtain ⟨⟨S', H', cs', ss'⟩, h2, h⟩ := h
    obtain ⟨T', locs', X', hR', hF', hB', st⟩ := look_good (q := 11) hE h1 T locs cs ss pc L S H S' H' cs' ss' X hd hL hR hF hB h2
    exact (hk _ _ _ _ _ _ _ _ X' hL hR' hF' hB' h).step st
  | anewarray i =>
    dsimp only [ex, spc] at h
    replace h := bind_ok h
    obtain ⟨act, h1, h⟩ := h
    replace h := bind_ok h
    obtain ⟨⟨S', H', cs', ss'⟩, h2, h⟩ := h
    obtain ⟨T', locs', X', hR', hF', hB', st⟩ := look_good (q := 12) hE h1 T locs cs ss pc L S H S' H' cs' ss' X hd hL hR hF hB h2
    exact (hk _ _ _ _ _ _ _ _ X' hL hR' hF' hB' h).step st
  | newarray ty =>
    dsimp only [ex, spc] at h
    replace h := bind_ok h
    obtain ⟨act, h1, h⟩ := h
    replace h := bind_ok h
    obtain ⟨⟨S', H', cs', ss'⟩, h2, h⟩ := h
    have g1 := look_good (q := 13) hE h1
    rw [show insOf 13 (atn ty) = .newarray ty from by cases ty <;> rfl] at g1
    obtain ⟨T', locs', X', hR', hF', hB', st⟩ := g1 T locs cs ss pc L S H S' H' cs' ss' X hd hL hR hF hB h2
    exact (hk _ _ _ _ _ _ _ _ X' hL hR' hF' hB' h).step st
  | ireturn =>
    dsimp only [ex, rI] at h
    replace h := pI_ok h
    obtain ⟨z, S1, rfl, h⟩ := h
    split at h
    · cases h
      obtain ⟨fs, hr, hrun, hended, hW, hsame⟩ := X.leave (v := some (.int z)) (fun q => by rw [hrt] at q; cases q) hlk
      exact ⟨_, retOut X hx hrt rfl (Or.inl ⟨rfl, Or.inl rfl, z, rfl⟩) hd hr, hrun, hended, hR, locs, hF, hW, hsame.mono hB.1 hB.2⟩
    · cases h
      obtain ⟨fs, hr, hrun, hended, hW, hsame⟩ := X.leave (v := some (.int (z &&& 1))) (fun q => by rw [hrt] at q; cases q) hlk
      exact ⟨_, retN X hx (t := .boolean) (z := z) hrt (by simp) hd hr, hrun, hended, hR, locs, hF, hW, hsame.mono hB.1 hB.2⟩
    · cases h
      obtain ⟨fs, hr, hrun, hended, hW, hsame⟩ := X.leave (v := some (.int z.toInt8.toInt32)) (fun q => by rw [hrt] at q; cases q) hlk
      exact ⟨_, retN X hx (t := .byte) (z := z) hrt (by simp) hd hr, hrun, hended, hR, locs, hF, hW, hsame.mono hB.1 hB.2⟩
    · cases h
      obtain ⟨fs, hr, hrun, hended, hW, hsame⟩ := X.leave (v := some (.int z.toUInt32.toUInt16.toUInt32.toInt32)) (fun q => by rw [hrt] at q; cases q) hlk
      exact ⟨_, retN X hx (t := .char) (z := z) hrt (by simp) hd hr, hrun, hended, hR, locs, hF, hW, hsame.mono hB.1 hB.2⟩
    · cases h
      obtain ⟨fs, hr, hrun, hended, hW, hsame⟩ := X.leave (v := some (.int z.toInt16.toInt32)) (fun q => by rw [hrt] at q; cases q) hlk
      exact ⟨_, retN X hx (t := .short) (z := z) hrt (by simp) hd hr, hrun, hended, hR, locs, hF, hW, hsame.mono hB.1 hB.2⟩
    · cases h
  | lreturn =>
    dsimp only [ex, rL] at h
    replace h := pL_ok h
    obtain ⟨z, S1, rfl, h⟩ := h
    split at h
    · cases h
      obtain ⟨fs, hr, hrun, hended, hW, hsame⟩ := X.leave (v := some (.long z)) (fun q => by rw [hrt] at q; cases q) hlk
      exact ⟨_, retOut X hx hrt rfl (Or.inr (Or.inl ⟨rfl, rfl, z, rfl⟩)) hd hr, hrun, hended, hR, locs, hF, hW, hsame.mono hB.1 hB.2⟩
    · cases h
  | areturn =>
    dsimp only [ex, rA] at h
    replace h := pA_ok h
    obtain ⟨z, S1, rfl, h, hq⟩ := h
    split at h
    · cases h
      obtain ⟨fs, hr, hrun, hended, hW, hsame⟩ := X.leave (v := some (cv σ z)) (fun q => by rw [hrt] at q; cases q) hlk
      exact ⟨_, retOut X hx hrt (by cases z <;> rfl) (Or.inr (Or.inr (Or.inr (Or.inr ⟨rfl, rfl, (ref_of hq).1⟩)))) hd hr, hrun, hended, hR, locs, hF, hW, hsame.mono hB.1 hB.2⟩
    · cases h
      obtain ⟨fs, hr, hrun, hended, hW, hsame⟩ := X.leave (v := some (cv σ z)) (fun q => by rw [hrt] at q; cases q) hlk
      exact ⟨_, retOut X hx hrt (by cases z <;> rfl) (Or.inr (Or.inr (Or.inr (Or.inr ⟨rfl, rfl, (ref_of hq).1⟩)))) hd hr, hrun, hended, hR, locs, hF, hW, hsame.mono hB.1 hB.2⟩
    · cases h
  | return_ =>
    dsimp only [ex, rV] at h
    split at h
    · cases h
      obtain ⟨fs, hr, hrun, hended, hW, hsame⟩ := X.leave (v := none) (fun _ => rfl) hlk
      exact ⟨_, X.returnOut hx hrt hd hr, hrun, hended, hR, locs, hF, hW, hsame.mono hB.1 hB.2⟩
    · cases h
  | _ => exact nomatch (show (none : Option ORes) = some res from h)
theorem run_sound {rt : Option FieldType} {E : List (Nat × Nat × Act)} {res : ORes} (hx : p.tables.exec = Jvm.exec) (hZ : Z.Warmed39 s.vm) (hsg : Sg σ x0 n0) (hrt : meth.sig.returnType = rt) (hlk : meth.locks = false) (hE : AllGood p l e R s m args below meth c Z σ x0 n0 K E) :
    ∀ (n : Nat) (T : State) (locs : List Loc) (cs ss pc : Nat) (L : List Slot) (S : List Value) (H : AH), Stand p l e R s m args below meth c T locs cs ss → L.length = c.maxLocals → Rep Z σ x0 n0 K T.heap H → Fr n0 locs → cs ≤ R.cells ∧ ss ≤ R.slots → orun c.code rt E x0 n (pc, L, S, H, cs, ss) = some res → Done p e R s below Z σ x0 n0 K res T (mkF m pc (cL σ L) (S.map (cv σ)))
  | 0, _, _, _, _, _, _, _, _, _, _, _, _, _, h => nomatch (show (none : Option ORes) = some res from h)
  | n + 1, T, locs, cs, ss, pc, L, S, H, X, hL, hR, hF, hB, h => by
    rw [orun_succ] at h
    replace h := bind_ok h
    obtain ⟨i, hi, h⟩ := h
    exact ex_sound hx hZ hsg hrt hlk hE (run_sound hx hZ hsg hrt hlk hE n) X (dec_spec hi) hL hR hF hB h
/-! ## 4. A method's contract off its orun -/
def oflat : List Value → List Slot
  | [] => []
  | v :: r => if v.category = 2 then .val v :: .second :: oflat r else .val v :: oflat r
def ent (as : List Value) (n : Nat) : List Slot := oflat as ++ List.replicate (n - (oflat as).length) .unset
theorem cat_cv (v : Value) : (cv σ v).category = v.category := by cases v <;> rfl
theorem oflat_ok (as : List Value) : ∀ acc : Array Slot, (as.map (cv σ)).foldl (fun acc v => if v.category = 2 then (acc.push (.val v)).push .second else acc.push (.val v)) acc = acc ++ ((oflat as).map (csl σ)).toArray := by
  induction as with
  | nil => intro acc; simp [oflat]
  | cons v r ih =>
    intro acc
    simp only [List.map_cons, List.foldl_cons, cat_cv, oflat]
    rw [ih]
    split <;> simp [csl]
theorem ent_ok (as : List Value) (n : Nat) : argsToLocals (as.map (cv σ)).toArray n = cL σ (ent as n) := by
  have h := oflat_ok (σ := σ) as #[]
  simp only [argsToLocals, List.foldl_toArray]
  rw [h]
  simp [cL, ent, csl]
/-- what a callee's function says of it -/
def Says (l : Launch) (Z : State) (σ : Nat → Nat) (x0 n0 : Nat) (K : List CD) (y : MethodName) (bytes : ByteArray) (maxL : Nat) (ret : Option FieldType) (ws : List Jvm.Cond) (rm : Room) (F : List Value → AH → Option ORes) : Prop :=
  ∀ (as : List Value) (H : AH) (r : ORes) (h : Heap), F as H = some r → Rep Z σ x0 n0 K h H →
    MetFree l y (head1 (Jvm.Cond.code y bytes maxL ret :: ws) rm) (fun a U => a = (as.map (cv σ)).toArray ∧ Z.Warmed39 U.vm ∧ U.heap = h) (fun _ _ _ _ _ => True) (fun _ U o U' => ∃ v L, o = .returned v ∧ (v = r.1.map (cv σ) ∧ Rep Z σ x0 n0 K U'.heap r.2 ∧ Fr n0 L) ∧ FrameEnd U o U' L rm.cells rm.slots)
def fn (bytes : ByteArray) (maxL : Nat) (ret : Option FieldType) (E : List (Nat × Nat × Act)) (x0 fuel : Nat) (as : List Value) (H : AH) : Option ORes :=
  if (ent as maxL).length = maxL then orun bytes ret E x0 fuel (0, ent as maxL, [], H, 0, 0) else none
theorem says_fn {l : Launch} {Z : State} {σ : Nat → Nat} {x0 n0 : Nat} {K : List CD} {y : MethodName} {bytes : ByteArray} {maxL : Nat} {ret : Option FieldType} {ws : List Jvm.Cond} {rm : Room} {E : List (Nat × Nat × Act)} {fuel : Nat} (hsg : Sg σ x0 n0) (hpl : plainFor y = true)
    (hE : ∀ (p : Program) (e : Env) (s : State) (m : MethodId) (args : Array Value) (below : List Frame) (meth : Method) (c : Code), p.tables.exec = Jvm.exec → c.code = bytes → c.maxLocals = maxL → Z.Warmed39 s.vm → s.vm.findClass y.cls = some m.cls → meth.name = y.name → AllGood p l e rm s m args below meth c Z σ x0 n0 K E) :
    Says l Z σ x0 n0 K y bytes maxL ret ws rm (fn bytes maxL ret E x0 fuel) := by
  intro as H r h hf hR
  unfold fn at hf
  split at hf
  · rename_i hlen
    refine MetFree.of_bodySF hpl hisR ?_
    intro p e s m args below meth c s₁ Bd hml0 hP hK
    obtain ⟨rfl, hZ, hh⟩ := hP
    have hx := Bd.exec
    have hby := Bd.bytes
    have hown : s.vm.findClass y.cls = some m.cls := findClass_of_methodNamed Bd.named
    have hnm := (name_of_methodNamed Bd.named Bd.method).1
    have X0 : Stand p l e rm s m (as.map (cv σ)).toArray below meth c s₁ [] 0 0 := Stand.of_body Bd
    have e0 : s₁.heap = h := by rw [← hh, Bd.state]; rfl
    have D := run_sound hx hZ hsg Bd.returns (BodyLoose.notSynchronized Bd) (hE p e s m _ below meth c hx hby hml0 hZ hown hnm) fuel s₁ [] 0 0 0 (ent as maxL) [] H X0 (hlen.trans hml0.symm) (e0 ▸ hR) (Fr.nil n0) ⟨Nat.zero_le _, Nat.zero_le _⟩ (by rw [hby]; exact hf)
    obtain ⟨t, h1, h2, h3, h4, L, h5, h6, h7⟩ := D
    refine ⟨t, _, castTop (g' := mkF m 0 (cL σ (ent as maxL)) []) ?_ h1, h2, h3, _, L, rfl, ⟨rfl, h4, h5⟩, ⟨_, rfl⟩, h6, h7⟩
    simp only [entryFrame, ent_ok]
  · cases hf
end Sound
/-! ## 5. The steps that ask the sheet's words -/
def obj (H : AH) (k : Nat) : Option (Nat × List Value) := match H[k]? with | some (.inl q) => some q | _ => none
theorem obj_some {H : AH} {k : Nat} {q : Nat × List Value} (e : obj H k = some q) : H[k]? = some (.inl q) := by
  unfold obj at e; split at e
  · rename_i q' hq; cases e; exact hq
  · cases e
def aI (v : Int32) : Act := fun S H cs ss => some (.int v :: S, H, cs, ss)
def aJ (v : Int64) : Act := fun S H cs ss => some (.long v :: S, H, cs, ss)
def aGet (c j : Nat) : Act := fun S H cs ss => match S with
  | .ref a :: r => (obj H a).bind fun q => if q.1 = c then (q.2[j]?).bind fun v => some (v :: r, H, cs, ss) else none
  | _ => none
def aPut (x0 c j : Nat) (ty : FieldType) : Act := fun S H cs ss => match S with
  | v :: .ref a :: r => (obj H a).bind fun q => if q.1 = c ∧ narrow ty v = v ∧ fits ty v = true ∧ x0 ≤ a ∧ j < q.2.length then some (r, H.set a (.inl (c, q.2.set j v)), cs, ss) else none
  | _ => none
def aNew (c n Rc Rs : Nat) (ds : List Value) : Act := fun S H cs ss => if cs + 1 ≤ Rc ∧ ss + n ≤ Rs then some (.ref H.length :: S, H ++ [.inl (c, ds)], cs + 1, ss + n) else none
def aArr (ty : FieldType) (Rc Rs : Nat) : Act := fun S H cs ss => match S with
  | .int n :: r => if ¬ n < 0 ∧ cs + 1 ≤ Rc ∧ ss + n.toNatClampNeg ≤ Rs ∧ n.toNatClampNeg ≤ 67108864 then some (.ref H.length :: r, H ++ [.inr (ty, List.replicate n.toNatClampNeg (defaultValue ty))], cs + 1, ss + n.toNatClampNeg) else none
  | _ => none
def aObj (W : Nat) : Act := fun S H cs ss => match S with
  | .ref _ :: r => if (r.map Value.category).sum ≤ W then some (r, H, cs, ss) else none
  | _ => none
def aCall (na W Rc Rs mc ms : Nat) (F : List Value → AH → Option ORes) : Act := fun S H cs ss =>
  if na ≤ S.length ∧ ((S.drop na).map Value.category).sum ≤ W ∧ cs + mc ≤ Rc ∧ ss + ms ≤ Rs then (F (S.take na).reverse H).bind fun r => some (r.1.toList ++ S.drop na, r.2, cs + mc, ss + ms) else none
def aRecv (na cl W Rc Rs mc ms : Nat) (F : List Value → AH → Option ORes) : Act := fun S H cs ss => match S.drop na with
  | .ref a :: r => (obj H a).bind fun q => if q.1 = cl ∧ na ≤ S.length ∧ (r.map Value.category).sum ≤ W ∧ cs + mc ≤ Rc ∧ ss + ms ≤ Rs then (F (.ref a :: (S.take na).reverse) H).bind fun v => some (v.1.toList ++ r, v.2, cs + mc, ss + ms) else none
  | _ => none
section Acts
variable {p : Program} {l : Launch} {e : Env} {R : Room} {s : State} {m : MethodId} {args : Array Value} {below : List Frame} {meth : Method} {c : Code} {Z : State} {σ : Nat → Nat} {x0 n0 : Nat} {K : List CD} {a0 : Array Value}
theorem okI (hx : p.tables.exec = Jvm.exec) (hZ : Z.Warmed39 s.vm) {own : String} {idx : Nat} {v : Int32} (hown : s.vm.findClass own = some m.cls) (w : (Jvm.Cond.constant own idx v).before a0 Z = true) : Good p l e R s m args below meth c Z σ x0 n0 K (.ldc idx) (aI v) := by
  intro T locs cs ss pc L S H S' H' cs' ss' X hd hL hR hF hB h
  cases h
  exact ⟨T, locs, X, hR, hF, hB, fun t q => X.ldcInt hx hown (mvT hZ w) (g := mkF m pc (cL σ L) _) rfl hd t q⟩
theorem okIW (hx : p.tables.exec = Jvm.exec) (hZ : Z.Warmed39 s.vm) {own : String} {idx : Nat} {v : Int32} (hown : s.vm.findClass own = some m.cls) (w : (Jvm.Cond.constant own idx v).before a0 Z = true) : Good p l e R s m args below meth c Z σ x0 n0 K (.ldc_w idx) (aI v) := by
  intro T locs cs ss pc L S H S' H' cs' ss' X hd hL hR hF hB h
  cases h
  exact ⟨T, locs, X, hR, hF, hB, fun t q => X.ldcwInt hx hown (mvT hZ w) (g := mkF m pc (cL σ L) _) rfl hd t q⟩
theorem okJ (hx : p.tables.exec = Jvm.exec) (hZ : Z.Warmed39 s.vm) {own : String} {idx : Nat} {v : Int64} (hown : s.vm.findClass own = some m.cls) (w : (Jvm.Cond.constantLong own idx v).before a0 Z = true) : Good p l e R s m args below meth c Z σ x0 n0 K (.ldc2_w idx) (aJ v) := by
  intro T locs cs ss pc L S H S' H' cs' ss' X hd hL hR hF hB h
  cases h
  exact ⟨T, locs, X, hR, hF, hB, fun t q => X.ldc2Long hx hown (mvT hZ w) (g := mkF m pc (cL σ L) _) rfl hd t q⟩
theorem okGet (hx : p.tables.exec = Jvm.exec) (hZ : Z.Warmed39 s.vm) {own R0 O n d host C : String} {idx cn j : Nat} {fs : List (String × String × String)} (hown : s.vm.findClass own = some m.cls) (w : (Jvm.Cond.fieldLink own idx R0 n d).before a0 Z = true ∨ (Jvm.Cond.fieldLinkNest own idx R0 n d host).before a0 Z = true) (via : Via Z R0 O n d)
    (hC : K[cn]? = some (C, fs)) (hj : fs[j]? = some (O, n, d)) : Good p l e R s m args below meth c Z σ x0 n0 K (.getfield idx) (aGet cn j) := by
  intro T locs cs ss pc L S H S' H' cs' ss' X hd hL hR hF hB h
  unfold aGet at h
  split at h
  · rename_i a r
    replace h := Option.bind_eq_some_iff.mp h
    obtain ⟨⟨cn', vs⟩, h1, h⟩ := h
    dsimp only at h
    split at h
    · rename_i hcn; subst hcn
      replace h := Option.bind_eq_some_iff.mp h
      obtain ⟨v, h2, h⟩ := h
      cases h
      obtain ⟨C', fs', q1, q2, q3⟩ := hR.2.2.2 _ _ (obj_some h1)
      cases hC.symm.trans q1
      obtain ⟨O', n', d', q4, q5⟩ := q3 j v h2
      cases hj.symm.trans q4
      obtain ⟨T', X', e', st⟩ := getF X hx hZ hown w via rfl q5 (g := mkF m pc (cL σ L) (List.map (cv σ) (.ref a :: r))) rfl rfl hd
      exact ⟨T', locs, X', e' ▸ hR, hF, hB, st⟩
    · cases h
  · cases h
theorem cv_narrow {ty : FieldType} {v : Value} (h : narrow ty v = v) : narrow ty (cv σ v) = cv σ v := by cases v <;> first | exact h | (cases ty <;> rfl)
theorem okPut (hx : p.tables.exec = Jvm.exec) (hZ : Z.Warmed39 s.vm) (hsg : Sg σ x0 n0) (KO : KOk Z a0 K) {own R0 O n d host C : String} {idx cn j : Nat} {ty : FieldType} {fs : List (String × String × String)} (hown : s.vm.findClass own = some m.cls) (w : (Jvm.Cond.fieldLink own idx R0 n d).before a0 Z = true ∨ (Jvm.Cond.fieldLinkNest own idx R0 n d host).before a0 Z = true) (via : Via Z R0 O n d)
    (hC : K[cn]? = some (C, fs)) (hj : fs[j]? = some (O, n, d)) (hty : parseFieldDescriptor d = some ty) (hLay : (Jvm.Cond.lays C O n d).before a0 Z = true ∨ ((Jvm.Cond.laysFinal C O n d).before a0 Z = true ∧ own = O ∧ meth.name = "<init>")) : Good p l e R s m args below meth c Z σ x0 n0 K (.putfield idx) (aPut x0 cn j ty) := by
  intro T locs cs ss pc L S H S' H' cs' ss' X hd hL hR hF hB h
  unfold aPut at h
  split at h
  · rename_i v a r
    replace h := Option.bind_eq_some_iff.mp h
    obtain ⟨⟨cn', vs⟩, h1, h⟩ := h
    dsimp only at h
    split at h
    · rename_i hq
      obtain ⟨rfl, hn, hf, hx0, hjl⟩ := hq
      cases h
      have hRO := hR.2.2.2 _ _ (obj_some h1)
      obtain ⟨C', fs', q1, q2, q3⟩ := hRO
      cases hC.symm.trans q1
      obtain ⟨O', n', d', q4, q5⟩ := q3 j _ (List.getElem?_eq_getElem hjl)
      cases hj.symm.trans q4
      obtain ⟨⟨kk, wi⟩, -⟩ := KO cn' C fs hC
      obtain ⟨T', h', X', e', W, st⟩ := putF X hx hZ hown w via rfl q5 q2 hLay wi hty (cv_narrow hn) ((cv_fits ty v).trans hf) (g := mkF m pc (cL σ L) (List.map (cv σ) (v :: .ref a :: S'))) rfl rfl hd
      exact ⟨T', _, X', e' ▸ hR.write hsg hx0 W (RepO.fld KO hC hj (hR.2.2.2 _ _ (obj_some h1)) W), Fr.snoc X' hF (hsg.new hx0), hB, st⟩
    · cases h
  · cases h
theorem ext_push (h : Heap) (c : Cell) : Ext h (h.push c) := ext_of fun a q => (Array.getElem?_push_lt q).trans (Array.getElem?_eq_getElem q).symm
theorem okNew (hx : p.tables.exec = Jvm.exec) (hZ : Z.Warmed39 s.vm) (hsg : Sg σ x0 n0) (KO : KOk Z a0 K) {own C : String} {idx n cn Rc Rs : Nat} {ds : List Value} {fs : List (String × String × String)} (hown : s.vm.findClass own = some m.cls) (w : (Jvm.Cond.classLink own idx C).before a0 Z = true) (wi : (Jvm.Cond.instantiable C n).before a0 Z = true) (wz : (Jvm.Cond.initialized C).before a0 Z = true)
    (hC : K[cn]? = some (C, fs)) (hds : ds = fs.map fun f => ((parseFieldDescriptor f.2.2).map defaultValue).getD .null) (hRc : Rc ≤ R.cells) (hRs : Rs ≤ R.slots) : Good p l e R s m args below meth c Z σ x0 n0 K (.new idx) (aNew cn n Rc Rs ds) := by
  intro T locs cs ss pc L S H S' H' cs' ss' X hd hL hR hF hB h
  unfold aNew at h
  split at h
  · rename_i hq
    cases h
    obtain ⟨vm', cC, kC, h1, h2, h3, h4, X', st⟩ := X.newCold hx hown (mv hZ w) (mv hZ wi) (mv hZ wz) (g := mkF m pc (cL σ L) (S.map (cv σ))) rfl hd (Nat.le_trans hq.1 hRc) (Nat.le_trans hq.2 hRs)
    have ea : σ H.length = T.heap.size := hR.addr hsg
    have h1' : Z.vm.findClass C = some cC := by rw [← hZ.alike.findClass]; exact h1
    obtain ⟨kZ, z1, -⟩ := Vm.findClass_spec h1'
    obtain ⟨k', z2, z3⟩ := hZ.alike.2.2 _ _ z1
    cases h2.symm.trans z2
    have ei : kC.instanceTypes = kZ.instanceTypes := by rw [z3]
    have hN : (T.heap.push { cls := cC, slots := kC.instanceTypes.map defaultValue, vm := .none })[T.heap.size]? = some { cls := cC, slots := kC.instanceTypes.map defaultValue, vm := .none } := by simp
    refine ⟨_, locs, X', hR.push (ext_push _ _) (by show (T.heap.push _).size = _; simp) ?_, hF, ⟨Nat.le_trans hq.1 hRc, Nat.le_trans hq.2 hRs⟩, ?_⟩
    · rw [ea]
      refine ⟨C, fs, hC, ⟨_, kZ, hN, h1', z1, rfl, fun _ => by simp [ei]⟩, fun j v hj => ?_⟩
      subst hds
      rw [List.getElem?_map, Option.map_eq_some_iff] at hj
      obtain ⟨⟨O, nm, d⟩, q1, q2⟩ := hj
      obtain ⟨-, k2, -⟩ := KO cn C fs hC
      obtain ⟨Ld, ty, ht⟩ := k2 j _ q1
      obtain ⟨c1, k1, cf, kf, i, f, a1, a2, a3, a4, a5, a6, -⟩ := Ld.spec
      cases h1'.symm.trans a1
      cases z1.symm.trans a2
      refine ⟨O, nm, d, q1, _, cf, kf, i, f, hN, a3, a4, by simp, rfl, a5, ?_⟩
      have ht' : parseFieldDescriptor d = some ty := ht
      simp only [ht', Option.map_some, Option.getD_some] at q2
      subst q2
      have hcv : cv σ (defaultValue ty) = defaultValue ty := by cases ty <;> rfl
      simp [ei, a6, (State.fieldFound?_type a3 ht).2, hcv]
    · intro t q
      refine st t ?_
      have q' := q
      simp only [List.map_cons, cv, ea] at q'
      exact q'
  · cases h
theorem okArr (hx : p.tables.exec = Jvm.exec) (hZ : Z.Warmed39 s.vm) (hsg : Sg σ x0 n0) {t : ArrayType} {Rc Rs : Nat} (w : (Jvm.Cond.arrayClass (newarray.typeOf t)).before a0 Z = true) (hRc : Rc ≤ R.cells) (hRs : Rs ≤ R.slots) : Good p l e R s m args below meth c Z σ x0 n0 K (.newarray t) (aArr (newarray.typeOf t) Rc Rs) := by
  intro T locs cs ss pc L S H S' H' cs' ss' X hd hL hR hF hB h
  unfold aArr at h
  split at h
  · rename_i n r
    split at h
    · rename_i hq
      cases h
      have hcb : componentBytes (newarray.typeOf t) ≤ 8 := by cases t <;> decide
      obtain ⟨cA, kA, comp, h1, h2, h3, X', st⟩ := X.newarrayPrim hx (mvA hZ w) (g := mkF m pc (cL σ L) (List.map (cv σ) (.int n :: r))) rfl hd rfl hq.1 (Nat.le_trans (Nat.mul_le_mul hq.2.2.2 hcb) (by decide)) (Nat.le_trans hq.2.1 hRc) (Nat.le_trans hq.2.2.1 hRs)
      have ea : σ H.length = T.heap.size := hR.addr hsg
      have h1' : Z.vm.findClass ("[" ++ (newarray.typeOf t).toString) = some cA := by rw [← hZ.alike.findClass]; exact h1
      obtain ⟨kZ, z1, -⟩ := Vm.findClass_spec h1'
      obtain ⟨k', z2, z3⟩ := hZ.alike.2.2 _ _ z1
      cases h2.symm.trans z2
      have kk : kZ.kind = .array comp (newarray.typeOf t) := by rw [← h3, z3]
      have hcv : cv σ (defaultValue (newarray.typeOf t)) = defaultValue (newarray.typeOf t) := by cases t <;> rfl
      refine ⟨_, locs, X', hR.push (ext_push _ _) (by show (T.heap.push _).size = _; simp) ?_, hF, ⟨Nat.le_trans hq.2.1 hRc, Nat.le_trans hq.2.2.1 hRs⟩, ?_⟩
      · rw [ea]
        refine ⟨newA cA (newarray.typeOf t) n, ⟨by show (T.heap.push _)[T.heap.size]? = _; simp [newA], ⟨by simp [newA], kZ, z1, comp, kk⟩, by simp [newA]⟩, by simp [newA, hcv], ?_, fun v hv => ?_, fun _ => ⟨newA cA (newarray.typeOf t) n, kZ, by show (T.heap.push _)[T.heap.size]? = _; simp [newA], h1', z1, rfl, fun q => by rw [kk] at q; cases q⟩⟩
        · rw [List.length_replicate]; have := hq.2.2.2; omega
        · rw [(List.mem_replicate.mp hv).2]; cases t <;> rfl
      · intro t q
        refine st t ?_
        have q' := q
        simp only [List.map_cons, cv, ea] at q'
        exact q'
    · cases h
  · cases h
theorem cat_sum (r : List Value) : ((r.map (cv σ)).map fun v => v.category).sum = (r.map Value.category).sum := by
  rw [List.map_map]; congr 1; exact List.map_congr_left fun v _ => cat_cv v
theorem okObj (hx : p.tables.exec = Jvm.exec) (hZ : Z.Warmed39 s.vm) {own : String} {idx W : Nat} (hown : s.vm.findClass own = some m.cls) (w1 : (Jvm.Cond.methodLink own idx Lib.objectInit).before a0 Z = true) (w2 : (Jvm.Cond.instanceMethod Lib.objectInit).before a0 Z = true)
    (w3 : (Jvm.Cond.code Lib.objectInit ⟨#[0xb1]⟩ 1 none).before a0 Z = true) (hf : 1 ≤ R.frames) (hl : W + 12 ≤ R.locals) : Good p l e R s m args below meth c Z σ x0 n0 K (.invokespecial idx) (aObj W) := by
  intro T locs cs ss pc L S H S' H' cs' ss' X hd hL hR hF hB h
  unfold aObj at h
  split at h
  · rename_i a r
    split at h
    · rename_i hq
      cases h
      obtain ⟨T', X', e', st⟩ := initO X hx hZ hown w1 w2 w3 rfl (g := mkF m pc (cL σ L) (List.map (cv σ) (.ref a :: S'))) rfl (size_cL.trans hL) rfl hd hf (W := W) (by show 2 * 0 + _ ≤ _; rw [cat_sum]; omega) hl
      exact ⟨T', locs, X', e' ▸ hR, hF, hB, st⟩
    · cases h
  · cases h
theorem args_rev (S : List Value) (na : Nat) : S.map (cv σ) = (((S.take na).reverse).map (cv σ)).reverse ++ (S.drop na).map (cv σ) := by
  rw [List.map_reverse, List.reverse_reverse, ← List.map_append, List.take_append_drop]
theorem toList_map (v : Option Value) (r : List Value) : (v.map (cv σ)).toList ++ r.map (cv σ) = (v.toList ++ r).map (cv σ) := by cases v <;> simp
theorem okStat (hx : p.tables.exec = Jvm.exec) (hZ : Z.Warmed39 s.vm) {own : String} {idx na W Rc Rs maxL : Nat} {y : MethodName} {bytes : ByteArray} {ret rr : Option FieldType} {ps : List FieldType} {rm : Room} {F : List Value → AH → Option ORes} (hF0 : Says l Z σ x0 n0 K y bytes maxL ret [] rm F)
    (hown : s.vm.findClass own = some m.cls) (w1 : (Jvm.Cond.methodLink own idx y).before a0 Z = true) (w2 : (Jvm.Cond.static y).before a0 Z = true) (w3 : (Jvm.Cond.initialized y.cls).before a0 Z = true) (w4 : (Jvm.Cond.code y bytes maxL ret).before a0 Z = true)
    (hy : y.cls ≠ "java/lang/invoke/MethodHandle" ∧ y.cls ≠ "java/lang/invoke/VarHandle") (hd0 : parseMethodDescriptor y.desc = some ⟨ps, rr⟩) (hna : ps.length = na) (hRc : Rc ≤ R.cells) (hRs : Rs ≤ R.slots) (hfr : rm.frames + 1 ≤ R.frames) (hlo : W + (maxL + 11) + rm.locals ≤ R.locals) :
    Good p l e R s m args below meth c Z σ x0 n0 K (.invokestatic idx) (aCall na W Rc Rs rm.cells rm.slots F) := by
  intro T locs cs ss pc L S H S' H' cs' ss' X hd hL hR hF hB h
  unfold aCall at h
  split at h
  · rename_i hq
    replace h := Option.bind_eq_some_iff.mp h
    obtain ⟨⟨v, H1⟩, h1, h⟩ := h
    cases h
    obtain ⟨v', vm1, ⟨T', L', k', n'⟩, -, X', ⟨Lc, ⟨hv, hR', hN⟩, l1, y1, z1⟩, st⟩ := Jvm.LawKit.callS X hx (y := y) hown (mvT hZ w1) (mvT hZ w2) (mvT hZ w3) (mvT hZ w4) hy (backOf (h := T.heap) (W := W) (Q := fun w h' L => w = v.map (cv σ) ∧ Rep Z σ x0 n0 K h' H1 ∧ Fr n0 L) (hF0 _ H _ T.heap h1 hR) hZ w4 w3 hfr hlo) (g := mkF m pc (cL σ L) (S.map (cv σ))) rfl (size_cL.trans hL) (argsL := ((S.take na).reverse).map (cv σ)) (rest := (S.drop na).map (cv σ)) (lenOf hd0 (by rw [hna]; simp; omega)) (args_rev S na) (by show 2 * 0 + _ ≤ _; rw [cat_sum]; omega) hd (fun _ _ => ⟨rfl, rfl, Nat.le_trans hq.2.2.1 hRc, Nat.le_trans hq.2.2.2 hRs⟩)
    dsimp only [Pt.U, Pt.locs, Pt.cells, Pt.slots] at X' l1 y1 z1 st hR'
    subst l1 y1 z1 hv
    refine ⟨T', _, X', hR', hF.app hN, ⟨Nat.le_trans hq.2.2.1 hRc, Nat.le_trans hq.2.2.2 hRs⟩, fun t q => st t ?_⟩
    show Steps p.tables e below (T'.setTop (mkF m (pc + 3) (cL σ L) ((v.map (cv σ)).toList ++ (S.drop na).map (cv σ)))) t
    rw [toList_map]; exact q
  · cases h
theorem okCtor (hx : p.tables.exec = Jvm.exec) (hZ : Z.Warmed39 s.vm) {own : String} {idx na cl W Rc Rs maxL : Nat} {y : MethodName} {bytes : ByteArray} {rr : Option FieldType} {ps : List FieldType} {rm : Room} {F : List Value → AH → Option ORes} (hF0 : Says l Z σ x0 n0 K y bytes maxL none [] rm F) (hy1 : y.name = "<init>")
    (hown : s.vm.findClass own = some m.cls) (w1 : (Jvm.Cond.methodLink own idx y).before a0 Z = true) (w2 : (Jvm.Cond.instanceMethod y).before a0 Z = true) (w3 : (Jvm.Cond.initialized y.cls).before a0 Z = true) (w4 : (Jvm.Cond.code y bytes maxL none).before a0 Z = true)
    (hy : y.cls ≠ "java/lang/invoke/MethodHandle" ∧ y.cls ≠ "java/lang/invoke/VarHandle") (hd0 : parseMethodDescriptor y.desc = some ⟨ps, rr⟩) (hna : ps.length = na) (hRc : Rc ≤ R.cells) (hRs : Rs ≤ R.slots) (hfr : rm.frames + 1 ≤ R.frames) (hlo : W + (maxL + 11) + rm.locals ≤ R.locals) :
    Good p l e R s m args below meth c Z σ x0 n0 K (.invokespecial idx) (aRecv na cl W Rc Rs rm.cells rm.slots F) := by
  intro T locs cs ss pc L S H S' H' cs' ss' X hd hL hR hF hB h
  unfold aRecv at h
  split at h
  · rename_i a r hdr
    replace h := Option.bind_eq_some_iff.mp h
    obtain ⟨q0, h0, h⟩ := h
    split at h
    · rename_i hq
      replace h := Option.bind_eq_some_iff.mp h
      obtain ⟨⟨v, H1⟩, h1, h⟩ := h
      cases h
      have hst : S.map (cv σ) = (((S.take na).reverse).map (cv σ)).reverse ++ .ref (σ a) :: r.map (cv σ) := by rw [args_rev S na, hdr]; rfl
      obtain ⟨v', vm1, ⟨T', L', k', n'⟩, -, X', ⟨Lc, ⟨hv, hR', hN⟩, l1, y1, z1⟩, st⟩ := X.specialBack hx (y := y) hy1 hown (mvT hZ w1) (mvT hZ w2) (mvT hZ w4) hy (backOf (h := T.heap) (W := W) (Q := fun w h' L => w = v.map (cv σ) ∧ Rep Z σ x0 n0 K h' H1 ∧ Fr n0 L) (hF0 _ H _ T.heap h1 hR) hZ w4 w3 hfr hlo) (g := mkF m pc (cL σ L) (S.map (cv σ))) rfl (size_cL.trans hL) (Steps.refl _) (a := σ a) (argsL := ((S.take na).reverse).map (cv σ)) (rest := r.map (cv σ)) (lenOf hd0 (by rw [hna]; simp; omega)) hst (by show 2 * 0 + _ ≤ _; rw [cat_sum]; omega) hd (fun _ _ => ⟨rfl, rfl, Nat.le_trans hq.2.2.2.1 hRc, Nat.le_trans hq.2.2.2.2 hRs⟩)
      dsimp only [Pt.U, Pt.locs, Pt.cells, Pt.slots] at X' l1 y1 z1 st hR'
      subst l1 y1 z1 hv
      refine ⟨T', _, X', hR', hF.app hN, ⟨Nat.le_trans hq.2.2.2.1 hRc, Nat.le_trans hq.2.2.2.2 hRs⟩, fun t q => st.trans ?_⟩
      show Steps p.tables e below (T'.setTop (mkF m (pc + 3) (cL σ L) ((v.map (cv σ)).toList ++ r.map (cv σ)))) t
      rw [toList_map]; exact q
    · cases h
  · cases h
theorem okVirt (hx : p.tables.exec = Jvm.exec) (hZ : Z.Warmed39 s.vm) {own C : String} {idx na cl W Rc Rs maxL : Nat} {y z : MethodName} {bytes : ByteArray} {ret rr : Option FieldType} {ps : List FieldType} {rm : Room} {fs : List (String × String × String)} {F : List Value → AH → Option ORes} (hF0 : Says l Z σ x0 n0 K z bytes maxL ret [] rm F) (hC : K[cl]? = some (C, fs))
    (hown : s.vm.findClass own = some m.cls) (w1 : (Jvm.Cond.methodLink own idx y).before a0 Z = true) (w2 : (Jvm.Cond.declares y).before a0 Z = true) (w5 : (Jvm.Cond.selects C y z).before a0 Z = true) (w6 : (Jvm.Cond.instanceMethod z).before a0 Z = true) (w3 : (Jvm.Cond.initialized z.cls).before a0 Z = true) (w4 : (Jvm.Cond.code z bytes maxL ret).before a0 Z = true)
    (nf : ∀ (s' : State) (ar : Array Value), (Jvm.Cond.selects C y z).before ar s' = true → NotFace s' y) (hy : y.cls ≠ "java/lang/invoke/MethodHandle" ∧ y.cls ≠ "java/lang/invoke/VarHandle") (hd0 : parseMethodDescriptor y.desc = some ⟨ps, rr⟩) (hna : ps.length = na) (hRc : Rc ≤ R.cells) (hRs : Rs ≤ R.slots) (hfr : rm.frames + 1 ≤ R.frames) (hlo : W + (maxL + 11) + rm.locals ≤ R.locals) :
    Good p l e R s m args below meth c Z σ x0 n0 K (.invokevirtual idx) (aRecv na cl W Rc Rs rm.cells rm.slots F) := by
  intro T locs cs ss pc L S H S' H' cs' ss' X hd hL hR hF hB h
  unfold aRecv at h
  split at h
  · rename_i a r hdr
    replace h := Option.bind_eq_some_iff.mp h
    obtain ⟨⟨cn, vs⟩, h0, h⟩ := h
    dsimp only at h
    split at h
    · rename_i hq
      replace h := Option.bind_eq_some_iff.mp h
      obtain ⟨⟨v, H1⟩, h1, h⟩ := h
      cases h
      obtain ⟨rfl, hq⟩ := hq
      obtain ⟨C', fs', q1, q2, -⟩ := hR.2.2.2 _ _ (obj_some h0)
      cases hC.symm.trans q1
      obtain ⟨cB, kB, i1, i2, i3⟩ := isOf (T := T) hZ rfl q2
      have hst : S.map (cv σ) = (((S.take na).reverse).map (cv σ)).reverse ++ .ref (σ a) :: r.map (cv σ) := by rw [args_rev S na, hdr]; rfl
      obtain ⟨v', vm1, ⟨T', L', k', n'⟩, -, X', ⟨Lc, ⟨hv, hR', hN⟩, l1, y1, z1⟩, st⟩ := X.virtualBack hx (y := y) (z := z) hown (mvT hZ w1) (mvT hZ w2) (nf s #[] (mvT hZ w5)) (mvT hZ w5) (mvT hZ w6) hy (backOf (h := T.heap) (W := W) (Q := fun w h' L => w = v.map (cv σ) ∧ Rep Z σ x0 n0 K h' H1 ∧ Fr n0 L) (hF0 _ H _ T.heap h1 hR) hZ w4 w3 hfr hlo) i1 i3 (g := mkF m pc (cL σ L) (S.map (cv σ))) rfl (size_cL.trans hL) (Steps.refl _) (argsL := ((S.take na).reverse).map (cv σ)) (rest := r.map (cv σ)) (lenOf hd0 (by rw [hna]; simp; omega)) hst (by show 2 * 0 + _ ≤ _; rw [cat_sum]; omega) hd (fun _ _ => ⟨rfl, rfl, Nat.le_trans hq.2.2.1 hRc, Nat.le_trans hq.2.2.2 hRs⟩)
      dsimp only [Pt.U, Pt.locs, Pt.cells, Pt.slots] at X' l1 y1 z1 st hR'
      subst l1 y1 z1 hv
      refine ⟨T', _, X', hR', hF.app hN, ⟨Nat.le_trans hq.2.2.1 hRc, Nat.le_trans hq.2.2.2 hRs⟩, fun t q => st.trans ?_⟩
      show Steps p.tables e below (T'.setTop (mkF m (pc + 3) (cL σ L) ((v.map (cv σ)).toList ++ r.map (cv σ)))) t
      rw [toList_map]; exact q
    · cases h
  · cases h
theorem ag_nil : AllGood p l e R s m args below meth c Z σ x0 n0 K [] := trivial
theorem ag_cons {q i : Nat} {act : Act} {E : List (Nat × Nat × Act)} (h : Good p l e R s m args below meth c Z σ x0 n0 K (insOf q i) act) (t : AllGood p l e R s m args below meth c Z σ x0 n0 K E) : AllGood p l e R s m args below meth c Z σ x0 n0 K ((q, i, act) :: E) := ⟨h, t⟩
end Acts
theorem names_inj {fs : List (String × String × String)} (h : (fs.map fun f => f.2.1).Nodup) : ∀ (i j : Nat) (f g : String × String × String), fs[i]? = some f → fs[j]? = some g → f.2.1 = g.2.1 → i = j := by
  intro i j f g hf hg e
  refine (List.getElem?_inj (l := fs.map fun f => f.2.1) (by simpa using (List.getElem?_eq_some_iff.mp hf).1) h).mp ?_
  simp [hf, hg, e]
theorem sg_start {n : Nat} : Sg (fun k => n + k) 0 n := ⟨fun k _ => rfl, fun i h => absurd h (Nat.not_lt_zero _), fun i j h => absurd h (Nat.not_lt_zero _)⟩
theorem rep_start {s : State} {σ : Nat → Nat} {K : List CD} : Rep s σ 0 s.heap.size K s.heap [] := ⟨rfl, Nat.le_refl _, Old.start s, fun k o h => by cases h⟩
end Jvm.Own
namespace Jvm.Own
open Sem ClassFile Op Lib Jvm.RoadKit
/-! ## 6. Rows for evaluating a orun -/
section Ev
variable {x y : Int32} {pc : Nat} {o : Int} {f : Nat → Option ORes} {P : Prop} [Decidable P]
theorem h_eq : if_icmp.holds .eq x y = decide (x = y) := by by_cases h : x = y <;> simp [if_icmp.holds, h]
theorem h_ne : if_icmp.holds .ne x y = !decide (x = y) := by by_cases h : x = y <;> simp [if_icmp.holds, h]
theorem h_lt : if_icmp.holds .lt x y = decide (x < y) := rfl
theorem h_ge : if_icmp.holds .ge x y = !decide (x < y) := by
  by_cases h : x < y
  · simp [if_icmp.holds, h, Int32.not_le.mpr h]
  · simp [if_icmp.holds, h, Int32.not_lt.mp h]
theorem h_gt : if_icmp.holds .gt x y = decide (y < x) := rfl
theorem h_le : if_icmp.holds .le x y = !decide (y < x) := by
  by_cases h : y < x
  · simp [if_icmp.holds, h, Int32.not_le.mpr h]
  · simp [if_icmp.holds, h, Int32.not_lt.mp h]
theorem z_eq : ifCond.holds .eq x = decide (x = 0) := h_eq (y := 0)
theorem z_ne : ifCond.holds .ne x = !decide (x = 0) := h_ne (y := 0)
theorem z_lt : ifCond.holds .lt x = decide (x < 0) := rfl
theorem z_ge : ifCond.holds .ge x = !decide (x < 0) := h_ge (y := 0)
theorem z_gt : ifCond.holds .gt x = decide (0 < x) := rfl
theorem z_le : ifCond.holds .le x = !decide (0 < x) := h_le (y := 0)
theorem br_d : br (decide P) pc o f = if 0 ≤ (pc : Int) + o then (if P then f ((pc : Int) + o).toNat else f (pc + 3)) else none := by unfold br; by_cases h : P <;> simp [h]
theorem br_n : br (!decide P) pc o f = if 0 ≤ (pc : Int) + o then (if P then f (pc + 3) else f ((pc : Int) + o).toNat) else none := by unfold br; by_cases h : P <;> simp [h]
theorem br_t : br true pc o f = if 0 ≤ (pc : Int) + o then f ((pc : Int) + o).toNat else none := rfl
theorem br_f : br false pc o f = if 0 ≤ (pc : Int) + o then f (pc + 3) else none := rfl
theorem b_1 : ((if P then (1 : Int32) else 0) = 1) = P := by by_cases h : P <;> simp [h]
theorem b_0 : ((if P then (1 : Int32) else 0) = 0) = ¬ P := by by_cases h : P <;> simp [h]
theorem b_1r : ((1 : Int32) = (if P then (1 : Int32) else 0)) = P := by by_cases h : P <;> simp [h]
theorem b_0r : ((0 : Int32) = (if P then (1 : Int32) else 0)) = ¬ P := by by_cases h : P <;> simp [h]
theorem b_bb {Q : Prop} [Decidable Q] : ((if P then (1 : Int32) else 0) = (if Q then (1 : Int32) else 0)) = (P ↔ Q) := by by_cases h : P <;> by_cases h' : Q <;> simp [h, h']
theorem b_and : (if P then (1 : Int32) else 0) &&& 1 = if P then 1 else 0 := by by_cases h : P <;> simp [h]
theorem i_10 : ((1 : Int32) = 0) = False := by simp
theorem i_01 : ((0 : Int32) = 1) = False := by simp
theorem nr_i {x : Int32} : narrow .int (.int x) = .int x := rfl
theorem nr_j {x : Int64} : narrow .long (.long x) = .long x := rfl
theorem nr_a {t : FieldType} {v : Value} : narrow (.array t) v = v := by cases v <;> rfl
theorem nr_o {t : String} {v : Value} : narrow (.object t) v = v := by cases v <;> rfl
theorem nr_b : narrow .boolean (.int (if P then (1 : Int32) else 0)) = .int (if P then (1 : Int32) else 0) := by by_cases h : P <;> simp [h] <;> rfl
theorem nr_b1 : narrow .boolean (.int 1) = .int 1 := rfl
theorem nr_b0 : narrow .boolean (.int 0) = .int 0 := rfl
theorem ft_i {x : Int32} : fits .int (.int x) = true := rfl
theorem ft_j {x : Int64} : fits .long (.long x) = true := rfl
theorem ft_a {t : FieldType} {a : Nat} : fits (.array t) (.ref a) = true := rfl
theorem ft_o {t : String} {a : Nat} : fits (.object t) (.ref a) = true := rfl
theorem ft_b : fits .boolean (.int (if P then (1 : Int32) else 0)) = true := by by_cases h : P <;> simp [h] <;> rfl
theorem ft_b1 : fits .boolean (.int 1) = true := rfl
theorem ft_b0 : fits .boolean (.int 0) = true := rfl
theorem rV_nil {H : AH} : rV none [] H = some (none, H) := rfl
theorem cat_int {x : Int32} : Value.category (.int x) = 1 := rfl
theorem cat_long {x : Int64} : Value.category (.long x) = 2 := rfl
theorem cat_ref {a : Nat} : Value.category (.ref a) = 1 := rfl
theorem cat_null : Value.category .null = 1 := rfl
theorem and11 : (1 : Int32) &&& 1 = 1 := rfl
theorem and01 : (0 : Int32) &&& 1 = 0 := rfl
theorem pI_int {x : Int32} {r : List Value} {f : Int32 → List Value → Option ORes} : pI (.int x :: r) f = f x r := rfl
theorem pL_long {x : Int64} {r : List Value} {f : Int64 → List Value → Option ORes} : pL (.long x :: r) f = f x r := rfl
theorem pA_ref {a : Nat} {r : List Value} {f : Value → List Value → Option ORes} : pA (.ref a :: r) f = f (.ref a) r := rfl
theorem pA_null {r : List Value} {f : Value → List Value → Option ORes} : pA (.null :: r) f = f .null r := rfl
theorem pR_ref {a : Nat} {r : List Value} {f : Nat → List Value → Option ORes} : pR (.ref a :: r) f = f a r := rfl
theorem p1_int {x : Int32} {r : List Value} {f : Value → List Value → Option ORes} : p1 (.int x :: r) f = f (.int x) r := rfl
theorem p1_ref {a : Nat} {r : List Value} {f : Value → List Value → Option ORes} : p1 (.ref a :: r) f = f (.ref a) r := rfl
theorem p1_null {r : List Value} {f : Value → List Value → Option ORes} : p1 (.null :: r) f = f .null r := rfl
variable {code : ByteArray} {rt : Option FieldType} {E : List (Nat × Nat × Act)} {x0 n q cs ss : Nat} {L : List Slot} {S : List Value} {H : AH}
theorem s_icmp {cd : ClassFile.Cond} {Q : Int32 → Int32 → Prop} [∀ x y, Decidable (Q x y)] (hP : ∀ x y, if_icmp.holds cd x y = decide (Q x y)) (h : dec code pc = some (.if_icmp cd o)) (ho : 0 ≤ (pc : Int) + o) (hq : ((pc : Int) + o).toNat = q) :
    orun code rt E x0 (n + 1) (pc, L, S, H, cs, ss) = pI S fun y S => pI S fun x r => if Q x y then orun code rt E x0 n (q, L, r, H, cs, ss) else orun code rt E x0 n (pc + 3, L, r, H, cs, ss) := by
  subst hq; rw [orun_succ, h]
  refine congrArg (pI S) (funext fun y => funext fun S' => congrArg (pI S') (funext fun x => funext fun r => ?_))
  rw [hP, br_d, if_pos ho]
theorem s_icmpN {cd : ClassFile.Cond} {Q : Int32 → Int32 → Prop} [∀ x y, Decidable (Q x y)] (hP : ∀ x y, if_icmp.holds cd x y = !decide (Q x y)) (h : dec code pc = some (.if_icmp cd o)) (ho : 0 ≤ (pc : Int) + o) (hq : ((pc : Int) + o).toNat = q) :
    orun code rt E x0 (n + 1) (pc, L, S, H, cs, ss) = pI S fun y S => pI S fun x r => if Q x y then orun code rt E x0 n (pc + 3, L, r, H, cs, ss) else orun code rt E x0 n (q, L, r, H, cs, ss) := by
  subst hq; rw [orun_succ, h]
  refine congrArg (pI S) (funext fun y => funext fun S' => congrArg (pI S') (funext fun x => funext fun r => ?_))
  rw [hP, br_n, if_pos ho]
theorem s_if {cd : ClassFile.Cond} {Q : Int32 → Prop} [∀ x, Decidable (Q x)] (hP : ∀ x, ifCond.holds cd x = decide (Q x)) (h : dec code pc = some (.ifCond cd o)) (ho : 0 ≤ (pc : Int) + o) (hq : ((pc : Int) + o).toNat = q) :
    orun code rt E x0 (n + 1) (pc, L, S, H, cs, ss) = pI S fun x r => if Q x then orun code rt E x0 n (q, L, r, H, cs, ss) else orun code rt E x0 n (pc + 3, L, r, H, cs, ss) := by
  subst hq; rw [orun_succ, h]
  refine congrArg (pI S) (funext fun x => funext fun r => ?_)
  rw [hP, br_d, if_pos ho]
theorem s_ifN {cd : ClassFile.Cond} {Q : Int32 → Prop} [∀ x, Decidable (Q x)] (hP : ∀ x, ifCond.holds cd x = !decide (Q x)) (h : dec code pc = some (.ifCond cd o)) (ho : 0 ≤ (pc : Int) + o) (hq : ((pc : Int) + o).toNat = q) :
    orun code rt E x0 (n + 1) (pc, L, S, H, cs, ss) = pI S fun x r => if Q x then orun code rt E x0 n (pc + 3, L, r, H, cs, ss) else orun code rt E x0 n (q, L, r, H, cs, ss) := by
  subst hq; rw [orun_succ, h]
  refine congrArg (pI S) (funext fun x => funext fun r => ?_)
  rw [hP, br_n, if_pos ho]
theorem s_goto (h : dec code pc = some (.goto o)) (ho : 0 ≤ (pc : Int) + o) (hq : ((pc : Int) + o).toNat = q) : orun code rt E x0 (n + 1) (pc, L, S, H, cs, ss) = orun code rt E x0 n (q, L, S, H, cs, ss) := by
  subst hq; rw [orun_succ, h]; exact if_pos ho
theorem s_any {i : Instr} (h : dec code pc = some i) : orun code rt E x0 (n + 1) (pc, L, S, H, cs, ss) = ex rt E x0 (orun code rt E x0 n) i pc L S H cs ss := by rw [orun_succ, h]; rfl
end Ev
theorem ex_ishl {rt : Option FieldType} {E : List (Nat × Nat × Act)} {x0 pc cs ss : Nat} {k : St → Option ORes} {L : List Slot} {S : List Value} {H : AH}  : ex rt E x0 k (.ishl) pc L S H cs ss = pI S fun y S => pI S fun x r => k (pc + 1, L, .int (x <<< (y &&& 31)) :: r, H, cs, ss) := rfl
theorem ex_ishr {rt : Option FieldType} {E : List (Nat × Nat × Act)} {x0 pc cs ss : Nat} {k : St → Option ORes} {L : List Slot} {S : List Value} {H : AH}  : ex rt E x0 k (.ishr) pc L S H cs ss = pI S fun y S => pI S fun x r => k (pc + 1, L, .int (x >>> (y &&& 31)) :: r, H, cs, ss) := rfl
theorem ex_iushr {rt : Option FieldType} {E : List (Nat × Nat × Act)} {x0 pc cs ss : Nat} {k : St → Option ORes} {L : List Slot} {S : List Value} {H : AH}  : ex rt E x0 k (.iushr) pc L S H cs ss = pI S fun y S => pI S fun x r => k (pc + 1, L, .int ((x.toUInt32 >>> (y &&& 31).toUInt32).toInt32) :: r, H, cs, ss) := rfl
theorem ex_idiv {rt : Option FieldType} {E : List (Nat × Nat × Act)} {x0 pc cs ss : Nat} {k : St → Option ORes} {L : List Slot} {S : List Value} {H : AH}  : ex rt E x0 k (.idiv) pc L S H cs ss = pI S fun y S => pI S fun x r => if y = 0 then none else k (pc + 1, L, .int (x / y) :: r, H, cs, ss) := rfl
theorem ex_irem {rt : Option FieldType} {E : List (Nat × Nat × Act)} {x0 pc cs ss : Nat} {k : St → Option ORes} {L : List Slot} {S : List Value} {H : AH}  : ex rt E x0 k (.irem) pc L S H cs ss = pI S fun y S => pI S fun x r => if y = 0 then none else k (pc + 1, L, .int (x % y) :: r, H, cs, ss) := rfl
theorem ex_ineg {rt : Option FieldType} {E : List (Nat × Nat × Act)} {x0 pc cs ss : Nat} {k : St → Option ORes} {L : List Slot} {S : List Value} {H : AH}  : ex rt E x0 k (.ineg) pc L S H cs ss = pI S fun x r => k (pc + 1, L, .int (-x) :: r, H, cs, ss) := rfl
theorem ex_i2b {rt : Option FieldType} {E : List (Nat × Nat × Act)} {x0 pc cs ss : Nat} {k : St → Option ORes} {L : List Slot} {S : List Value} {H : AH}  : ex rt E x0 k (.i2b) pc L S H cs ss = pI S fun x r => k (pc + 1, L, .int x.toInt8.toInt32 :: r, H, cs, ss) := rfl
theorem ex_i2c {rt : Option FieldType} {E : List (Nat × Nat × Act)} {x0 pc cs ss : Nat} {k : St → Option ORes} {L : List Slot} {S : List Value} {H : AH}  : ex rt E x0 k (.i2c) pc L S H cs ss = pI S fun x r => k (pc + 1, L, .int x.toUInt32.toUInt16.toUInt32.toInt32 :: r, H, cs, ss) := rfl
theorem ex_i2s {rt : Option FieldType} {E : List (Nat × Nat × Act)} {x0 pc cs ss : Nat} {k : St → Option ORes} {L : List Slot} {S : List Value} {H : AH}  : ex rt E x0 k (.i2s) pc L S H cs ss = pI S fun x r => k (pc + 1, L, .int x.toInt16.toInt32 :: r, H, cs, ss) := rfl
theorem ex_i2l {rt : Option FieldType} {E : List (Nat × Nat × Act)} {x0 pc cs ss : Nat} {k : St → Option ORes} {L : List Slot} {S : List Value} {H : AH}  : ex rt E x0 k (.i2l) pc L S H cs ss = pI S fun x r => k (pc + 1, L, .long x.toInt64 :: r, H, cs, ss) := rfl
theorem ex_l2i {rt : Option FieldType} {E : List (Nat × Nat × Act)} {x0 pc cs ss : Nat} {k : St → Option ORes} {L : List Slot} {S : List Value} {H : AH}  : ex rt E x0 k (.l2i) pc L S H cs ss = pL S fun x r => k (pc + 1, L, .int x.toInt32 :: r, H, cs, ss) := rfl
theorem ex_lneg {rt : Option FieldType} {E : List (Nat × Nat × Act)} {x0 pc cs ss : Nat} {k : St → Option ORes} {L : List Slot} {S : List Value} {H : AH}  : ex rt E x0 k (.lneg) pc L S H cs ss = pL S fun x r => k (pc + 1, L, .long (-x) :: r, H, cs, ss) := rfl
theorem ex_lshl {rt : Option FieldType} {E : List (Nat × Nat × Act)} {x0 pc cs ss : Nat} {k : St → Option ORes} {L : List Slot} {S : List Value} {H : AH}  : ex rt E x0 k (.lshl) pc L S H cs ss = pI S fun y S => pL S fun x r => k (pc + 1, L, .long (x <<< (y &&& 0x3f).toInt64) :: r, H, cs, ss) := rfl
theorem ex_lshr {rt : Option FieldType} {E : List (Nat × Nat × Act)} {x0 pc cs ss : Nat} {k : St → Option ORes} {L : List Slot} {S : List Value} {H : AH}  : ex rt E x0 k (.lshr) pc L S H cs ss = pI S fun y S => pL S fun x r => k (pc + 1, L, .long (x >>> (y &&& 0x3f).toInt64) :: r, H, cs, ss) := rfl
theorem ex_lushr {rt : Option FieldType} {E : List (Nat × Nat × Act)} {x0 pc cs ss : Nat} {k : St → Option ORes} {L : List Slot} {S : List Value} {H : AH}  : ex rt E x0 k (.lushr) pc L S H cs ss = pI S fun y S => pL S fun x r => k (pc + 1, L, .long ((x.toUInt64 >>> (y &&& 0x3f).toInt64.toUInt64).toInt64) :: r, H, cs, ss) := rfl
theorem ex_ldiv {rt : Option FieldType} {E : List (Nat × Nat × Act)} {x0 pc cs ss : Nat} {k : St → Option ORes} {L : List Slot} {S : List Value} {H : AH}  : ex rt E x0 k (.ldiv) pc L S H cs ss = pL S fun y S => pL S fun x r => if y = 0 then none else k (pc + 1, L, .long (x / y) :: r, H, cs, ss) := rfl
theorem ex_lrem {rt : Option FieldType} {E : List (Nat × Nat × Act)} {x0 pc cs ss : Nat} {k : St → Option ORes} {L : List Slot} {S : List Value} {H : AH}  : ex rt E x0 k (.lrem) pc L S H cs ss = pL S fun y S => pL S fun x r => if y = 0 then none else k (pc + 1, L, .long (x % y) :: r, H, cs, ss) := rfl
theorem ex_lcmp {rt : Option FieldType} {E : List (Nat × Nat × Act)} {x0 pc cs ss : Nat} {k : St → Option ORes} {L : List Slot} {S : List Value} {H : AH}  : ex rt E x0 k (.lcmp) pc L S H cs ss = pL S fun y S => pL S fun x r => k (pc + 1, L, .int (lcmpW x y) :: r, H, cs, ss) := rfl
theorem ex_dup {rt : Option FieldType} {E : List (Nat × Nat × Act)} {x0 pc cs ss : Nat} {k : St → Option ORes} {L : List Slot} {S : List Value} {H : AH}  : ex rt E x0 k (.dup) pc L S H cs ss = p1 S fun v r => k (pc + 1, L, v :: v :: r, H, cs, ss) := rfl
theorem ex_pop {rt : Option FieldType} {E : List (Nat × Nat × Act)} {x0 pc cs ss : Nat} {k : St → Option ORes} {L : List Slot} {S : List Value} {H : AH}  : ex rt E x0 k (.pop) pc L S H cs ss = p1 S fun _ r => k (pc + 1, L, r, H, cs, ss) := rfl
theorem ex_dup_x1 {rt : Option FieldType} {E : List (Nat × Nat × Act)} {x0 pc cs ss : Nat} {k : St → Option ORes} {L : List Slot} {S : List Value} {H : AH}  : ex rt E x0 k (.dup_x1) pc L S H cs ss = p1 S fun x S => p1 S fun y r => k (pc + 1, L, x :: y :: x :: r, H, cs, ss) := rfl
theorem ex_dup2 {rt : Option FieldType} {E : List (Nat × Nat × Act)} {x0 pc cs ss : Nat} {k : St → Option ORes} {L : List Slot} {S : List Value} {H : AH}  : ex rt E x0 k (.dup2) pc L S H cs ss = p1 S fun x S => p1 S fun y r => k (pc + 1, L, x :: y :: x :: y :: r, H, cs, ss) := rfl
theorem ex_ifnull {rt : Option FieldType} {E : List (Nat × Nat × Act)} {x0 pc cs ss : Nat} {k : St → Option ORes} {L : List Slot} {S : List Value} {H : AH} {o : Int} : ex rt E x0 k (.ifnull o) pc L S H cs ss = pA S fun v r => br (refEq v .null) pc o fun q => k (q, L, r, H, cs, ss) := rfl
theorem ex_ifnonnull {rt : Option FieldType} {E : List (Nat × Nat × Act)} {x0 pc cs ss : Nat} {k : St → Option ORes} {L : List Slot} {S : List Value} {H : AH} {o : Int} : ex rt E x0 k (.ifnonnull o) pc L S H cs ss = pA S fun v r => br (!refEq v .null) pc o fun q => k (q, L, r, H, cs, ss) := rfl
theorem ex_if_acmp {rt : Option FieldType} {E : List (Nat × Nat × Act)} {x0 pc cs ss : Nat} {k : St → Option ORes} {L : List Slot} {S : List Value} {H : AH} {cd : ACond} {o : Int} : ex rt E x0 k (.if_acmp cd o) pc L S H cs ss = pA S fun y S => pA S fun x r => br (acV cd (refEq x y)) pc o fun q => k (q, L, r, H, cs, ss) := rfl
theorem ex_arraylength {rt : Option FieldType} {E : List (Nat × Nat × Act)} {x0 pc cs ss : Nat} {k : St → Option ORes} {L : List Slot} {S : List Value} {H : AH}  : ex rt E x0 k (.arraylength) pc L S H cs ss = pR S fun a r => (arr H a).bind fun q => k (pc + 1, L, .int q.2.length.toInt32 :: r, H, cs, ss) := rfl
theorem ex_iaload {rt : Option FieldType} {E : List (Nat × Nat × Act)} {x0 pc cs ss : Nat} {k : St → Option ORes} {L : List Slot} {S : List Value} {H : AH}  : ex rt E x0 k (.iaload) pc L S H cs ss = ald (isT .int) S H fun v r => k (pc + 1, L, v :: r, H, cs, ss) := rfl
theorem ex_baload {rt : Option FieldType} {E : List (Nat × Nat × Act)} {x0 pc cs ss : Nat} {k : St → Option ORes} {L : List Slot} {S : List Value} {H : AH}  : ex rt E x0 k (.baload) pc L S H cs ss = ald isBZ S H fun v r => k (pc + 1, L, v :: r, H, cs, ss) := rfl
theorem ex_caload {rt : Option FieldType} {E : List (Nat × Nat × Act)} {x0 pc cs ss : Nat} {k : St → Option ORes} {L : List Slot} {S : List Value} {H : AH}  : ex rt E x0 k (.caload) pc L S H cs ss = ald (isT .char) S H fun v r => k (pc + 1, L, v :: r, H, cs, ss) := rfl
theorem ex_laload {rt : Option FieldType} {E : List (Nat × Nat × Act)} {x0 pc cs ss : Nat} {k : St → Option ORes} {L : List Slot} {S : List Value} {H : AH}  : ex rt E x0 k (.laload) pc L S H cs ss = ald (isT .long) S H fun v r => k (pc + 1, L, v :: r, H, cs, ss) := rfl
theorem ex_aaload {rt : Option FieldType} {E : List (Nat × Nat × Act)} {x0 pc cs ss : Nat} {k : St → Option ORes} {L : List Slot} {S : List Value} {H : AH}  : ex rt E x0 k (.aaload) pc L S H cs ss = ald FieldType.isReference S H fun v r => k (pc + 1, L, v :: r, H, cs, ss) := rfl
theorem ex_iastore {rt : Option FieldType} {E : List (Nat × Nat × Act)} {x0 pc cs ss : Nat} {k : St → Option ORes} {L : List Slot} {S : List Value} {H : AH}  : ex rt E x0 k (.iastore) pc L S H cs ss = ast (isT .int) x0 S H fun r H' => k (pc + 1, L, r, H', cs, ss) := rfl
theorem ex_bastore {rt : Option FieldType} {E : List (Nat × Nat × Act)} {x0 pc cs ss : Nat} {k : St → Option ORes} {L : List Slot} {S : List Value} {H : AH}  : ex rt E x0 k (.bastore) pc L S H cs ss = ast (isT .byte) x0 S H fun r H' => k (pc + 1, L, r, H', cs, ss) := rfl
theorem ex_castore {rt : Option FieldType} {E : List (Nat × Nat × Act)} {x0 pc cs ss : Nat} {k : St → Option ORes} {L : List Slot} {S : List Value} {H : AH}  : ex rt E x0 k (.castore) pc L S H cs ss = ast (isT .char) x0 S H fun r H' => k (pc + 1, L, r, H', cs, ss) := rfl
theorem ex_lastore {rt : Option FieldType} {E : List (Nat × Nat × Act)} {x0 pc cs ss : Nat} {k : St → Option ORes} {L : List Slot} {S : List Value} {H : AH}  : ex rt E x0 k (.lastore) pc L S H cs ss = astL x0 S H fun r H' => k (pc + 1, L, r, H', cs, ss) := rfl
theorem ex_ldc {rt : Option FieldType} {E : List (Nat × Nat × Act)} {x0 pc cs ss : Nat} {k : St → Option ORes} {L : List Slot} {S : List Value} {H : AH} {i : Nat} : ex rt E x0 k (.ldc i) pc L S H cs ss = spc E 0 i S H cs ss fun S' H' cs' ss' => k (pc + 2, L, S', H', cs', ss') := rfl
theorem ex_ldc_w {rt : Option FieldType} {E : List (Nat × Nat × Act)} {x0 pc cs ss : Nat} {k : St → Option ORes} {L : List Slot} {S : List Value} {H : AH} {i : Nat} : ex rt E x0 k (.ldc_w i) pc L S H cs ss = spc E 1 i S H cs ss fun S' H' cs' ss' => k (pc + 3, L, S', H', cs', ss') := rfl
theorem ex_ldc2_w {rt : Option FieldType} {E : List (Nat × Nat × Act)} {x0 pc cs ss : Nat} {k : St → Option ORes} {L : List Slot} {S : List Value} {H : AH} {i : Nat} : ex rt E x0 k (.ldc2_w i) pc L S H cs ss = spc E 2 i S H cs ss fun S' H' cs' ss' => k (pc + 3, L, S', H', cs', ss') := rfl
theorem ex_getfield {rt : Option FieldType} {E : List (Nat × Nat × Act)} {x0 pc cs ss : Nat} {k : St → Option ORes} {L : List Slot} {S : List Value} {H : AH} {i : Nat} : ex rt E x0 k (.getfield i) pc L S H cs ss = spc E 3 i S H cs ss fun S' H' cs' ss' => k (pc + 3, L, S', H', cs', ss') := rfl
theorem ex_putfield {rt : Option FieldType} {E : List (Nat × Nat × Act)} {x0 pc cs ss : Nat} {k : St → Option ORes} {L : List Slot} {S : List Value} {H : AH} {i : Nat} : ex rt E x0 k (.putfield i) pc L S H cs ss = spc E 4 i S H cs ss fun S' H' cs' ss' => k (pc + 3, L, S', H', cs', ss') := rfl
theorem ex_getstatic {rt : Option FieldType} {E : List (Nat × Nat × Act)} {x0 pc cs ss : Nat} {k : St → Option ORes} {L : List Slot} {S : List Value} {H : AH} {i : Nat} : ex rt E x0 k (.getstatic i) pc L S H cs ss = spc E 5 i S H cs ss fun S' H' cs' ss' => k (pc + 3, L, S', H', cs', ss') := rfl
theorem ex_new {rt : Option FieldType} {E : List (Nat × Nat × Act)} {x0 pc cs ss : Nat} {k : St → Option ORes} {L : List Slot} {S : List Value} {H : AH} {i : Nat} : ex rt E x0 k (.new i) pc L S H cs ss = spc E 6 i S H cs ss fun S' H' cs' ss' => k (pc + 3, L, S', H', cs', ss') := rfl
theorem ex_invokestatic {rt : Option FieldType} {E : List (Nat × Nat × Act)} {x0 pc cs ss : Nat} {k : St → Option ORes} {L : List Slot} {S : List Value} {H : AH} {i : Nat} : ex rt E x0 k (.invokestatic i) pc L S H cs ss = spc E 7 i S H cs ss fun S' H' cs' ss' => k (pc + 3, L, S', H', cs', ss') := rfl
theorem ex_invokespecial {rt : Option FieldType} {E : List (Nat × Nat × Act)} {x0 pc cs ss : Nat} {k : St → Option ORes} {L : List Slot} {S : List Value} {H : AH} {i : Nat} : ex rt E x0 k (.invokespecial i) pc L S H cs ss = spc E 8 i S H cs ss fun S' H' cs' ss' => k (pc + 3, L, S', H', cs', ss') := rfl
theorem ex_invokevirtual {rt : Option FieldType} {E : List (Nat × Nat × Act)} {x0 pc cs ss : Nat} {k : St → Option ORes} {L : List Slot} {S : List Value} {H : AH} {i : Nat} : ex rt E x0 k (.invokevirtual i) pc L S H cs ss = spc E 9 i S H cs ss fun S' H' cs' ss' => k (pc + 3, L, S', H', cs', ss') := rfl
theorem ex_checkcast {rt : Option FieldType} {E : List (Nat × Nat × Act)} {x0 pc cs ss : Nat} {k : St → Option ORes} {L : List Slot} {S : List Value} {H : AH} {i : Nat} : ex rt E x0 k (.checkcast i) pc L S H cs ss = spc E 10 i S H cs ss fun S' H' cs' ss' => k (pc + 3, L, S', H', cs', ss') := rfl
theorem ex_instanceof {rt : Option FieldType} {E : List (Nat × Nat × Act)} {x0 pc cs ss : Nat} {k : St → Option ORes} {L : List Slot} {S : List Value} {H : AH} {i : Nat} : ex rt E x0 k (.instanceof i) pc L S H cs ss = spc E 11 i S H cs ss fun S' H' cs' ss' => k (pc + 3, L, S', H', cs', ss') := rfl
theorem ex_anewarray {rt : Option FieldType} {E : List (Nat × Nat × Act)} {x0 pc cs ss : Nat} {k : St → Option ORes} {L : List Slot} {S : List Value} {H : AH} {i : Nat} : ex rt E x0 k (.anewarray i) pc L S H cs ss = spc E 12 i S H cs ss fun S' H' cs' ss' => k (pc + 3, L, S', H', cs', ss') := rfl
theorem ex_newarray {rt : Option FieldType} {E : List (Nat × Nat × Act)} {x0 pc cs ss : Nat} {k : St → Option ORes} {L : List Slot} {S : List Value} {H : AH} {t : ArrayType} : ex rt E x0 k (.newarray t) pc L S H cs ss = spc E 13 (atn t) S H cs ss fun S' H' cs' ss' => k (pc + 2, L, S', H', cs', ss') := rfl
theorem ex_ireturn {rt : Option FieldType} {E : List (Nat × Nat × Act)} {x0 pc cs ss : Nat} {k : St → Option ORes} {L : List Slot} {S : List Value} {H : AH}  : ex rt E x0 k (.ireturn) pc L S H cs ss = rI rt S H := rfl
theorem ex_lreturn {rt : Option FieldType} {E : List (Nat × Nat × Act)} {x0 pc cs ss : Nat} {k : St → Option ORes} {L : List Slot} {S : List Value} {H : AH}  : ex rt E x0 k (.lreturn) pc L S H cs ss = rL rt S H := rfl
theorem ex_areturn {rt : Option FieldType} {E : List (Nat × Nat × Act)} {x0 pc cs ss : Nat} {k : St → Option ORes} {L : List Slot} {S : List Value} {H : AH}  : ex rt E x0 k (.areturn) pc L S H cs ss = rA rt S H := rfl
theorem ex_return {rt : Option FieldType} {E : List (Nat × Nat × Act)} {x0 pc cs ss : Nat} {k : St → Option ORes} {L : List Slot} {S : List Value} {H : AH}  : ex rt E x0 k (.return_) pc L S H cs ss = rV rt S H := rfl
end Jvm.Own
namespace Jvm.Own
open Sem ClassFile Op Lib Jvm.RoadKit
/-! ## 7. Walking: one row a step, the answer's property kept apart -/
def Rsq (r : Option ORes) (q : Option ORes → Prop) : Prop := q r
theorem res_of {a b : Option ORes} {q : Option ORes → Prop} (e : a = b) (h : Rsq b q) : Rsq a q := by subst e; exact h
theorem res_t {P : Prop} [Decidable P] {A B : Option ORes} {q : Option ORes → Prop} (hc : P) (h : Rsq A q) : Rsq (if P then A else B) q := by rw [if_pos hc]; exact h
theorem res_f {P : Prop} [Decidable P] {A B : Option ORes} {q : Option ORes → Prop} (hc : ¬ P) (h : Rsq B q) : Rsq (if P then A else B) q := by rw [if_neg hc]; exact h
def OneI (r : Option ORes) : Prop := ∃ H', r = some (some (.int 1), H')
def Is (v : Option ORes) (r : Option ORes) : Prop := r = v
section Ofs
variable {code : ByteArray} {rt : Option FieldType} {E : List (Nat × Nat × Act)} {x0 N : Nat} {st : St} {a v : Option ORes} {q : Option ORes → Prop}
theorem rsq_of (e : a = orun code rt E x0 N st) (h : ∀ go, go = orun code rt E x0 → Rsq (go N st) q) : q a := by subst e; exact h _ rfl
theorem one_of (e : a = orun code rt E x0 N st) (h : ∀ go, go = orun code rt E x0 → Rsq (go N st) OneI) : ∃ H', a = some (some (.int 1), H') := by subst e; exact h _ rfl
theorem is_of (e : a = orun code rt E x0 N st) (h : ∀ go, go = orun code rt E x0 → Rsq (go N st) (Is v)) : a = v := by subst e; exact h _ rfl
end Ofs
theorem one_1 {H : AH} : OneI (some (some (.int 1), H)) := ⟨H, rfl⟩
theorem one_b {H : AH} : OneI (some (some (.int (1 &&& 1)), H)) := ⟨H, by rw [and11]⟩
theorem is_i {z w : Int32} {H H' : AH} (e : z = w) (e' : H = H') : Is (some (some (.int w), H')) (some (some (.int z), H)) := by subst e; subst e'; rfl
theorem is_r {v : Option ORes} : Is v v := rfl
theorem is_1 {H : AH} : Is (some (some (.int 1), H)) (some (some (.int (1 &&& 1)), H)) := by unfold Is; rw [and11]
theorem is_0 {H : AH} : Is (some (some (.int 0), H)) (some (some (.int (0 &&& 1)), H)) := by unfold Is; rw [and01]
def so : Slot → Bool | .unset => true | .val (.int _) => true | .val (.ref _) => true | .val .null => true | _ => false
def so2 : Slot → Slot → Bool | .unset, .unset => true | .val (.long _), .second => true | _, _ => false
def isA : Value → Bool | .ref _ => true | .null => true | _ => false
def isS : Value → Bool | .int _ => true | .ref _ => true | .null => true | _ => false
theorem st1_so {L : List Slot} {k : Nat} {v : Value} {l : Slot} (hL : L[k]? = some l) (hk : so l = true) : st1 L k v = some (L.set k (.val v)) := by
  unfold st1; rw [hL]
  cases l with
  | unset => rfl
  | second => simp [so] at hk
  | val w => cases w <;> first | rfl | (simp [so] at hk)
theorem st2_so {L : List Slot} {k : Nat} {x : Int64} {l l' : Slot} (h1 : L[k]? = some l) (h2 : L[k + 1]? = some l') (hk : so2 l l' = true) : st2 L k x = some ((L.set k (.val (.long x))).set (k + 1) .second) := by
  unfold st2; rw [h1, h2]
  cases l with
  | unset => cases l' with
    | unset => rfl
    | second => simp [so2] at hk
    | val w => simp [so2] at hk
  | second => cases l' <;> simp [so2] at hk
  | val w => cases w <;> cases l' <;> first | rfl | (simp [so2] at hk)
theorem gA_isA {L : List Slot} {k : Nat} {v : Value} (hL : L[k]? = some (.val v)) (hv : isA v = true) : gA L k = some v := by
  unfold gA; rw [hL]; cases v <;> first | rfl | (simp [isA] at hv)
theorem pA_isA {v : Value} {r : List Value} {f : Value → List Value → Option ORes} (hv : isA v = true) : pA (v :: r) f = f v r := by
  cases v <;> first | rfl | (simp [isA] at hv)
theorem p1_isS {v : Value} {r : List Value} {f : Value → List Value → Option ORes} (hv : isS v = true) : p1 (v :: r) f = f v r := by
  cases v <;> first | rfl | (simp [isS] at hv)
def ln (l : List Value) : Int32 := l.length.toInt32
theorem ln_of {l : List Value} {n : Nat} {z : Int32} (h : l.length = n) (h' : n.toInt32 = z) : ln l = z := by unfold ln; rw [h, h']
theorem ln0 : ln [] = 0 := rfl
theorem ln1 {a0 : Value} : ln [a0] = 1 := rfl
theorem ln2 {a0 a1 : Value} : ln [a0, a1] = 2 := rfl
theorem ln3 {a0 a1 a2 : Value} : ln [a0, a1, a2] = 3 := rfl
theorem ln4 {a0 a1 a2 a3 : Value} : ln [a0, a1, a2, a3] = 4 := rfl
theorem ln5 {a0 a1 a2 a3 a4 : Value} : ln [a0, a1, a2, a3, a4] = 5 := rfl
theorem ln6 {a0 a1 a2 a3 a4 a5 : Value} : ln [a0, a1, a2, a3, a4, a5] = 6 := rfl
theorem ln7 {a0 a1 a2 a3 a4 a5 a6 : Value} : ln [a0, a1, a2, a3, a4, a5, a6] = 7 := rfl
theorem ln8 {a0 a1 a2 a3 a4 a5 a6 a7 : Value} : ln [a0, a1, a2, a3, a4, a5, a6, a7] = 8 := rfl
theorem ln9 {a0 a1 a2 a3 a4 a5 a6 a7 a8 : Value} : ln [a0, a1, a2, a3, a4, a5, a6, a7, a8] = 9 := rfl
theorem ln10 {a0 a1 a2 a3 a4 a5 a6 a7 a8 a9 : Value} : ln [a0, a1, a2, a3, a4, a5, a6, a7, a8, a9] = 10 := rfl
theorem ln11 {a0 a1 a2 a3 a4 a5 a6 a7 a8 a9 a10 : Value} : ln [a0, a1, a2, a3, a4, a5, a6, a7, a8, a9, a10] = 11 := rfl
theorem ln12 {a0 a1 a2 a3 a4 a5 a6 a7 a8 a9 a10 a11 : Value} : ln [a0, a1, a2, a3, a4, a5, a6, a7, a8, a9, a10, a11] = 12 := rfl
theorem ln13 {a0 a1 a2 a3 a4 a5 a6 a7 a8 a9 a10 a11 a12 : Value} : ln [a0, a1, a2, a3, a4, a5, a6, a7, a8, a9, a10, a11, a12] = 13 := rfl
theorem ln14 {a0 a1 a2 a3 a4 a5 a6 a7 a8 a9 a10 a11 a12 a13 : Value} : ln [a0, a1, a2, a3, a4, a5, a6, a7, a8, a9, a10, a11, a12, a13] = 14 := rfl
theorem ln15 {a0 a1 a2 a3 a4 a5 a6 a7 a8 a9 a10 a11 a12 a13 a14 : Value} : ln [a0, a1, a2, a3, a4, a5, a6, a7, a8, a9, a10, a11, a12, a13, a14] = 15 := rfl
theorem ln16 {a0 a1 a2 a3 a4 a5 a6 a7 a8 a9 a10 a11 a12 a13 a14 a15 : Value} : ln [a0, a1, a2, a3, a4, a5, a6, a7, a8, a9, a10, a11, a12, a13, a14, a15] = 16 := rfl
theorem ln17 {a0 a1 a2 a3 a4 a5 a6 a7 a8 a9 a10 a11 a12 a13 a14 a15 a16 : Value} : ln [a0, a1, a2, a3, a4, a5, a6, a7, a8, a9, a10, a11, a12, a13, a14, a15, a16] = 17 := rfl
theorem ln18 {a0 a1 a2 a3 a4 a5 a6 a7 a8 a9 a10 a11 a12 a13 a14 a15 a16 a17 : Value} : ln [a0, a1, a2, a3, a4, a5, a6, a7, a8, a9, a10, a11, a12, a13, a14, a15, a16, a17] = 18 := rfl
theorem ln19 {a0 a1 a2 a3 a4 a5 a6 a7 a8 a9 a10 a11 a12 a13 a14 a15 a16 a17 a18 : Value} : ln [a0, a1, a2, a3, a4, a5, a6, a7, a8, a9, a10, a11, a12, a13, a14, a15, a16, a17, a18] = 19 := rfl
theorem ln20 {a0 a1 a2 a3 a4 a5 a6 a7 a8 a9 a10 a11 a12 a13 a14 a15 a16 a17 a18 a19 : Value} : ln [a0, a1, a2, a3, a4, a5, a6, a7, a8, a9, a10, a11, a12, a13, a14, a15, a16, a17, a18, a19] = 20 := rfl
theorem ln21 {a0 a1 a2 a3 a4 a5 a6 a7 a8 a9 a10 a11 a12 a13 a14 a15 a16 a17 a18 a19 a20 : Value} : ln [a0, a1, a2, a3, a4, a5, a6, a7, a8, a9, a10, a11, a12, a13, a14, a15, a16, a17, a18, a19, a20] = 21 := rfl
theorem ln22 {a0 a1 a2 a3 a4 a5 a6 a7 a8 a9 a10 a11 a12 a13 a14 a15 a16 a17 a18 a19 a20 a21 : Value} : ln [a0, a1, a2, a3, a4, a5, a6, a7, a8, a9, a10, a11, a12, a13, a14, a15, a16, a17, a18, a19, a20, a21] = 22 := rfl
theorem ln23 {a0 a1 a2 a3 a4 a5 a6 a7 a8 a9 a10 a11 a12 a13 a14 a15 a16 a17 a18 a19 a20 a21 a22 : Value} : ln [a0, a1, a2, a3, a4, a5, a6, a7, a8, a9, a10, a11, a12, a13, a14, a15, a16, a17, a18, a19, a20, a21, a22] = 23 := rfl
theorem ln24 {a0 a1 a2 a3 a4 a5 a6 a7 a8 a9 a10 a11 a12 a13 a14 a15 a16 a17 a18 a19 a20 a21 a22 a23 : Value} : ln [a0, a1, a2, a3, a4, a5, a6, a7, a8, a9, a10, a11, a12, a13, a14, a15, a16, a17, a18, a19, a20, a21, a22, a23] = 24 := rfl
theorem ln25 {a0 a1 a2 a3 a4 a5 a6 a7 a8 a9 a10 a11 a12 a13 a14 a15 a16 a17 a18 a19 a20 a21 a22 a23 a24 : Value} : ln [a0, a1, a2, a3, a4, a5, a6, a7, a8, a9, a10, a11, a12, a13, a14, a15, a16, a17, a18, a19, a20, a21, a22, a23, a24] = 25 := rfl
theorem ln26 {a0 a1 a2 a3 a4 a5 a6 a7 a8 a9 a10 a11 a12 a13 a14 a15 a16 a17 a18 a19 a20 a21 a22 a23 a24 a25 : Value} : ln [a0, a1, a2, a3, a4, a5, a6, a7, a8, a9, a10, a11, a12, a13, a14, a15, a16, a17, a18, a19, a20, a21, a22, a23, a24, a25] = 26 := rfl
theorem ln27 {a0 a1 a2 a3 a4 a5 a6 a7 a8 a9 a10 a11 a12 a13 a14 a15 a16 a17 a18 a19 a20 a21 a22 a23 a24 a25 a26 : Value} : ln [a0, a1, a2, a3, a4, a5, a6, a7, a8, a9, a10, a11, a12, a13, a14, a15, a16, a17, a18, a19, a20, a21, a22, a23, a24, a25, a26] = 27 := rfl
theorem ln28 {a0 a1 a2 a3 a4 a5 a6 a7 a8 a9 a10 a11 a12 a13 a14 a15 a16 a17 a18 a19 a20 a21 a22 a23 a24 a25 a26 a27 : Value} : ln [a0, a1, a2, a3, a4, a5, a6, a7, a8, a9, a10, a11, a12, a13, a14, a15, a16, a17, a18, a19, a20, a21, a22, a23, a24, a25, a26, a27] = 28 := rfl
theorem ln29 {a0 a1 a2 a3 a4 a5 a6 a7 a8 a9 a10 a11 a12 a13 a14 a15 a16 a17 a18 a19 a20 a21 a22 a23 a24 a25 a26 a27 a28 : Value} : ln [a0, a1, a2, a3, a4, a5, a6, a7, a8, a9, a10, a11, a12, a13, a14, a15, a16, a17, a18, a19, a20, a21, a22, a23, a24, a25, a26, a27, a28] = 29 := rfl
theorem ln30 {a0 a1 a2 a3 a4 a5 a6 a7 a8 a9 a10 a11 a12 a13 a14 a15 a16 a17 a18 a19 a20 a21 a22 a23 a24 a25 a26 a27 a28 a29 : Value} : ln [a0, a1, a2, a3, a4, a5, a6, a7, a8, a9, a10, a11, a12, a13, a14, a15, a16, a17, a18, a19, a20, a21, a22, a23, a24, a25, a26, a27, a28, a29] = 30 := rfl
theorem ln31 {a0 a1 a2 a3 a4 a5 a6 a7 a8 a9 a10 a11 a12 a13 a14 a15 a16 a17 a18 a19 a20 a21 a22 a23 a24 a25 a26 a27 a28 a29 a30 : Value} : ln [a0, a1, a2, a3, a4, a5, a6, a7, a8, a9, a10, a11, a12, a13, a14, a15, a16, a17, a18, a19, a20, a21, a22, a23, a24, a25, a26, a27, a28, a29, a30] = 31 := rfl
theorem ln32 {a0 a1 a2 a3 a4 a5 a6 a7 a8 a9 a10 a11 a12 a13 a14 a15 a16 a17 a18 a19 a20 a21 a22 a23 a24 a25 a26 a27 a28 a29 a30 a31 : Value} : ln [a0, a1, a2, a3, a4, a5, a6, a7, a8, a9, a10, a11, a12, a13, a14, a15, a16, a17, a18, a19, a20, a21, a22, a23, a24, a25, a26, a27, a28, a29, a30, a31] = 32 := rfl
theorem ln33 {a0 a1 a2 a3 a4 a5 a6 a7 a8 a9 a10 a11 a12 a13 a14 a15 a16 a17 a18 a19 a20 a21 a22 a23 a24 a25 a26 a27 a28 a29 a30 a31 a32 : Value} : ln [a0, a1, a2, a3, a4, a5, a6, a7, a8, a9, a10, a11, a12, a13, a14, a15, a16, a17, a18, a19, a20, a21, a22, a23, a24, a25, a26, a27, a28, a29, a30, a31, a32] = 33 := rfl
theorem ln34 {a0 a1 a2 a3 a4 a5 a6 a7 a8 a9 a10 a11 a12 a13 a14 a15 a16 a17 a18 a19 a20 a21 a22 a23 a24 a25 a26 a27 a28 a29 a30 a31 a32 a33 : Value} : ln [a0, a1, a2, a3, a4, a5, a6, a7, a8, a9, a10, a11, a12, a13, a14, a15, a16, a17, a18, a19, a20, a21, a22, a23, a24, a25, a26, a27, a28, a29, a30, a31, a32, a33] = 34 := rfl
theorem ln35 {a0 a1 a2 a3 a4 a5 a6 a7 a8 a9 a10 a11 a12 a13 a14 a15 a16 a17 a18 a19 a20 a21 a22 a23 a24 a25 a26 a27 a28 a29 a30 a31 a32 a33 a34 : Value} : ln [a0, a1, a2, a3, a4, a5, a6, a7, a8, a9, a10, a11, a12, a13, a14, a15, a16, a17, a18, a19, a20, a21, a22, a23, a24, a25, a26, a27, a28, a29, a30, a31, a32, a33, a34] = 35 := rfl
theorem ln36 {a0 a1 a2 a3 a4 a5 a6 a7 a8 a9 a10 a11 a12 a13 a14 a15 a16 a17 a18 a19 a20 a21 a22 a23 a24 a25 a26 a27 a28 a29 a30 a31 a32 a33 a34 a35 : Value} : ln [a0, a1, a2, a3, a4, a5, a6, a7, a8, a9, a10, a11, a12, a13, a14, a15, a16, a17, a18, a19, a20, a21, a22, a23, a24, a25, a26, a27, a28, a29, a30, a31, a32, a33, a34, a35] = 36 := rfl
end Jvm.Own
namespace Jvm.Pilot.@@N@@
open Jvm Jvm.ClassFile Sem Op Lib Jvm.Free Jvm.Stand Jvm.LawKit Jvm.RoadKit Bundle Jvm.Own Jvm.Pilot.@@N@@.Jvm.D
theorem k0_0 : dec code 0 = some (.iconst 1) := by decide +kernel
theorem k0_1 : dec code 1 = some (.iload_n 0) := by decide +kernel
theorem k0_2 : dec code 2 = some (.ldc 7) := by decide +kernel
theorem k0_4 : dec code 4 = some (.iand) := by decide +kernel
theorem k0_5 : dec code 5 = some (.ldc 7) := by decide +kernel
theorem k0_7 : dec code 7 = some (.irem) := by decide +kernel
theorem k0_8 : dec code 8 = some (.iadd) := by decide +kernel
theorem k0_9 : dec code 9 = some (.istore 4) := by decide +kernel
theorem k0_11 : dec code 11 = some (.ldc 7) := by decide +kernel
theorem k0_13 : dec code 13 = some (.iload 4) := by decide +kernel
theorem k0_15 : dec code 15 = some (.isub) := by decide +kernel
theorem k0_16 : dec code 16 = some (.iconst 1) := by decide +kernel
theorem k0_17 : dec code 17 = some (.iadd) := by decide +kernel
theorem k0_18 : dec code 18 = some (.istore 5) := by decide +kernel
theorem k0_20 : dec code 20 = some (.iload_n 1) := by decide +kernel
theorem k0_21 : dec code 21 = some (.ldc 7) := by decide +kernel
theorem k0_23 : dec code 23 = some (.iand) := by decide +kernel
theorem k0_24 : dec code 24 = some (.iload 5) := by decide +kernel
theorem k0_26 : dec code 26 = some (.irem) := by decide +kernel
theorem k0_27 : dec code 27 = some (.istore 6) := by decide +kernel
theorem k0_29 : dec code 29 = some (.iload_n 3) := by decide +kernel
theorem k0_30 : dec code 30 = some (.iconst 1) := by decide +kernel
theorem k0_31 : dec code 31 = some (.iand) := by decide +kernel
theorem k0_32 : dec code 32 = some (.ifCond .eq 6) := by decide +kernel
theorem k0_35 : dec code 35 = some (.iconst 0) := by decide +kernel
theorem k0_36 : dec code 36 = some (.istore 6) := by decide +kernel
theorem k0_38 : dec code 38 = some (.iload 4) := by decide +kernel
theorem k0_40 : dec code 40 = some (.iload 6) := by decide +kernel
theorem k0_42 : dec code 42 = some (.iadd) := by decide +kernel
theorem k0_43 : dec code 43 = some (.istore 7) := by decide +kernel
theorem k0_45 : dec code 45 = some (.iload_n 2) := by decide +kernel
theorem k0_46 : dec code 46 = some (.ldc 7) := by decide +kernel
theorem k0_48 : dec code 48 = some (.iand) := by decide +kernel
theorem k0_49 : dec code 49 = some (.istore 8) := by decide +kernel
theorem k0_51 : dec code 51 = some (.new 8) := by decide +kernel
theorem k0_54 : dec code 54 = some (.dup) := by decide +kernel
theorem k0_55 : dec code 55 = some (.iload 4) := by decide +kernel
theorem k0_57 : dec code 57 = some (.iload 7) := by decide +kernel
theorem k0_59 : dec code 59 = some (.iload 8) := by decide +kernel
theorem k0_61 : dec code 61 = some (.invokespecial 10) := by decide +kernel
theorem k0_64 : dec code 64 = some (.astore 9) := by decide +kernel
theorem k0_66 : dec code 66 = some (.iload 6) := by decide +kernel
theorem k0_68 : dec code 68 = some (.ifCond .ne 7) := by decide +kernel
theorem k0_71 : dec code 71 = some (.iconst 1) := by decide +kernel
theorem k0_72 : dec code 72 = some (.goto 4) := by decide +kernel
theorem k0_75 : dec code 75 = some (.iconst 0) := by decide +kernel
theorem k0_76 : dec code 76 = some (.istore 10) := by decide +kernel
theorem k0_78 : dec code 78 = some (.aload 9) := by decide +kernel
theorem k0_80 : dec code 80 = some (.invokevirtual 13) := by decide +kernel
theorem k0_83 : dec code 83 = some (.iload 10) := by decide +kernel
theorem k0_85 : dec code 85 = some (.if_icmp .ne 7) := by decide +kernel
theorem k0_88 : dec code 88 = some (.iconst 1) := by decide +kernel
theorem k0_89 : dec code 89 = some (.goto 4) := by decide +kernel
theorem k0_92 : dec code 92 = some (.iconst 0) := by decide +kernel
theorem k0_93 : dec code 93 = some (.ireturn) := by decide +kernel
theorem k1_0 : dec prog_67_method_1_code 0 = some (.aload_n 0) := by decide +kernel
theorem k1_1 : dec prog_67_method_1_code 1 = some (.invokespecial 1) := by decide +kernel
theorem k1_4 : dec prog_67_method_1_code 4 = some (.iload_n 1) := by decide +kernel
theorem k1_5 : dec prog_67_method_1_code 5 = some (.iconst 1) := by decide +kernel
theorem k1_6 : dec prog_67_method_1_code 6 = some (.if_icmp .lt 12) := by decide +kernel
theorem k1_9 : dec prog_67_method_1_code 9 = some (.iload_n 2) := by decide +kernel
theorem k1_10 : dec prog_67_method_1_code 10 = some (.iload_n 1) := by decide +kernel
theorem k1_11 : dec prog_67_method_1_code 11 = some (.if_icmp .lt 7) := by decide +kernel
theorem k1_14 : dec prog_67_method_1_code 14 = some (.iload_n 3) := by decide +kernel
theorem k1_15 : dec prog_67_method_1_code 15 = some (.ifCond .ge 13) := by decide +kernel
theorem k1_18 : dec prog_67_method_1_code 18 = some (.new 7) := by decide +kernel
theorem k1_21 : dec prog_67_method_1_code 21 = some (.dup) := by decide +kernel
theorem k1_22 : dec prog_67_method_1_code 22 = some (.ldc 9) := by decide +kernel
theorem k1_24 : dec prog_67_method_1_code 24 = some (.invokespecial 11) := by decide +kernel
theorem k1_27 : dec prog_67_method_1_code 27 = some (.athrow) := by decide +kernel
theorem k1_28 : dec prog_67_method_1_code 28 = some (.aload_n 0) := by decide +kernel
theorem k1_29 : dec prog_67_method_1_code 29 = some (.iload_n 1) := by decide +kernel
theorem k1_30 : dec prog_67_method_1_code 30 = some (.putfield 14) := by decide +kernel
theorem k1_33 : dec prog_67_method_1_code 33 = some (.aload_n 0) := by decide +kernel
theorem k1_34 : dec prog_67_method_1_code 34 = some (.iload_n 2) := by decide +kernel
theorem k1_35 : dec prog_67_method_1_code 35 = some (.putfield 20) := by decide +kernel
theorem k1_38 : dec prog_67_method_1_code 38 = some (.aload_n 0) := by decide +kernel
theorem k1_39 : dec prog_67_method_1_code 39 = some (.iload_n 3) := by decide +kernel
theorem k1_40 : dec prog_67_method_1_code 40 = some (.putfield 23) := by decide +kernel
theorem k1_43 : dec prog_67_method_1_code 43 = some (.return_) := by decide +kernel
theorem k2_0 : dec jdk_30_method_1_code 0 = some (.aload_n 0) := by decide +kernel
theorem k2_1 : dec jdk_30_method_1_code 1 = some (.invokespecial 1) := by decide +kernel
theorem k2_4 : dec jdk_30_method_1_code 4 = some (.return_) := by decide +kernel
theorem k3_0 : dec prog_67_method_2_code 0 = some (.aload_n 0) := by decide +kernel
theorem k3_1 : dec prog_67_method_2_code 1 = some (.getfield 14) := by decide +kernel
theorem k3_4 : dec prog_67_method_2_code 4 = some (.aload_n 0) := by decide +kernel
theorem k3_5 : dec prog_67_method_2_code 5 = some (.getfield 20) := by decide +kernel
theorem k3_8 : dec prog_67_method_2_code 8 = some (.if_icmp .ne 7) := by decide +kernel
theorem k3_11 : dec prog_67_method_2_code 11 = some (.iconst 1) := by decide +kernel
theorem k3_12 : dec prog_67_method_2_code 12 = some (.goto 4) := by decide +kernel
theorem k3_15 : dec prog_67_method_2_code 15 = some (.iconst 0) := by decide +kernel
theorem k3_16 : dec prog_67_method_2_code 16 = some (.ireturn) := by decide +kernel
def K : List CD := [("com/example/polyscribe/polyscribe/model/Repeat", [("com/example/polyscribe/polyscribe/model/Repeat", "min", "I"), ("com/example/polyscribe/polyscribe/model/Repeat", "max", "I"), ("com/example/polyscribe/polyscribe/model/Repeat", "offset", "I")])]
theorem kok {Z : State} {a0 : Array Value} (hw : ∀ d ∈ tables_1, d.before a0 Z = true) : KOk Z a0 K := by
  intro c C fs h
  match c, h with
  | 0, h =>
    cases h
    refine ⟨⟨3, (hw _ (List.mem_of_getElem? (i := 2) rfl))⟩, ?_, names_inj (by decide +kernel)⟩
    intro i f hf
    match i, hf with
    | 0, hf => cases hf; exact ⟨Or.inr (hw _ (List.mem_of_getElem? (i := 16) rfl)), .int, by decide +kernel⟩
    | 1, hf => cases hf; exact ⟨Or.inr (hw _ (List.mem_of_getElem? (i := 18) rfl)), .int, by decide +kernel⟩
    | 2, hf => cases hf; exact ⟨Or.inr (hw _ (List.mem_of_getElem? (i := 20) rfl)), .int, by decide +kernel⟩
    | k + 3, hf => cases hf
  | k + 1, h => cases h
/-! body 2: Record.<init>()V -/
def E2 : List (Nat × Nat × Act) := [(8, 1, aObj 6)]
def F2 : List Value → AH → Option ORes := fn jdk_30_method_1_code 1 (Option.none : Option Jvm.ClassFile.FieldType) E2 0 46
def r2 : Room := { frames := 1, cells := 0, slots := 0, locals := 18 }
theorem says2 (l : Launch) {Z : State} {a0 : Array Value} {σ : Nat → Nat} {n0 : Nat} (hsg : Sg σ 0 n0) (hw : ∀ d ∈ tables_1, d.before a0 Z = true) : Says l Z σ 0 n0 K (⟨"java/lang/Record", "<init>", "()V"⟩ : MethodName) jdk_30_method_1_code 1 (Option.none : Option Jvm.ClassFile.FieldType) [] r2 F2 :=
  says_fn hsg (plainFor_of_name (by first | (simp [plainName, overriddenIn]; done) | decide +kernel)) fun p e s m args below meth c hx hby hml hZ hown hnm => ag_cons (okObj hx hZ hown (hw _ (List.mem_of_getElem? (i := 12) rfl)) (hw _ (List.mem_of_getElem? (i := 13) rfl)) (hw _ (List.mem_of_getElem? (i := 14) rfl)) (W := 6) (by decide) (by decide)) <| ag_nil
/-! body 1: Repeat.<init>(III)V -/
def E1 : List (Nat × Nat × Act) := [(8, 1, aRecv 0 0 6 0 0 0 0 F2), (4, 14, aPut 0 0 0 .int), (4, 20, aPut 0 0 1 .int), (4, 23, aPut 0 0 2 .int)]
def F1 : List Value → AH → Option ORes := fn prog_67_method_1_code 4 (Option.none : Option Jvm.ClassFile.FieldType) E1 0 90
def r1 : Room := { frames := 2, cells := 0, slots := 0, locals := 36 }
theorem says1 (l : Launch) {Z : State} {a0 : Array Value} {σ : Nat → Nat} {n0 : Nat} (hsg : Sg σ 0 n0) (hw : ∀ d ∈ tables_1, d.before a0 Z = true) : Says l Z σ 0 n0 K (⟨"com/example/polyscribe/polyscribe/model/Repeat", "<init>", "(III)V"⟩ : MethodName) prog_67_method_1_code 4 (Option.none : Option Jvm.ClassFile.FieldType) [] r1 F1 :=
  says_fn hsg (plainFor_of_name (by first | (simp [plainName, overriddenIn]; done) | decide +kernel)) fun p e s m args below meth c hx hby hml hZ hown hnm => ag_cons (okCtor (cl := 0) (W := 6) hx hZ (says2 l hsg hw) rfl hown (hw _ (List.mem_of_getElem? (i := 7) rfl)) (hw _ (List.mem_of_getElem? (i := 8) rfl)) (hw _ (List.mem_of_getElem? (i := 10) rfl)) (hw _ (List.mem_of_getElem? (i := 11) rfl)) (by decide) (by decide +kernel : parseMethodDescriptor "()V" = some ⟨[], none⟩) rfl (by decide) (by decide) (by decide) (by decide)) <| ag_cons (okPut hx hZ hsg (kok hw) hown (host := "") (Or.inl (hw _ (List.mem_of_getElem? (i := 15) rfl))) Via.refl (cn := 0) (j := 0) rfl rfl (by decide +kernel) (Or.inr ⟨(hw _ (List.mem_of_getElem? (i := 16) rfl)), rfl, hnm⟩)) <| ag_cons (okPut hx hZ hsg (kok hw) hown (host := "") (Or.inl (hw _ (List.mem_of_getElem? (i := 17) rfl))) Via.refl (cn := 0) (j := 1) rfl rfl (by decide +kernel) (Or.inr ⟨(hw _ (List.mem_of_getElem? (i := 18) rfl)), rfl, hnm⟩)) <| ag_cons (okPut hx hZ hsg (kok hw) hown (host := "") (Or.inl (hw _ (List.mem_of_getElem? (i := 19) rfl))) Via.refl (cn := 0) (j := 2) rfl rfl (by decide +kernel) (Or.inr ⟨(hw _ (List.mem_of_getElem? (i := 20) rfl)), rfl, hnm⟩)) <| ag_nil
/-! body 3: Repeat.isFixed()Z -/
def E3 : List (Nat × Nat × Act) := [(3, 14, aGet 0 0), (3, 20, aGet 0 1)]
def F3 : List Value → AH → Option ORes := fn prog_67_method_2_code 1 (Option.some Jvm.ClassFile.FieldType.boolean) E3 0 58
def r3 : Room := { frames := 0, cells := 0, slots := 0, locals := 0 }
theorem says3 (l : Launch) {Z : State} {a0 : Array Value} {σ : Nat → Nat} {n0 : Nat} (hsg : Sg σ 0 n0) (hw : ∀ d ∈ tables_1, d.before a0 Z = true) : Says l Z σ 0 n0 K (⟨"com/example/polyscribe/polyscribe/model/Repeat", "isFixed", "()Z"⟩ : MethodName) prog_67_method_2_code 1 (Option.some Jvm.ClassFile.FieldType.boolean) [] r3 F3 :=
  says_fn hsg (plainFor_of_name (by first | (simp [plainName, overriddenIn]; done) | decide +kernel)) fun p e s m args below meth c hx hby hml hZ hown hnm => ag_cons (okGet hx hZ hown (host := "") (Or.inl (hw _ (List.mem_of_getElem? (i := 15) rfl))) Via.refl (cn := 0) (j := 0) rfl rfl) <| ag_cons (okGet hx hZ hown (host := "") (Or.inl (hw _ (List.mem_of_getElem? (i := 17) rfl))) Via.refl (cn := 0) (j := 1) rfl rfl) <| ag_nil
/-! body 0: RepeatIsFixedPinLaw.law(IIII)Z -/
def E0 : List (Nat × Nat × Act) := [(0, 7, aI (2147483647)), (6, 8, aNew 0 3 16 128 [(.int 0), (.int 0), (.int 0)]), (8, 10, aRecv 3 0 6 16 128 0 0 F1), (9, 13, aRecv 0 0 6 16 128 0 0 F3)]
def F0 : List Value → AH → Option ORes := fn code maxLocals ret E0 0 150
theorem says0 (l : Launch) {Z : State} {a0 : Array Value} {σ : Nat → Nat} {n0 : Nat} (hsg : Sg σ 0 n0) (hw : ∀ d ∈ tables_1, d.before a0 Z = true) : Says l Z σ 0 n0 K x code maxLocals ret tables_1 room_1 F0 :=
  says_fn hsg (plainFor_of_name (by first | (simp [x, plainName, overriddenIn]; done) | decide +kernel)) fun p e s m args below meth c hx hby hml hZ hown hnm => ag_cons (okI hx hZ hown (hw _ (List.mem_of_getElem? (i := 0) rfl))) <| ag_cons (okNew hx hZ hsg (kok hw) hown (hw _ (List.mem_of_getElem? (i := 1) rfl)) (hw _ (List.mem_of_getElem? (i := 2) rfl)) (hw _ (List.mem_of_getElem? (i := 3) rfl)) (cn := 0) rfl (by decide +kernel) (by decide) (by decide)) <| ag_cons (okCtor (cl := 0) (W := 6) hx hZ (says1 l hsg hw) rfl hown (hw _ (List.mem_of_getElem? (i := 4) rfl)) (hw _ (List.mem_of_getElem? (i := 5) rfl)) (hw _ (List.mem_of_getElem? (i := 3) rfl)) (hw _ (List.mem_of_getElem? (i := 6) rfl)) (by decide) (by decide +kernel : parseMethodDescriptor "(III)V" = some ⟨[.int, .int, .int], none⟩) rfl (by decide) (by decide) (by decide) (by decide)) <| ag_cons (okVirt (cl := 0) (W := 6) hx hZ (says3 l hsg hw) rfl hown (hw _ (List.mem_of_getElem? (i := 21) rfl)) (hw _ (List.mem_of_getElem? (i := 22) rfl)) (hw _ (List.mem_of_getElem? (i := 24) rfl)) (hw _ (List.mem_of_getElem? (i := 23) rfl)) (hw _ (List.mem_of_getElem? (i := 3) rfl)) (hw _ (List.mem_of_getElem? (i := 25) rfl)) (fun _ _ h => notFace_of_selects h) (by decide) (by decide +kernel : parseMethodDescriptor "()Z" = some ⟨[], some .boolean⟩) rfl (by decide) (by decide) (by decide) (by decide)) <| ag_nil
theorem f2_in {x0 : Nat} {H : AH} : F2 [.ref x0] H = orun jdk_30_method_1_code (Option.none : Option Jvm.ClassFile.FieldType) E2 0 46 (0, [.val (.ref x0)], [], H, 0, 0) := rfl
theorem s2_0 {n cs ss : Nat} {L : List Slot} {S : List Value} {H : AH} : orun jdk_30_method_1_code (Option.none : Option Jvm.ClassFile.FieldType) E2 0 (n + 1) (0, L, S, H, cs, ss) = (gA L 0).bind fun v => orun jdk_30_method_1_code (Option.none : Option Jvm.ClassFile.FieldType) E2 0 n (1, L, v :: S, H, cs, ss) := s_any k2_0
theorem s2_1 {n cs ss : Nat} {L : List Slot} {S : List Value} {H : AH} : orun jdk_30_method_1_code (Option.none : Option Jvm.ClassFile.FieldType) E2 0 (n + 1) (1, L, S, H, cs, ss) = (aObj 6 S H cs ss).bind fun r => orun jdk_30_method_1_code (Option.none : Option Jvm.ClassFile.FieldType) E2 0 n (4, L, r.1, r.2.1, r.2.2.1, r.2.2.2) := s_any k2_1
theorem s2_4 {n cs ss : Nat} {L : List Slot} {S : List Value} {H : AH} : orun jdk_30_method_1_code (Option.none : Option Jvm.ClassFile.FieldType) E2 0 (n + 1) (4, L, S, H, cs, ss) = rV none S H := s_any k2_4
theorem t2_0 {go : Nat → St → Option ORes} (hgo : go = orun jdk_30_method_1_code (Option.none : Option Jvm.ClassFile.FieldType) E2 0) {n cs ss : Nat} {S : List Value} {H : AH} {q : Option ORes → Prop} {v : Value} (hv : isA v = true) (h : Rsq (go n (1, [.val v], (v :: S), H, cs, ss)) q) : Rsq (go (n + 1) (0, [.val v], S, H, cs, ss)) q := by
  subst hgo
  refine res_of s2_0 ?_
  rw [gA_isA (L := [.val v]) (k := 0) (v := v) rfl hv]
  exact h
theorem u2_1 {go : Nat → St → Option ORes} (hgo : go = orun jdk_30_method_1_code (Option.none : Option Jvm.ClassFile.FieldType) E2 0) {n cs ss : Nat} {L : List Slot} {S : List Value} {H : AH} : go (n + 1) (1, L, S, H, cs, ss) = (aObj 6 S H cs ss).bind fun r => go n (4, L, r.1, r.2.1, r.2.2.1, r.2.2.2) := by
  subst hgo
  exact s2_1
theorem t2_4 {go : Nat → St → Option ORes} (hgo : go = orun jdk_30_method_1_code (Option.none : Option Jvm.ClassFile.FieldType) E2 0) {n cs ss : Nat} {L : List Slot} {H : AH} {q : Option ORes → Prop} (h : q (some (none, H))) : Rsq (go (n + 1) (4, L, [], H, cs, ss)) q := by
  subst hgo
  exact res_of s2_4 h
theorem f1_in {x0 : Nat} {x1 : Int32} {x2 : Int32} {x3 : Int32} {H : AH} : F1 [.ref x0, .int x1, .int x2, .int x3] H = orun prog_67_method_1_code (Option.none : Option Jvm.ClassFile.FieldType) E1 0 90 (0, [.val (.ref x0), .val (.int x1), .val (.int x2), .val (.int x3)], [], H, 0, 0) := rfl
theorem s1_0 {n cs ss : Nat} {L : List Slot} {S : List Value} {H : AH} : orun prog_67_method_1_code (Option.none : Option Jvm.ClassFile.FieldType) E1 0 (n + 1) (0, L, S, H, cs, ss) = (gA L 0).bind fun v => orun prog_67_method_1_code (Option.none : Option Jvm.ClassFile.FieldType) E1 0 n (1, L, v :: S, H, cs, ss) := s_any k1_0
theorem s1_1 {n cs ss : Nat} {L : List Slot} {S : List Value} {H : AH} : orun prog_67_method_1_code (Option.none : Option Jvm.ClassFile.FieldType) E1 0 (n + 1) (1, L, S, H, cs, ss) = (aRecv 0 0 6 0 0 0 0 F2 S H cs ss).bind fun r => orun prog_67_method_1_code (Option.none : Option Jvm.ClassFile.FieldType) E1 0 n (4, L, r.1, r.2.1, r.2.2.1, r.2.2.2) := s_any k1_1
theorem s1_4 {n cs ss : Nat} {L : List Slot} {S : List Value} {H : AH} : orun prog_67_method_1_code (Option.none : Option Jvm.ClassFile.FieldType) E1 0 (n + 1) (4, L, S, H, cs, ss) = (gI L 1).bind fun v => orun prog_67_method_1_code (Option.none : Option Jvm.ClassFile.FieldType) E1 0 n (5, L, .int v :: S, H, cs, ss) := s_any k1_4
theorem s1_5 {n cs ss : Nat} {L : List Slot} {S : List Value} {H : AH} : orun prog_67_method_1_code (Option.none : Option Jvm.ClassFile.FieldType) E1 0 (n + 1) (5, L, S, H, cs, ss) = orun prog_67_method_1_code (Option.none : Option Jvm.ClassFile.FieldType) E1 0 n (6, L, (.int 1 :: S), H, cs, ss) := s_any k1_5
theorem s1_6 {n cs ss : Nat} {L : List Slot} {S : List Value} {H : AH} : orun prog_67_method_1_code (Option.none : Option Jvm.ClassFile.FieldType) E1 0 (n + 1) (6, L, S, H, cs, ss) = pI S fun y S => pI S fun x r => if x < y then orun prog_67_method_1_code (Option.none : Option Jvm.ClassFile.FieldType) E1 0 n (18, L, r, H, cs, ss) else orun prog_67_method_1_code (Option.none : Option Jvm.ClassFile.FieldType) E1 0 n (9, L, r, H, cs, ss) := s_icmp (Q := fun x y => x < y) (fun _ _ => h_lt) k1_6 (by decide) (by decide)
theorem s1_9 {n cs ss : Nat} {L : List Slot} {S : List Value} {H : AH} : orun prog_67_method_1_code (Option.none : Option Jvm.ClassFile.FieldType) E1 0 (n + 1) (9, L, S, H, cs, ss) = (gI L 2).bind fun v => orun prog_67_method_1_code (Option.none : Option Jvm.ClassFile.FieldType) E1 0 n (10, L, .int v :: S, H, cs, ss) := s_any k1_9
theorem s1_10 {n cs ss : Nat} {L : List Slot} {S : List Value} {H : AH} : orun prog_67_method_1_code (Option.none : Option Jvm.ClassFile.FieldType) E1 0 (n + 1) (10, L, S, H, cs, ss) = (gI L 1).bind fun v => orun prog_67_method_1_code (Option.none : Option Jvm.ClassFile.FieldType) E1 0 n (11, L, .int v :: S, H, cs, ss) := s_any k1_10
theorem s1_11 {n cs ss : Nat} {L : List Slot} {S : List Value} {H : AH} : orun prog_67_method_1_code (Option.none : Option Jvm.ClassFile.FieldType) E1 0 (n + 1) (11, L, S, H, cs, ss) = pI S fun y S => pI S fun x r => if x < y then orun prog_67_method_1_code (Option.none : Option Jvm.ClassFile.FieldType) E1 0 n (18, L, r, H, cs, ss) else orun prog_67_method_1_code (Option.none : Option Jvm.ClassFile.FieldType) E1 0 n (14, L, r, H, cs, ss) := s_icmp (Q := fun x y => x < y) (fun _ _ => h_lt) k1_11 (by decide) (by decide)
theorem s1_14 {n cs ss : Nat} {L : List Slot} {S : List Value} {H : AH} : orun prog_67_method_1_code (Option.none : Option Jvm.ClassFile.FieldType) E1 0 (n + 1) (14, L, S, H, cs, ss) = (gI L 3).bind fun v => orun prog_67_method_1_code (Option.none : Option Jvm.ClassFile.FieldType) E1 0 n (15, L, .int v :: S, H, cs, ss) := s_any k1_14
theorem s1_15 {n cs ss : Nat} {L : List Slot} {S : List Value} {H : AH} : orun prog_67_method_1_code (Option.none : Option Jvm.ClassFile.FieldType) E1 0 (n + 1) (15, L, S, H, cs, ss) = pI S fun x r => if x < 0 then orun prog_67_method_1_code (Option.none : Option Jvm.ClassFile.FieldType) E1 0 n (18, L, r, H, cs, ss) else orun prog_67_method_1_code (Option.none : Option Jvm.ClassFile.FieldType) E1 0 n (28, L, r, H, cs, ss) := s_ifN (Q := fun x => x < 0) (fun _ => z_ge) k1_15 (by decide) (by decide)
theorem s1_18 {n cs ss : Nat} {L : List Slot} {S : List Value} {H : AH} : orun prog_67_method_1_code (Option.none : Option Jvm.ClassFile.FieldType) E1 0 (n + 1) (18, L, S, H, cs, ss) = ex (Option.none : Option Jvm.ClassFile.FieldType) E1 0 (orun prog_67_method_1_code (Option.none : Option Jvm.ClassFile.FieldType) E1 0 n) (.new 7) 18 L S H cs ss := s_any k1_18
theorem s1_21 {n cs ss : Nat} {L : List Slot} {S : List Value} {H : AH} : orun prog_67_method_1_code (Option.none : Option Jvm.ClassFile.FieldType) E1 0 (n + 1) (21, L, S, H, cs, ss) = ex (Option.none : Option Jvm.ClassFile.FieldType) E1 0 (orun prog_67_method_1_code (Option.none : Option Jvm.ClassFile.FieldType) E1 0 n) (.dup) 21 L S H cs ss := s_any k1_21
theorem s1_22 {n cs ss : Nat} {L : List Slot} {S : List Value} {H : AH} : orun prog_67_method_1_code (Option.none : Option Jvm.ClassFile.FieldType) E1 0 (n + 1) (22, L, S, H, cs, ss) = ex (Option.none : Option Jvm.ClassFile.FieldType) E1 0 (orun prog_67_method_1_code (Option.none : Option Jvm.ClassFile.FieldType) E1 0 n) (.ldc 9) 22 L S H cs ss := s_any k1_22
theorem s1_24 {n cs ss : Nat} {L : List Slot} {S : List Value} {H : AH} : orun prog_67_method_1_code (Option.none : Option Jvm.ClassFile.FieldType) E1 0 (n + 1) (24, L, S, H, cs, ss) = ex (Option.none : Option Jvm.ClassFile.FieldType) E1 0 (orun prog_67_method_1_code (Option.none : Option Jvm.ClassFile.FieldType) E1 0 n) (.invokespecial 11) 24 L S H cs ss := s_any k1_24
theorem s1_27 {n cs ss : Nat} {L : List Slot} {S : List Value} {H : AH} : orun prog_67_method_1_code (Option.none : Option Jvm.ClassFile.FieldType) E1 0 (n + 1) (27, L, S, H, cs, ss) = ex (Option.none : Option Jvm.ClassFile.FieldType) E1 0 (orun prog_67_method_1_code (Option.none : Option Jvm.ClassFile.FieldType) E1 0 n) (.athrow) 27 L S H cs ss := s_any k1_27
theorem s1_28 {n cs ss : Nat} {L : List Slot} {S : List Value} {H : AH} : orun prog_67_method_1_code (Option.none : Option Jvm.ClassFile.FieldType) E1 0 (n + 1) (28, L, S, H, cs, ss) = (gA L 0).bind fun v => orun prog_67_method_1_code (Option.none : Option Jvm.ClassFile.FieldType) E1 0 n (29, L, v :: S, H, cs, ss) := s_any k1_28
theorem s1_29 {n cs ss : Nat} {L : List Slot} {S : List Value} {H : AH} : orun prog_67_method_1_code (Option.none : Option Jvm.ClassFile.FieldType) E1 0 (n + 1) (29, L, S, H, cs, ss) = (gI L 1).bind fun v => orun prog_67_method_1_code (Option.none : Option Jvm.ClassFile.FieldType) E1 0 n (30, L, .int v :: S, H, cs, ss) := s_any k1_29
theorem s1_30 {n cs ss : Nat} {L : List Slot} {S : List Value} {H : AH} : orun prog_67_method_1_code (Option.none : Option Jvm.ClassFile.FieldType) E1 0 (n + 1) (30, L, S, H, cs, ss) = (aPut 0 0 0 .int S H cs ss).bind fun r => orun prog_67_method_1_code (Option.none : Option Jvm.ClassFile.FieldType) E1 0 n (33, L, r.1, r.2.1, r.2.2.1, r.2.2.2) := s_any k1_30
theorem s1_33 {n cs ss : Nat} {L : List Slot} {S : List Value} {H : AH} : orun prog_67_method_1_code (Option.none : Option Jvm.ClassFile.FieldType) E1 0 (n + 1) (33, L, S, H, cs, ss) = (gA L 0).bind fun v => orun prog_67_method_1_code (Option.none : Option Jvm.ClassFile.FieldType) E1 0 n (34, L, v :: S, H, cs, ss) := s_any k1_33
theorem s1_34 {n cs ss : Nat} {L : List Slot} {S : List Value} {H : AH} : orun prog_67_method_1_code (Option.none : Option Jvm.ClassFile.FieldType) E1 0 (n + 1) (34, L, S, H, cs, ss) = (gI L 2).bind fun v => orun prog_67_method_1_code (Option.none : Option Jvm.ClassFile.FieldType) E1 0 n (35, L, .int v :: S, H, cs, ss) := s_any k1_34
theorem s1_35 {n cs ss : Nat} {L : List Slot} {S : List Value} {H : AH} : orun prog_67_method_1_code (Option.none : Option Jvm.ClassFile.FieldType) E1 0 (n + 1) (35, L, S, H, cs, ss) = (aPut 0 0 1 .int S H cs ss).bind fun r => orun prog_67_method_1_code (Option.none : Option Jvm.ClassFile.FieldType) E1 0 n (38, L, r.1, r.2.1, r.2.2.1, r.2.2.2) := s_any k1_35
theorem s1_38 {n cs ss : Nat} {L : List Slot} {S : List Value} {H : AH} : orun prog_67_method_1_code (Option.none : Option Jvm.ClassFile.FieldType) E1 0 (n + 1) (38, L, S, H, cs, ss) = (gA L 0).bind fun v => orun prog_67_method_1_code (Option.none : Option Jvm.ClassFile.FieldType) E1 0 n (39, L, v :: S, H, cs, ss) := s_any k1_38
theorem s1_39 {n cs ss : Nat} {L : List Slot} {S : List Value} {H : AH} : orun prog_67_method_1_code (Option.none : Option Jvm.ClassFile.FieldType) E1 0 (n + 1) (39, L, S, H, cs, ss) = (gI L 3).bind fun v => orun prog_67_method_1_code (Option.none : Option Jvm.ClassFile.FieldType) E1 0 n (40, L, .int v :: S, H, cs, ss) := s_any k1_39
theorem s1_40 {n cs ss : Nat} {L : List Slot} {S : List Value} {H : AH} : orun prog_67_method_1_code (Option.none : Option Jvm.ClassFile.FieldType) E1 0 (n + 1) (40, L, S, H, cs, ss) = (aPut 0 0 2 .int S H cs ss).bind fun r => orun prog_67_method_1_code (Option.none : Option Jvm.ClassFile.FieldType) E1 0 n (43, L, r.1, r.2.1, r.2.2.1, r.2.2.2) := s_any k1_40
theorem s1_43 {n cs ss : Nat} {L : List Slot} {S : List Value} {H : AH} : orun prog_67_method_1_code (Option.none : Option Jvm.ClassFile.FieldType) E1 0 (n + 1) (43, L, S, H, cs, ss) = rV none S H := s_any k1_43
theorem t1_0 {go : Nat → St → Option ORes} (hgo : go = orun prog_67_method_1_code (Option.none : Option Jvm.ClassFile.FieldType) E1 0) {n cs ss : Nat} {l1 l2 l3 : Slot} {S : List Value} {H : AH} {q : Option ORes → Prop} {v : Value} (hv : isA v = true) (h : Rsq (go n (1, [.val v, l1, l2, l3], (v :: S), H, cs, ss)) q) : Rsq (go (n + 1) (0, [.val v, l1, l2, l3], S, H, cs, ss)) q := by
  subst hgo
  refine res_of s1_0 ?_
  rw [gA_isA (L := [.val v, l1, l2, l3]) (k := 0) (v := v) rfl hv]
  exact h
theorem u1_1 {go : Nat → St → Option ORes} (hgo : go = orun prog_67_method_1_code (Option.none : Option Jvm.ClassFile.FieldType) E1 0) {n cs ss : Nat} {L : List Slot} {S : List Value} {H : AH} : go (n + 1) (1, L, S, H, cs, ss) = (aRecv 0 0 6 0 0 0 0 F2 S H cs ss).bind fun r => go n (4, L, r.1, r.2.1, r.2.2.1, r.2.2.2) := by
  subst hgo
  exact s1_1
theorem t1_4 {go : Nat → St → Option ORes} (hgo : go = orun prog_67_method_1_code (Option.none : Option Jvm.ClassFile.FieldType) E1 0) {n cs ss : Nat} {l0 l2 l3 : Slot} {S : List Value} {H : AH} {q : Option ORes → Prop} {v : Int32} (h : Rsq (go n (5, [l0, .val (.int v), l2, l3], (.int v :: S), H, cs, ss)) q) : Rsq (go (n + 1) (4, [l0, .val (.int v), l2, l3], S, H, cs, ss)) q := by
  subst hgo
  exact res_of s1_4 h
theorem t1_5 {go : Nat → St → Option ORes} (hgo : go = orun prog_67_method_1_code (Option.none : Option Jvm.ClassFile.FieldType) E1 0) {n cs ss : Nat} {L : List Slot} {S : List Value} {H : AH} {q : Option ORes → Prop} (h : Rsq (go n (6, L, (.int 1 :: S), H, cs, ss)) q) : Rsq (go (n + 1) (5, L, S, H, cs, ss)) q := by
  subst hgo
  exact res_of s1_5 h
theorem t1_6t {go : Nat → St → Option ORes} (hgo : go = orun prog_67_method_1_code (Option.none : Option Jvm.ClassFile.FieldType) E1 0) {n cs ss : Nat} {L : List Slot} {S : List Value} {H : AH} {q : Option ORes → Prop} {x y : Int32} (hc : x < y) (h : Rsq (go n (18, L, S, H, cs, ss)) q) : Rsq (go (n + 1) (6, L, (.int y :: .int x :: S), H, cs, ss)) q := by
  subst hgo
  exact res_of s1_6 (res_t hc h)
theorem t1_6f {go : Nat → St → Option ORes} (hgo : go = orun prog_67_method_1_code (Option.none : Option Jvm.ClassFile.FieldType) E1 0) {n cs ss : Nat} {L : List Slot} {S : List Value} {H : AH} {q : Option ORes → Prop} {x y : Int32} (hc : ¬ x < y) (h : Rsq (go n (9, L, S, H, cs, ss)) q) : Rsq (go (n + 1) (6, L, (.int y :: .int x :: S), H, cs, ss)) q := by
  subst hgo
  exact res_of s1_6 (res_f hc h)
theorem t1_9 {go : Nat → St → Option ORes} (hgo : go = orun prog_67_method_1_code (Option.none : Option Jvm.ClassFile.FieldType) E1 0) {n cs ss : Nat} {l0 l1 l3 : Slot} {S : List Value} {H : AH} {q : Option ORes → Prop} {v : Int32} (h : Rsq (go n (10, [l0, l1, .val (.int v), l3], (.int v :: S), H, cs, ss)) q) : Rsq (go (n + 1) (9, [l0, l1, .val (.int v), l3], S, H, cs, ss)) q := by
  subst hgo
  exact res_of s1_9 h
theorem t1_10 {go : Nat → St → Option ORes} (hgo : go = orun prog_67_method_1_code (Option.none : Option Jvm.ClassFile.FieldType) E1 0) {n cs ss : Nat} {l0 l2 l3 : Slot} {S : List Value} {H : AH} {q : Option ORes → Prop} {v : Int32} (h : Rsq (go n (11, [l0, .val (.int v), l2, l3], (.int v :: S), H, cs, ss)) q) : Rsq (go (n + 1) (10, [l0, .val (.int v), l2, l3], S, H, cs, ss)) q := by
  subst hgo
  exact res_of s1_10 h
theorem t1_11t {go : Nat → St → Option ORes} (hgo : go = orun prog_67_method_1_code (Option.none : Option Jvm.ClassFile.FieldType) E1 0) {n cs ss : Nat} {L : List Slot} {S : List Value} {H : AH} {q : Option ORes → Prop} {x y : Int32} (hc : x < y) (h : Rsq (go n (18, L, S, H, cs, ss)) q) : Rsq (go (n + 1) (11, L, (.int y :: .int x :: S), H, cs, ss)) q := by
  subst hgo
  exact res_of s1_11 (res_t hc h)
theorem t1_11f {go : Nat → St → Option ORes} (hgo : go = orun prog_67_method_1_code (Option.none : Option Jvm.ClassFile.FieldType) E1 0) {n cs ss : Nat} {L : List Slot} {S : List Value} {H : AH} {q : Option ORes → Prop} {x y : Int32} (hc : ¬ x < y) (h : Rsq (go n (14, L, S, H, cs, ss)) q) : Rsq (go (n + 1) (11, L, (.int y :: .int x :: S), H, cs, ss)) q := by
  subst hgo
  exact res_of s1_11 (res_f hc h)
theorem t1_14 {go : Nat → St → Option ORes} (hgo : go = orun prog_67_method_1_code (Option.none : Option Jvm.ClassFile.FieldType) E1 0) {n cs ss : Nat} {l0 l1 l2 : Slot} {S : List Value} {H : AH} {q : Option ORes → Prop} {v : Int32} (h : Rsq (go n (15, [l0, l1, l2, .val (.int v)], (.int v :: S), H, cs, ss)) q) : Rsq (go (n + 1) (14, [l0, l1, l2, .val (.int v)], S, H, cs, ss)) q := by
  subst hgo
  exact res_of s1_14 h
theorem t1_15t {go : Nat → St → Option ORes} (hgo : go = orun prog_67_method_1_code (Option.none : Option Jvm.ClassFile.FieldType) E1 0) {n cs ss : Nat} {L : List Slot} {S : List Value} {H : AH} {q : Option ORes → Prop} {x : Int32} (hc : x < 0) (h : Rsq (go n (18, L, S, H, cs, ss)) q) : Rsq (go (n + 1) (15, L, (.int x :: S), H, cs, ss)) q := by
  subst hgo
  exact res_of s1_15 (res_t hc h)
theorem t1_15f {go : Nat → St → Option ORes} (hgo : go = orun prog_67_method_1_code (Option.none : Option Jvm.ClassFile.FieldType) E1 0) {n cs ss : Nat} {L : List Slot} {S : List Value} {H : AH} {q : Option ORes → Prop} {x : Int32} (hc : ¬ x < 0) (h : Rsq (go n (28, L, S, H, cs, ss)) q) : Rsq (go (n + 1) (15, L, (.int x :: S), H, cs, ss)) q := by
  subst hgo
  exact res_of s1_15 (res_f hc h)
theorem u1_18 {go : Nat → St → Option ORes} (hgo : go = orun prog_67_method_1_code (Option.none : Option Jvm.ClassFile.FieldType) E1 0) {n cs ss : Nat} {L : List Slot} {S : List Value} {H : AH} : go (n + 1) (18, L, S, H, cs, ss) = ex (Option.none : Option Jvm.ClassFile.FieldType) E1 0 (go n) (.new 7) 18 L S H cs ss := by
  subst hgo
  exact s1_18
theorem t1_21 {go : Nat → St → Option ORes} (hgo : go = orun prog_67_method_1_code (Option.none : Option Jvm.ClassFile.FieldType) E1 0) {n cs ss : Nat} {L : List Slot} {S : List Value} {H : AH} {q : Option ORes → Prop} {v : Value} (hv : isS v = true) (h : Rsq (go n (22, L, (v :: v :: S), H, cs, ss)) q) : Rsq (go (n + 1) (21, L, (v :: S), H, cs, ss)) q := by
  subst hgo
  refine res_of s1_21 ?_
  rw [ex_dup, p1_isS hv]
  exact h
theorem u1_24 {go : Nat → St → Option ORes} (hgo : go = orun prog_67_method_1_code (Option.none : Option Jvm.ClassFile.FieldType) E1 0) {n cs ss : Nat} {L : List Slot} {S : List Value} {H : AH} : go (n + 1) (24, L, S, H, cs, ss) = ex (Option.none : Option Jvm.ClassFile.FieldType) E1 0 (go n) (.invokespecial 11) 24 L S H cs ss := by
  subst hgo
  exact s1_24
theorem t1_28 {go : Nat → St → Option ORes} (hgo : go = orun prog_67_method_1_code (Option.none : Option Jvm.ClassFile.FieldType) E1 0) {n cs ss : Nat} {l1 l2 l3 : Slot} {S : List Value} {H : AH} {q : Option ORes → Prop} {v : Value} (hv : isA v = true) (h : Rsq (go n (29, [.val v, l1, l2, l3], (v :: S), H, cs, ss)) q) : Rsq (go (n + 1) (28, [.val v, l1, l2, l3], S, H, cs, ss)) q := by
  subst hgo
  refine res_of s1_28 ?_
  rw [gA_isA (L := [.val v, l1, l2, l3]) (k := 0) (v := v) rfl hv]
  exact h
theorem t1_29 {go : Nat → St → Option ORes} (hgo : go = orun prog_67_method_1_code (Option.none : Option Jvm.ClassFile.FieldType) E1 0) {n cs ss : Nat} {l0 l2 l3 : Slot} {S : List Value} {H : AH} {q : Option ORes → Prop} {v : Int32} (h : Rsq (go n (30, [l0, .val (.int v), l2, l3], (.int v :: S), H, cs, ss)) q) : Rsq (go (n + 1) (29, [l0, .val (.int v), l2, l3], S, H, cs, ss)) q := by
  subst hgo
  exact res_of s1_29 h
theorem u1_30 {go : Nat → St → Option ORes} (hgo : go = orun prog_67_method_1_code (Option.none : Option Jvm.ClassFile.FieldType) E1 0) {n cs ss : Nat} {L : List Slot} {S : List Value} {H : AH} : go (n + 1) (30, L, S, H, cs, ss) = (aPut 0 0 0 .int S H cs ss).bind fun r => go n (33, L, r.1, r.2.1, r.2.2.1, r.2.2.2) := by
  subst hgo
  exact s1_30
theorem t1_33 {go : Nat → St → Option ORes} (hgo : go = orun prog_67_method_1_code (Option.none : Option Jvm.ClassFile.FieldType) E1 0) {n cs ss : Nat} {l1 l2 l3 : Slot} {S : List Value} {H : AH} {q : Option ORes → Prop} {v : Value} (hv : isA v = true) (h : Rsq (go n (34, [.val v, l1, l2, l3], (v :: S), H, cs, ss)) q) : Rsq (go (n + 1) (33, [.val v, l1, l2, l3], S, H, cs, ss)) q := by
  subst hgo
  refine res_of s1_33 ?_
  rw [gA_isA (L := [.val v, l1, l2, l3]) (k := 0) (v := v) rfl hv]
  exact h
theorem t1_34 {go : Nat → St → Option ORes} (hgo : go = orun prog_67_method_1_code (Option.none : Option Jvm.ClassFile.FieldType) E1 0) {n cs ss : Nat} {l0 l1 l3 : Slot} {S : List Value} {H : AH} {q : Option ORes → Prop} {v : Int32} (h : Rsq (go n (35, [l0, l1, .val (.int v), l3], (.int v :: S), H, cs, ss)) q) : Rsq (go (n + 1) (34, [l0, l1, .val (.int v), l3], S, H, cs, ss)) q := by
  subst hgo
  exact res_of s1_34 h
theorem u1_35 {go : Nat → St → Option ORes} (hgo : go = orun prog_67_method_1_code (Option.none : Option Jvm.ClassFile.FieldType) E1 0) {n cs ss : Nat} {L : List Slot} {S : List Value} {H : AH} : go (n + 1) (35, L, S, H, cs, ss) = (aPut 0 0 1 .int S H cs ss).bind fun r => go n (38, L, r.1, r.2.1, r.2.2.1, r.2.2.2) := by
  subst hgo
  exact s1_35
theorem t1_38 {go : Nat → St → Option ORes} (hgo : go = orun prog_67_method_1_code (Option.none : Option Jvm.ClassFile.FieldType) E1 0) {n cs ss : Nat} {l1 l2 l3 : Slot} {S : List Value} {H : AH} {q : Option ORes → Prop} {v : Value} (hv : isA v = true) (h : Rsq (go n (39, [.val v, l1, l2, l3], (v :: S), H, cs, ss)) q) : Rsq (go (n + 1) (38, [.val v, l1, l2, l3], S, H, cs, ss)) q := by
  subst hgo
  refine res_of s1_38 ?_
  rw [gA_isA (L := [.val v, l1, l2, l3]) (k := 0) (v := v) rfl hv]
  exact h
theorem t1_39 {go : Nat → St → Option ORes} (hgo : go = orun prog_67_method_1_code (Option.none : Option Jvm.ClassFile.FieldType) E1 0) {n cs ss : Nat} {l0 l1 l2 : Slot} {S : List Value} {H : AH} {q : Option ORes → Prop} {v : Int32} (h : Rsq (go n (40, [l0, l1, l2, .val (.int v)], (.int v :: S), H, cs, ss)) q) : Rsq (go (n + 1) (39, [l0, l1, l2, .val (.int v)], S, H, cs, ss)) q := by
  subst hgo
  exact res_of s1_39 h
theorem u1_40 {go : Nat → St → Option ORes} (hgo : go = orun prog_67_method_1_code (Option.none : Option Jvm.ClassFile.FieldType) E1 0) {n cs ss : Nat} {L : List Slot} {S : List Value} {H : AH} : go (n + 1) (40, L, S, H, cs, ss) = (aPut 0 0 2 .int S H cs ss).bind fun r => go n (43, L, r.1, r.2.1, r.2.2.1, r.2.2.2) := by
  subst hgo
  exact s1_40
theorem t1_43 {go : Nat → St → Option ORes} (hgo : go = orun prog_67_method_1_code (Option.none : Option Jvm.ClassFile.FieldType) E1 0) {n cs ss : Nat} {L : List Slot} {H : AH} {q : Option ORes → Prop} (h : q (some (none, H))) : Rsq (go (n + 1) (43, L, [], H, cs, ss)) q := by
  subst hgo
  exact res_of s1_43 h
theorem f3_in {x0 : Nat} {H : AH} : F3 [.ref x0] H = orun prog_67_method_2_code (Option.some Jvm.ClassFile.FieldType.boolean) E3 0 58 (0, [.val (.ref x0)], [], H, 0, 0) := rfl
theorem s3_0 {n cs ss : Nat} {L : List Slot} {S : List Value} {H : AH} : orun prog_67_method_2_code (Option.some Jvm.ClassFile.FieldType.boolean) E3 0 (n + 1) (0, L, S, H, cs, ss) = (gA L 0).bind fun v => orun prog_67_method_2_code (Option.some Jvm.ClassFile.FieldType.boolean) E3 0 n (1, L, v :: S, H, cs, ss) := s_any k3_0
theorem s3_1 {n cs ss : Nat} {L : List Slot} {S : List Value} {H : AH} : orun prog_67_method_2_code (Option.some Jvm.ClassFile.FieldType.boolean) E3 0 (n + 1) (1, L, S, H, cs, ss) = (aGet 0 0 S H cs ss).bind fun r => orun prog_67_method_2_code (Option.some Jvm.ClassFile.FieldType.boolean) E3 0 n (4, L, r.1, r.2.1, r.2.2.1, r.2.2.2) := s_any k3_1
theorem s3_4 {n cs ss : Nat} {L : List Slot} {S : List Value} {H : AH} : orun prog_67_method_2_code (Option.some Jvm.ClassFile.FieldType.boolean) E3 0 (n + 1) (4, L, S, H, cs, ss) = (gA L 0).bind fun v => orun prog_67_method_2_code (Option.some Jvm.ClassFile.FieldType.boolean) E3 0 n (5, L, v :: S, H, cs, ss) := s_any k3_4
theorem s3_5 {n cs ss : Nat} {L : List Slot} {S : List Value} {H : AH} : orun prog_67_method_2_code (Option.some Jvm.ClassFile.FieldType.boolean) E3 0 (n + 1) (5, L, S, H, cs, ss) = (aGet 0 1 S H cs ss).bind fun r => orun prog_67_method_2_code (Option.some Jvm.ClassFile.FieldType.boolean) E3 0 n (8, L, r.1, r.2.1, r.2.2.1, r.2.2.2) := s_any k3_5
theorem s3_8 {n cs ss : Nat} {L : List Slot} {S : List Value} {H : AH} : orun prog_67_method_2_code (Option.some Jvm.ClassFile.FieldType.boolean) E3 0 (n + 1) (8, L, S, H, cs, ss) = pI S fun y S => pI S fun x r => if x = y then orun prog_67_method_2_code (Option.some Jvm.ClassFile.FieldType.boolean) E3 0 n (11, L, r, H, cs, ss) else orun prog_67_method_2_code (Option.some Jvm.ClassFile.FieldType.boolean) E3 0 n (15, L, r, H, cs, ss) := s_icmpN (Q := fun x y => x = y) (fun _ _ => h_ne) k3_8 (by decide) (by decide)
theorem s3_11 {n cs ss : Nat} {L : List Slot} {S : List Value} {H : AH} : orun prog_67_method_2_code (Option.some Jvm.ClassFile.FieldType.boolean) E3 0 (n + 1) (11, L, S, H, cs, ss) = orun prog_67_method_2_code (Option.some Jvm.ClassFile.FieldType.boolean) E3 0 n (12, L, (.int 1 :: S), H, cs, ss) := s_any k3_11
theorem s3_12 {n cs ss : Nat} {L : List Slot} {S : List Value} {H : AH} : orun prog_67_method_2_code (Option.some Jvm.ClassFile.FieldType.boolean) E3 0 (n + 1) (12, L, S, H, cs, ss) = orun prog_67_method_2_code (Option.some Jvm.ClassFile.FieldType.boolean) E3 0 n (16, L, S, H, cs, ss) := s_goto k3_12 (by decide) (by decide)
theorem s3_15 {n cs ss : Nat} {L : List Slot} {S : List Value} {H : AH} : orun prog_67_method_2_code (Option.some Jvm.ClassFile.FieldType.boolean) E3 0 (n + 1) (15, L, S, H, cs, ss) = orun prog_67_method_2_code (Option.some Jvm.ClassFile.FieldType.boolean) E3 0 n (16, L, (.int 0 :: S), H, cs, ss) := s_any k3_15
theorem s3_16 {n cs ss : Nat} {L : List Slot} {S : List Value} {H : AH} : orun prog_67_method_2_code (Option.some Jvm.ClassFile.FieldType.boolean) E3 0 (n + 1) (16, L, S, H, cs, ss) = pI S fun z _ => some (some (.int (z &&& 1)), H) := s_any k3_16
theorem t3_0 {go : Nat → St → Option ORes} (hgo : go = orun prog_67_method_2_code (Option.some Jvm.ClassFile.FieldType.boolean) E3 0) {n cs ss : Nat} {S : List Value} {H : AH} {q : Option ORes → Prop} {v : Value} (hv : isA v = true) (h : Rsq (go n (1, [.val v], (v :: S), H, cs, ss)) q) : Rsq (go (n + 1) (0, [.val v], S, H, cs, ss)) q := by
  subst hgo
  refine res_of s3_0 ?_
  rw [gA_isA (L := [.val v]) (k := 0) (v := v) rfl hv]
  exact h
theorem u3_1 {go : Nat → St → Option ORes} (hgo : go = orun prog_67_method_2_code (Option.some Jvm.ClassFile.FieldType.boolean) E3 0) {n cs ss : Nat} {L : List Slot} {S : List Value} {H : AH} : go (n + 1) (1, L, S, H, cs, ss) = (aGet 0 0 S H cs ss).bind fun r => go n (4, L, r.1, r.2.1, r.2.2.1, r.2.2.2) := by
  subst hgo
  exact s3_1
theorem t3_4 {go : Nat → St → Option ORes} (hgo : go = orun prog_67_method_2_code (Option.some Jvm.ClassFile.FieldType.boolean) E3 0) {n cs ss : Nat} {S : List Value} {H : AH} {q : Option ORes → Prop} {v : Value} (hv : isA v = true) (h : Rsq (go n (5, [.val v], (v :: S), H, cs, ss)) q) : Rsq (go (n + 1) (4, [.val v], S, H, cs, ss)) q := by
  subst hgo
  refine res_of s3_4 ?_
  rw [gA_isA (L := [.val v]) (k := 0) (v := v) rfl hv]
  exact h
theorem u3_5 {go : Nat → St → Option ORes} (hgo : go = orun prog_67_method_2_code (Option.some Jvm.ClassFile.FieldType.boolean) E3 0) {n cs ss : Nat} {L : List Slot} {S : List Value} {H : AH} : go (n + 1) (5, L, S, H, cs, ss) = (aGet 0 1 S H cs ss).bind fun r => go n (8, L, r.1, r.2.1, r.2.2.1, r.2.2.2) := by
  subst hgo
  exact s3_5
theorem t3_8t {go : Nat → St → Option ORes} (hgo : go = orun prog_67_method_2_code (Option.some Jvm.ClassFile.FieldType.boolean) E3 0) {n cs ss : Nat} {L : List Slot} {S : List Value} {H : AH} {q : Option ORes → Prop} {x y : Int32} (hc : x = y) (h : Rsq (go n (11, L, S, H, cs, ss)) q) : Rsq (go (n + 1) (8, L, (.int y :: .int x :: S), H, cs, ss)) q := by
  subst hgo
  exact res_of s3_8 (res_t hc h)
theorem t3_8f {go : Nat → St → Option ORes} (hgo : go = orun prog_67_method_2_code (Option.some Jvm.ClassFile.FieldType.boolean) E3 0) {n cs ss : Nat} {L : List Slot} {S : List Value} {H : AH} {q : Option ORes → Prop} {x y : Int32} (hc : ¬ x = y) (h : Rsq (go n (15, L, S, H, cs, ss)) q) : Rsq (go (n + 1) (8, L, (.int y :: .int x :: S), H, cs, ss)) q := by
  subst hgo
  exact res_of s3_8 (res_f hc h)
theorem t3_11 {go : Nat → St → Option ORes} (hgo : go = orun prog_67_method_2_code (Option.some Jvm.ClassFile.FieldType.boolean) E3 0) {n cs ss : Nat} {L : List Slot} {S : List Value} {H : AH} {q : Option ORes → Prop} (h : Rsq (go n (12, L, (.int 1 :: S), H, cs, ss)) q) : Rsq (go (n + 1) (11, L, S, H, cs, ss)) q := by
  subst hgo
  exact res_of s3_11 h
theorem t3_12 {go : Nat → St → Option ORes} (hgo : go = orun prog_67_method_2_code (Option.some Jvm.ClassFile.FieldType.boolean) E3 0) {n cs ss : Nat} {L : List Slot} {S : List Value} {H : AH} {q : Option ORes → Prop} (h : Rsq (go n (16, L, S, H, cs, ss)) q) : Rsq (go (n + 1) (12, L, S, H, cs, ss)) q := by
  subst hgo
  exact res_of s3_12 h
theorem t3_15 {go : Nat → St → Option ORes} (hgo : go = orun prog_67_method_2_code (Option.some Jvm.ClassFile.FieldType.boolean) E3 0) {n cs ss : Nat} {L : List Slot} {S : List Value} {H : AH} {q : Option ORes → Prop} (h : Rsq (go n (16, L, (.int 0 :: S), H, cs, ss)) q) : Rsq (go (n + 1) (15, L, S, H, cs, ss)) q := by
  subst hgo
  exact res_of s3_15 h
theorem t3_16 {go : Nat → St → Option ORes} (hgo : go = orun prog_67_method_2_code (Option.some Jvm.ClassFile.FieldType.boolean) E3 0) {n cs ss : Nat} {L : List Slot} {S : List Value} {H : AH} {q : Option ORes → Prop} {z : Int32} (h : q (some (some (.int (z &&& 1)), H))) : Rsq (go (n + 1) (16, L, (.int z :: S), H, cs, ss)) q := by
  subst hgo
  exact res_of s3_16 h
theorem f0_in {x0 : Int32} {x1 : Int32} {x2 : Int32} {x3 : Int32} {H : AH} : F0 [.int x0, .int x1, .int x2, .int x3] H = orun code ret E0 0 150 (0, [.val (.int x0), .val (.int x1), .val (.int x2), .val (.int x3), .unset, .unset, .unset, .unset, .unset, .unset, .unset], [], H, 0, 0) := rfl
theorem s0_0 {n cs ss : Nat} {L : List Slot} {S : List Value} {H : AH} : orun code ret E0 0 (n + 1) (0, L, S, H, cs, ss) = orun code ret E0 0 n (1, L, (.int 1 :: S), H, cs, ss) := s_any k0_0
theorem s0_1 {n cs ss : Nat} {L : List Slot} {S : List Value} {H : AH} : orun code ret E0 0 (n + 1) (1, L, S, H, cs, ss) = (gI L 0).bind fun v => orun code ret E0 0 n (2, L, .int v :: S, H, cs, ss) := s_any k0_1
theorem s0_2 {n cs ss : Nat} {L : List Slot} {S : List Value} {H : AH} : orun code ret E0 0 (n + 1) (2, L, S, H, cs, ss) = (aI (2147483647) S H cs ss).bind fun r => orun code ret E0 0 n (4, L, r.1, r.2.1, r.2.2.1, r.2.2.2) := s_any k0_2
theorem s0_4 {n cs ss : Nat} {L : List Slot} {S : List Value} {H : AH} : orun code ret E0 0 (n + 1) (4, L, S, H, cs, ss) = pI S fun y S => pI S fun x r => orun code ret E0 0 n (5, L, .int (x &&& y) :: r, H, cs, ss) := s_any k0_4
theorem s0_5 {n cs ss : Nat} {L : List Slot} {S : List Value} {H : AH} : orun code ret E0 0 (n + 1) (5, L, S, H, cs, ss) = (aI (2147483647) S H cs ss).bind fun r => orun code ret E0 0 n (7, L, r.1, r.2.1, r.2.2.1, r.2.2.2) := s_any k0_5
theorem s0_7 {n cs ss : Nat} {L : List Slot} {S : List Value} {H : AH} : orun code ret E0 0 (n + 1) (7, L, S, H, cs, ss) = ex ret E0 0 (orun code ret E0 0 n) (.irem) 7 L S H cs ss := s_any k0_7
theorem s0_8 {n cs ss : Nat} {L : List Slot} {S : List Value} {H : AH} : orun code ret E0 0 (n + 1) (8, L, S, H, cs, ss) = pI S fun y S => pI S fun x r => orun code ret E0 0 n (9, L, .int (x + y) :: r, H, cs, ss) := s_any k0_8
theorem s0_9 {n cs ss : Nat} {L : List Slot} {S : List Value} {H : AH} : orun code ret E0 0 (n + 1) (9, L, S, H, cs, ss) = pI S fun x r => (st1 L 4 (.int x)).bind fun L' => orun code ret E0 0 n (11, L', r, H, cs, ss) := s_any k0_9
theorem s0_11 {n cs ss : Nat} {L : List Slot} {S : List Value} {H : AH} : orun code ret E0 0 (n + 1) (11, L, S, H, cs, ss) = (aI (2147483647) S H cs ss).bind fun r => orun code ret E0 0 n (13, L, r.1, r.2.1, r.2.2.1, r.2.2.2) := s_any k0_11
theorem s0_13 {n cs ss : Nat} {L : List Slot} {S : List Value} {H : AH} : orun code ret E0 0 (n + 1) (13, L, S, H, cs, ss) = (gI L 4).bind fun v => orun code ret E0 0 n (15, L, .int v :: S, H, cs, ss) := s_any k0_13
theorem s0_15 {n cs ss : Nat} {L : List Slot} {S : List Value} {H : AH} : orun code ret E0 0 (n + 1) (15, L, S, H, cs, ss) = pI S fun y S => pI S fun x r => orun code ret E0 0 n (16, L, .int (x - y) :: r, H, cs, ss) := s_any k0_15
theorem s0_16 {n cs ss : Nat} {L : List Slot} {S : List Value} {H : AH} : orun code ret E0 0 (n + 1) (16, L, S, H, cs, ss) = orun code ret E0 0 n (17, L, (.int 1 :: S), H, cs, ss) := s_any k0_16
theorem s0_17 {n cs ss : Nat} {L : List Slot} {S : List Value} {H : AH} : orun code ret E0 0 (n + 1) (17, L, S, H, cs, ss) = pI S fun y S => pI S fun x r => orun code ret E0 0 n (18, L, .int (x + y) :: r, H, cs, ss) := s_any k0_17
theorem s0_18 {n cs ss : Nat} {L : List Slot} {S : List Value} {H : AH} : orun code ret E0 0 (n + 1) (18, L, S, H, cs, ss) = pI S fun x r => (st1 L 5 (.int x)).bind fun L' => orun code ret E0 0 n (20, L', r, H, cs, ss) := s_any k0_18
theorem s0_20 {n cs ss : Nat} {L : List Slot} {S : List Value} {H : AH} : orun code ret E0 0 (n + 1) (20, L, S, H, cs, ss) = (gI L 1).bind fun v => orun code ret E0 0 n (21, L, .int v :: S, H, cs, ss) := s_any k0_20
theorem s0_21 {n cs ss : Nat} {L : List Slot} {S : List Value} {H : AH} : orun code ret E0 0 (n + 1) (21, L, S, H, cs, ss) = (aI (2147483647) S H cs ss).bind fun r => orun code ret E0 0 n (23, L, r.1, r.2.1, r.2.2.1, r.2.2.2) := s_any k0_21
theorem s0_23 {n cs ss : Nat} {L : List Slot} {S : List Value} {H : AH} : orun code ret E0 0 (n + 1) (23, L, S, H, cs, ss) = pI S fun y S => pI S fun x r => orun code ret E0 0 n (24, L, .int (x &&& y) :: r, H, cs, ss) := s_any k0_23
theorem s0_24 {n cs ss : Nat} {L : List Slot} {S : List Value} {H : AH} : orun code ret E0 0 (n + 1) (24, L, S, H, cs, ss) = (gI L 5).bind fun v => orun code ret E0 0 n (26, L, .int v :: S, H, cs, ss) := s_any k0_24
theorem s0_26 {n cs ss : Nat} {L : List Slot} {S : List Value} {H : AH} : orun code ret E0 0 (n + 1) (26, L, S, H, cs, ss) = ex ret E0 0 (orun code ret E0 0 n) (.irem) 26 L S H cs ss := s_any k0_26
theorem s0_27 {n cs ss : Nat} {L : List Slot} {S : List Value} {H : AH} : orun code ret E0 0 (n + 1) (27, L, S, H, cs, ss) = pI S fun x r => (st1 L 6 (.int x)).bind fun L' => orun code ret E0 0 n (29, L', r, H, cs, ss) := s_any k0_27
theorem s0_29 {n cs ss : Nat} {L : List Slot} {S : List Value} {H : AH} : orun code ret E0 0 (n + 1) (29, L, S, H, cs, ss) = (gI L 3).bind fun v => orun code ret E0 0 n (30, L, .int v :: S, H, cs, ss) := s_any k0_29
theorem s0_30 {n cs ss : Nat} {L : List Slot} {S : List Value} {H : AH} : orun code ret E0 0 (n + 1) (30, L, S, H, cs, ss) = orun code ret E0 0 n (31, L, (.int 1 :: S), H, cs, ss) := s_any k0_30
theorem s0_31 {n cs ss : Nat} {L : List Slot} {S : List Value} {H : AH} : orun code ret E0 0 (n + 1) (31, L, S, H, cs, ss) = pI S fun y S => pI S fun x r => orun code ret E0 0 n (32, L, .int (x &&& y) :: r, H, cs, ss) := s_any k0_31
theorem s0_32 {n cs ss : Nat} {L : List Slot} {S : List Value} {H : AH} : orun code ret E0 0 (n + 1) (32, L, S, H, cs, ss) = pI S fun x r => if x = 0 then orun code ret E0 0 n (38, L, r, H, cs, ss) else orun code ret E0 0 n (35, L, r, H, cs, ss) := s_if (Q := fun x => x = 0) (fun _ => z_eq) k0_32 (by decide) (by decide)
theorem s0_35 {n cs ss : Nat} {L : List Slot} {S : List Value} {H : AH} : orun code ret E0 0 (n + 1) (35, L, S, H, cs, ss) = orun code ret E0 0 n (36, L, (.int 0 :: S), H, cs, ss) := s_any k0_35
theorem s0_36 {n cs ss : Nat} {L : List Slot} {S : List Value} {H : AH} : orun code ret E0 0 (n + 1) (36, L, S, H, cs, ss) = pI S fun x r => (st1 L 6 (.int x)).bind fun L' => orun code ret E0 0 n (38, L', r, H, cs, ss) := s_any k0_36
theorem s0_38 {n cs ss : Nat} {L : List Slot} {S : List Value} {H : AH} : orun code ret E0 0 (n + 1) (38, L, S, H, cs, ss) = (gI L 4).bind fun v => orun code ret E0 0 n (40, L, .int v :: S, H, cs, ss) := s_any k0_38
theorem s0_40 {n cs ss : Nat} {L : List Slot} {S : List Value} {H : AH} : orun code ret E0 0 (n + 1) (40, L, S, H, cs, ss) = (gI L 6).bind fun v => orun code ret E0 0 n (42, L, .int v :: S, H, cs, ss) := s_any k0_40
theorem s0_42 {n cs ss : Nat} {L : List Slot} {S : List Value} {H : AH} : orun code ret E0 0 (n + 1) (42, L, S, H, cs, ss) = pI S fun y S => pI S fun x r => orun code ret E0 0 n (43, L, .int (x + y) :: r, H, cs, ss) := s_any k0_42
theorem s0_43 {n cs ss : Nat} {L : List Slot} {S : List Value} {H : AH} : orun code ret E0 0 (n + 1) (43, L, S, H, cs, ss) = pI S fun x r => (st1 L 7 (.int x)).bind fun L' => orun code ret E0 0 n (45, L', r, H, cs, ss) := s_any k0_43
theorem s0_45 {n cs ss : Nat} {L : List Slot} {S : List Value} {H : AH} : orun code ret E0 0 (n + 1) (45, L, S, H, cs, ss) = (gI L 2).bind fun v => orun code ret E0 0 n (46, L, .int v :: S, H, cs, ss) := s_any k0_45
theorem s0_46 {n cs ss : Nat} {L : List Slot} {S : List Value} {H : AH} : orun code ret E0 0 (n + 1) (46, L, S, H, cs, ss) = (aI (2147483647) S H cs ss).bind fun r => orun code ret E0 0 n (48, L, r.1, r.2.1, r.2.2.1, r.2.2.2) := s_any k0_46
theorem s0_48 {n cs ss : Nat} {L : List Slot} {S : List Value} {H : AH} : orun code ret E0 0 (n + 1) (48, L, S, H, cs, ss) = pI S fun y S => pI S fun x r => orun code ret E0 0 n (49, L, .int (x &&& y) :: r, H, cs, ss) := s_any k0_48
theorem s0_49 {n cs ss : Nat} {L : List Slot} {S : List Value} {H : AH} : orun code ret E0 0 (n + 1) (49, L, S, H, cs, ss) = pI S fun x r => (st1 L 8 (.int x)).bind fun L' => orun code ret E0 0 n (51, L', r, H, cs, ss) := s_any k0_49
theorem s0_51 {n cs ss : Nat} {L : List Slot} {S : List Value} {H : AH} : orun code ret E0 0 (n + 1) (51, L, S, H, cs, ss) = (aNew 0 3 16 128 [(.int 0), (.int 0), (.int 0)] S H cs ss).bind fun r => orun code ret E0 0 n (54, L, r.1, r.2.1, r.2.2.1, r.2.2.2) := s_any k0_51
theorem s0_54 {n cs ss : Nat} {L : List Slot} {S : List Value} {H : AH} : orun code ret E0 0 (n + 1) (54, L, S, H, cs, ss) = ex ret E0 0 (orun code ret E0 0 n) (.dup) 54 L S H cs ss := s_any k0_54
theorem s0_55 {n cs ss : Nat} {L : List Slot} {S : List Value} {H : AH} : orun code ret E0 0 (n + 1) (55, L, S, H, cs, ss) = (gI L 4).bind fun v => orun code ret E0 0 n (57, L, .int v :: S, H, cs, ss) := s_any k0_55
theorem s0_57 {n cs ss : Nat} {L : List Slot} {S : List Value} {H : AH} : orun code ret E0 0 (n + 1) (57, L, S, H, cs, ss) = (gI L 7).bind fun v => orun code ret E0 0 n (59, L, .int v :: S, H, cs, ss) := s_any k0_57
theorem s0_59 {n cs ss : Nat} {L : List Slot} {S : List Value} {H : AH} : orun code ret E0 0 (n + 1) (59, L, S, H, cs, ss) = (gI L 8).bind fun v => orun code ret E0 0 n (61, L, .int v :: S, H, cs, ss) := s_any k0_59
theorem s0_61 {n cs ss : Nat} {L : List Slot} {S : List Value} {H : AH} : orun code ret E0 0 (n + 1) (61, L, S, H, cs, ss) = (aRecv 3 0 6 16 128 0 0 F1 S H cs ss).bind fun r => orun code ret E0 0 n (64, L, r.1, r.2.1, r.2.2.1, r.2.2.2) := s_any k0_61
theorem s0_64 {n cs ss : Nat} {L : List Slot} {S : List Value} {H : AH} : orun code ret E0 0 (n + 1) (64, L, S, H, cs, ss) = pA S fun x r => (st1 L 9 x).bind fun L' => orun code ret E0 0 n (66, L', r, H, cs, ss) := s_any k0_64
theorem s0_66 {n cs ss : Nat} {L : List Slot} {S : List Value} {H : AH} : orun code ret E0 0 (n + 1) (66, L, S, H, cs, ss) = (gI L 6).bind fun v => orun code ret E0 0 n (68, L, .int v :: S, H, cs, ss) := s_any k0_66
theorem s0_68 {n cs ss : Nat} {L : List Slot} {S : List Value} {H : AH} : orun code ret E0 0 (n + 1) (68, L, S, H, cs, ss) = pI S fun x r => if x = 0 then orun code ret E0 0 n (71, L, r, H, cs, ss) else orun code ret E0 0 n (75, L, r, H, cs, ss) := s_ifN (Q := fun x => x = 0) (fun _ => z_ne) k0_68 (by decide) (by decide)
theorem s0_71 {n cs ss : Nat} {L : List Slot} {S : List Value} {H : AH} : orun code ret E0 0 (n + 1) (71, L, S, H, cs, ss) = orun code ret E0 0 n (72, L, (.int 1 :: S), H, cs, ss) := s_any k0_71
theorem s0_72 {n cs ss : Nat} {L : List Slot} {S : List Value} {H : AH} : orun code ret E0 0 (n + 1) (72, L, S, H, cs, ss) = orun code ret E0 0 n (76, L, S, H, cs, ss) := s_goto k0_72 (by decide) (by decide)
theorem s0_75 {n cs ss : Nat} {L : List Slot} {S : List Value} {H : AH} : orun code ret E0 0 (n + 1) (75, L, S, H, cs, ss) = orun code ret E0 0 n (76, L, (.int 0 :: S), H, cs, ss) := s_any k0_75
theorem s0_76 {n cs ss : Nat} {L : List Slot} {S : List Value} {H : AH} : orun code ret E0 0 (n + 1) (76, L, S, H, cs, ss) = pI S fun x r => (st1 L 10 (.int x)).bind fun L' => orun code ret E0 0 n (78, L', r, H, cs, ss) := s_any k0_76
theorem s0_78 {n cs ss : Nat} {L : List Slot} {S : List Value} {H : AH} : orun code ret E0 0 (n + 1) (78, L, S, H, cs, ss) = (gA L 9).bind fun v => orun code ret E0 0 n (80, L, v :: S, H, cs, ss) := s_any k0_78
theorem s0_80 {n cs ss : Nat} {L : List Slot} {S : List Value} {H : AH} : orun code ret E0 0 (n + 1) (80, L, S, H, cs, ss) = (aRecv 0 0 6 16 128 0 0 F3 S H cs ss).bind fun r => orun code ret E0 0 n (83, L, r.1, r.2.1, r.2.2.1, r.2.2.2) := s_any k0_80
theorem s0_83 {n cs ss : Nat} {L : List Slot} {S : List Value} {H : AH} : orun code ret E0 0 (n + 1) (83, L, S, H, cs, ss) = (gI L 10).bind fun v => orun code ret E0 0 n (85, L, .int v :: S, H, cs, ss) := s_any k0_83
theorem s0_85 {n cs ss : Nat} {L : List Slot} {S : List Value} {H : AH} : orun code ret E0 0 (n + 1) (85, L, S, H, cs, ss) = pI S fun y S => pI S fun x r => if x = y then orun code ret E0 0 n (88, L, r, H, cs, ss) else orun code ret E0 0 n (92, L, r, H, cs, ss) := s_icmpN (Q := fun x y => x = y) (fun _ _ => h_ne) k0_85 (by decide) (by decide)
theorem s0_88 {n cs ss : Nat} {L : List Slot} {S : List Value} {H : AH} : orun code ret E0 0 (n + 1) (88, L, S, H, cs, ss) = orun code ret E0 0 n (89, L, (.int 1 :: S), H, cs, ss) := s_any k0_88
theorem s0_89 {n cs ss : Nat} {L : List Slot} {S : List Value} {H : AH} : orun code ret E0 0 (n + 1) (89, L, S, H, cs, ss) = orun code ret E0 0 n (93, L, S, H, cs, ss) := s_goto k0_89 (by decide) (by decide)
theorem s0_92 {n cs ss : Nat} {L : List Slot} {S : List Value} {H : AH} : orun code ret E0 0 (n + 1) (92, L, S, H, cs, ss) = orun code ret E0 0 n (93, L, (.int 0 :: S), H, cs, ss) := s_any k0_92
theorem s0_93 {n cs ss : Nat} {L : List Slot} {S : List Value} {H : AH} : orun code ret E0 0 (n + 1) (93, L, S, H, cs, ss) = pI S fun z _ => some (some (.int (z &&& 1)), H) := s_any k0_93
theorem t0_0 {go : Nat → St → Option ORes} (hgo : go = orun code ret E0 0) {n cs ss : Nat} {L : List Slot} {S : List Value} {H : AH} {q : Option ORes → Prop} (h : Rsq (go n (1, L, (.int 1 :: S), H, cs, ss)) q) : Rsq (go (n + 1) (0, L, S, H, cs, ss)) q := by
  subst hgo
  exact res_of s0_0 h
theorem t0_1 {go : Nat → St → Option ORes} (hgo : go = orun code ret E0 0) {n cs ss : Nat} {l1 l2 l3 l4 l5 l6 l7 l8 l9 l10 : Slot} {S : List Value} {H : AH} {q : Option ORes → Prop} {v : Int32} (h : Rsq (go n (2, [.val (.int v), l1, l2, l3, l4, l5, l6, l7, l8, l9, l10], (.int v :: S), H, cs, ss)) q) : Rsq (go (n + 1) (1, [.val (.int v), l1, l2, l3, l4, l5, l6, l7, l8, l9, l10], S, H, cs, ss)) q := by
  subst hgo
  exact res_of s0_1 h
theorem t0_2 {go : Nat → St → Option ORes} (hgo : go = orun code ret E0 0) {n cs ss : Nat} {L : List Slot} {S : List Value} {H : AH} {q : Option ORes → Prop} (h : Rsq (go n (4, L, (.int (2147483647) :: S), H, cs, ss)) q) : Rsq (go (n + 1) (2, L, S, H, cs, ss)) q := by
  subst hgo
  exact res_of s0_2 h
theorem t0_4 {go : Nat → St → Option ORes} (hgo : go = orun code ret E0 0) {n cs ss : Nat} {L : List Slot} {S : List Value} {H : AH} {q : Option ORes → Prop} {x y : Int32} (h : Rsq (go n (5, L, (.int (x &&& y) :: S), H, cs, ss)) q) : Rsq (go (n + 1) (4, L, (.int y :: .int x :: S), H, cs, ss)) q := by
  subst hgo
  exact res_of s0_4 h
theorem t0_5 {go : Nat → St → Option ORes} (hgo : go = orun code ret E0 0) {n cs ss : Nat} {L : List Slot} {S : List Value} {H : AH} {q : Option ORes → Prop} (h : Rsq (go n (7, L, (.int (2147483647) :: S), H, cs, ss)) q) : Rsq (go (n + 1) (5, L, S, H, cs, ss)) q := by
  subst hgo
  exact res_of s0_5 h
theorem t0_7 {go : Nat → St → Option ORes} (hgo : go = orun code ret E0 0) {n cs ss : Nat} {L : List Slot} {S : List Value} {H : AH} {q : Option ORes → Prop} {x y : Int32} (hz : ¬ y = 0) (h : Rsq (go n (8, L, (.int (x % y) :: S), H, cs, ss)) q) : Rsq (go (n + 1) (7, L, (.int y :: .int x :: S), H, cs, ss)) q := by
  subst hgo
  exact res_of s0_7 (res_f hz h)
theorem t0_8 {go : Nat → St → Option ORes} (hgo : go = orun code ret E0 0) {n cs ss : Nat} {L : List Slot} {S : List Value} {H : AH} {q : Option ORes → Prop} {x y : Int32} (h : Rsq (go n (9, L, (.int (x + y) :: S), H, cs, ss)) q) : Rsq (go (n + 1) (8, L, (.int y :: .int x :: S), H, cs, ss)) q := by
  subst hgo
  exact res_of s0_8 h
theorem t0_9 {go : Nat → St → Option ORes} (hgo : go = orun code ret E0 0) {n cs ss : Nat} {l0 l1 l2 l3 l4 l5 l6 l7 l8 l9 l10 : Slot} {S : List Value} {H : AH} {q : Option ORes → Prop} {x : Int32} (hk : so l4 = true) (h : Rsq (go n (11, [l0, l1, l2, l3, .val (.int x), l5, l6, l7, l8, l9, l10], S, H, cs, ss)) q) : Rsq (go (n + 1) (9, [l0, l1, l2, l3, l4, l5, l6, l7, l8, l9, l10], (.int x :: S), H, cs, ss)) q := by
  subst hgo
  refine res_of s0_9 ?_
  rw [pI_int, st1_so (L := [l0, l1, l2, l3, l4, l5, l6, l7, l8, l9, l10]) (k := 4) (l := l4) rfl hk]
  exact h
theorem t0_11 {go : Nat → St → Option ORes} (hgo : go = orun code ret E0 0) {n cs ss : Nat} {L : List Slot} {S : List Value} {H : AH} {q : Option ORes → Prop} (h : Rsq (go n (13, L, (.int (2147483647) :: S), H, cs, ss)) q) : Rsq (go (n + 1) (11, L, S, H, cs, ss)) q := by
  subst hgo
  exact res_of s0_11 h
theorem t0_13 {go : Nat → St → Option ORes} (hgo : go = orun code ret E0 0) {n cs ss : Nat} {l0 l1 l2 l3 l5 l6 l7 l8 l9 l10 : Slot} {S : List Value} {H : AH} {q : Option ORes → Prop} {v : Int32} (h : Rsq (go n (15, [l0, l1, l2, l3, .val (.int v), l5, l6, l7, l8, l9, l10], (.int v :: S), H, cs, ss)) q) : Rsq (go (n + 1) (13, [l0, l1, l2, l3, .val (.int v), l5, l6, l7, l8, l9, l10], S, H, cs, ss)) q := by
  subst hgo
  exact res_of s0_13 h
theorem t0_15 {go : Nat → St → Option ORes} (hgo : go = orun code ret E0 0) {n cs ss : Nat} {L : List Slot} {S : List Value} {H : AH} {q : Option ORes → Prop} {x y : Int32} (h : Rsq (go n (16, L, (.int (x - y) :: S), H, cs, ss)) q) : Rsq (go (n + 1) (15, L, (.int y :: .int x :: S), H, cs, ss)) q := by
  subst hgo
  exact res_of s0_15 h
theorem t0_16 {go : Nat → St → Option ORes} (hgo : go = orun code ret E0 0) {n cs ss : Nat} {L : List Slot} {S : List Value} {H : AH} {q : Option ORes → Prop} (h : Rsq (go n (17, L, (.int 1 :: S), H, cs, ss)) q) : Rsq (go (n + 1) (16, L, S, H, cs, ss)) q := by
  subst hgo
  exact res_of s0_16 h
theorem t0_17 {go : Nat → St → Option ORes} (hgo : go = orun code ret E0 0) {n cs ss : Nat} {L : List Slot} {S : List Value} {H : AH} {q : Option ORes → Prop} {x y : Int32} (h : Rsq (go n (18, L, (.int (x + y) :: S), H, cs, ss)) q) : Rsq (go (n + 1) (17, L, (.int y :: .int x :: S), H, cs, ss)) q := by
  subst hgo
  exact res_of s0_17 h
theorem t0_18 {go : Nat → St → Option ORes} (hgo : go = orun code ret E0 0) {n cs ss : Nat} {l0 l1 l2 l3 l4 l5 l6 l7 l8 l9 l10 : Slot} {S : List Value} {H : AH} {q : Option ORes → Prop} {x : Int32} (hk : so l5 = true) (h : Rsq (go n (20, [l0, l1, l2, l3, l4, .val (.int x), l6, l7, l8, l9, l10], S, H, cs, ss)) q) : Rsq (go (n + 1) (18, [l0, l1, l2, l3, l4, l5, l6, l7, l8, l9, l10], (.int x :: S), H, cs, ss)) q := by
  subst hgo
  refine res_of s0_18 ?_
  rw [pI_int, st1_so (L := [l0, l1, l2, l3, l4, l5, l6, l7, l8, l9, l10]) (k := 5) (l := l5) rfl hk]
  exact h
theorem t0_20 {go : Nat → St → Option ORes} (hgo : go = orun code ret E0 0) {n cs ss : Nat} {l0 l2 l3 l4 l5 l6 l7 l8 l9 l10 : Slot} {S : List Value} {H : AH} {q : Option ORes → Prop} {v : Int32} (h : Rsq (go n (21, [l0, .val (.int v), l2, l3, l4, l5, l6, l7, l8, l9, l10], (.int v :: S), H, cs, ss)) q) : Rsq (go (n + 1) (20, [l0, .val (.int v), l2, l3, l4, l5, l6, l7, l8, l9, l10], S, H, cs, ss)) q := by
  subst hgo
  exact res_of s0_20 h
theorem t0_21 {go : Nat → St → Option ORes} (hgo : go = orun code ret E0 0) {n cs ss : Nat} {L : List Slot} {S : List Value} {H : AH} {q : Option ORes → Prop} (h : Rsq (go n (23, L, (.int (2147483647) :: S), H, cs, ss)) q) : Rsq (go (n + 1) (21, L, S, H, cs, ss)) q := by
  subst hgo
  exact res_of s0_21 h
theorem t0_23 {go : Nat → St → Option ORes} (hgo : go = orun code ret E0 0) {n cs ss : Nat} {L : List Slot} {S : List Value} {H : AH} {q : Option ORes → Prop} {x y : Int32} (h : Rsq (go n (24, L, (.int (x &&& y) :: S), H, cs, ss)) q) : Rsq (go (n + 1) (23, L, (.int y :: .int x :: S), H, cs, ss)) q := by
  subst hgo
  exact res_of s0_23 h
theorem t0_24 {go : Nat → St → Option ORes} (hgo : go = orun code ret E0 0) {n cs ss : Nat} {l0 l1 l2 l3 l4 l6 l7 l8 l9 l10 : Slot} {S : List Value} {H : AH} {q : Option ORes → Prop} {v : Int32} (h : Rsq (go n (26, [l0, l1, l2, l3, l4, .val (.int v), l6, l7, l8, l9, l10], (.int v :: S), H, cs, ss)) q) : Rsq (go (n + 1) (24, [l0, l1, l2, l3, l4, .val (.int v), l6, l7, l8, l9, l10], S, H, cs, ss)) q := by
  subst hgo
  exact res_of s0_24 h
theorem t0_26 {go : Nat → St → Option ORes} (hgo : go = orun code ret E0 0) {n cs ss : Nat} {L : List Slot} {S : List Value} {H : AH} {q : Option ORes → Prop} {x y : Int32} (hz : ¬ y = 0) (h : Rsq (go n (27, L, (.int (x % y) :: S), H, cs, ss)) q) : Rsq (go (n + 1) (26, L, (.int y :: .int x :: S), H, cs, ss)) q := by
  subst hgo
  exact res_of s0_26 (res_f hz h)
theorem t0_27 {go : Nat → St → Option ORes} (hgo : go = orun code ret E0 0) {n cs ss : Nat} {l0 l1 l2 l3 l4 l5 l6 l7 l8 l9 l10 : Slot} {S : List Value} {H : AH} {q : Option ORes → Prop} {x : Int32} (hk : so l6 = true) (h : Rsq (go n (29, [l0, l1, l2, l3, l4, l5, .val (.int x), l7, l8, l9, l10], S, H, cs, ss)) q) : Rsq (go (n + 1) (27, [l0, l1, l2, l3, l4, l5, l6, l7, l8, l9, l10], (.int x :: S), H, cs, ss)) q := by
  subst hgo
  refine res_of s0_27 ?_
  rw [pI_int, st1_so (L := [l0, l1, l2, l3, l4, l5, l6, l7, l8, l9, l10]) (k := 6) (l := l6) rfl hk]
  exact h
theorem t0_29 {go : Nat → St → Option ORes} (hgo : go = orun code ret E0 0) {n cs ss : Nat} {l0 l1 l2 l4 l5 l6 l7 l8 l9 l10 : Slot} {S : List Value} {H : AH} {q : Option ORes → Prop} {v : Int32} (h : Rsq (go n (30, [l0, l1, l2, .val (.int v), l4, l5, l6, l7, l8, l9, l10], (.int v :: S), H, cs, ss)) q) : Rsq (go (n + 1) (29, [l0, l1, l2, .val (.int v), l4, l5, l6, l7, l8, l9, l10], S, H, cs, ss)) q := by
  subst hgo
  exact res_of s0_29 h
theorem t0_30 {go : Nat → St → Option ORes} (hgo : go = orun code ret E0 0) {n cs ss : Nat} {L : List Slot} {S : List Value} {H : AH} {q : Option ORes → Prop} (h : Rsq (go n (31, L, (.int 1 :: S), H, cs, ss)) q) : Rsq (go (n + 1) (30, L, S, H, cs, ss)) q := by
  subst hgo
  exact res_of s0_30 h
theorem t0_31 {go : Nat → St → Option ORes} (hgo : go = orun code ret E0 0) {n cs ss : Nat} {L : List Slot} {S : List Value} {H : AH} {q : Option ORes → Prop} {x y : Int32} (h : Rsq (go n (32, L, (.int (x &&& y) :: S), H, cs, ss)) q) : Rsq (go (n + 1) (31, L, (.int y :: .int x :: S), H, cs, ss)) q := by
  subst hgo
  exact res_of s0_31 h
theorem t0_32t {go : Nat → St → Option ORes} (hgo : go = orun code ret E0 0) {n cs ss : Nat} {L : List Slot} {S : List Value} {H : AH} {q : Option ORes → Prop} {x : Int32} (hc : x = 0) (h : Rsq (go n (38, L, S, H, cs, ss)) q) : Rsq (go (n + 1) (32, L, (.int x :: S), H, cs, ss)) q := by
  subst hgo
  exact res_of s0_32 (res_t hc h)
theorem t0_32f {go : Nat → St → Option ORes} (hgo : go = orun code ret E0 0) {n cs ss : Nat} {L : List Slot} {S : List Value} {H : AH} {q : Option ORes → Prop} {x : Int32} (hc : ¬ x = 0) (h : Rsq (go n (35, L, S, H, cs, ss)) q) : Rsq (go (n + 1) (32, L, (.int x :: S), H, cs, ss)) q := by
  subst hgo
  exact res_of s0_32 (res_f hc h)
theorem t0_35 {go : Nat → St → Option ORes} (hgo : go = orun code ret E0 0) {n cs ss : Nat} {L : List Slot} {S : List Value} {H : AH} {q : Option ORes → Prop} (h : Rsq (go n (36, L, (.int 0 :: S), H, cs, ss)) q) : Rsq (go (n + 1) (35, L, S, H, cs, ss)) q := by
  subst hgo
  exact res_of s0_35 h
theorem t0_36 {go : Nat → St → Option ORes} (hgo : go = orun code ret E0 0) {n cs ss : Nat} {l0 l1 l2 l3 l4 l5 l6 l7 l8 l9 l10 : Slot} {S : List Value} {H : AH} {q : Option ORes → Prop} {x : Int32} (hk : so l6 = true) (h : Rsq (go n (38, [l0, l1, l2, l3, l4, l5, .val (.int x), l7, l8, l9, l10], S, H, cs, ss)) q) : Rsq (go (n + 1) (36, [l0, l1, l2, l3, l4, l5, l6, l7, l8, l9, l10], (.int x :: S), H, cs, ss)) q := by
  subst hgo
  refine res_of s0_36 ?_
  rw [pI_int, st1_so (L := [l0, l1, l2, l3, l4, l5, l6, l7, l8, l9, l10]) (k := 6) (l := l6) rfl hk]
  exact h
theorem t0_38 {go : Nat → St → Option ORes} (hgo : go = orun code ret E0 0) {n cs ss : Nat} {l0 l1 l2 l3 l5 l6 l7 l8 l9 l10 : Slot} {S : List Value} {H : AH} {q : Option ORes → Prop} {v : Int32} (h : Rsq (go n (40, [l0, l1, l2, l3, .val (.int v), l5, l6, l7, l8, l9, l10], (.int v :: S), H, cs, ss)) q) : Rsq (go (n + 1) (38, [l0, l1, l2, l3, .val (.int v), l5, l6, l7, l8, l9, l10], S, H, cs, ss)) q := by
  subst hgo
  exact res_of s0_38 h
theorem t0_40 {go : Nat → St → Option ORes} (hgo : go = orun code ret E0 0) {n cs ss : Nat} {l0 l1 l2 l3 l4 l5 l7 l8 l9 l10 : Slot} {S : List Value} {H : AH} {q : Option ORes → Prop} {v : Int32} (h : Rsq (go n (42, [l0, l1, l2, l3, l4, l5, .val (.int v), l7, l8, l9, l10], (.int v :: S), H, cs, ss)) q) : Rsq (go (n + 1) (40, [l0, l1, l2, l3, l4, l5, .val (.int v), l7, l8, l9, l10], S, H, cs, ss)) q := by
  subst hgo
  exact res_of s0_40 h
theorem t0_42 {go : Nat → St → Option ORes} (hgo : go = orun code ret E0 0) {n cs ss : Nat} {L : List Slot} {S : List Value} {H : AH} {q : Option ORes → Prop} {x y : Int32} (h : Rsq (go n (43, L, (.int (x + y) :: S), H, cs, ss)) q) : Rsq (go (n + 1) (42, L, (.int y :: .int x :: S), H, cs, ss)) q := by
  subst hgo
  exact res_of s0_42 h
theorem t0_43 {go : Nat → St → Option ORes} (hgo : go = orun code ret E0 0) {n cs ss : Nat} {l0 l1 l2 l3 l4 l5 l6 l7 l8 l9 l10 : Slot} {S : List Value} {H : AH} {q : Option ORes → Prop} {x : Int32} (hk : so l7 = true) (h : Rsq (go n (45, [l0, l1, l2, l3, l4, l5, l6, .val (.int x), l8, l9, l10], S, H, cs, ss)) q) : Rsq (go (n + 1) (43, [l0, l1, l2, l3, l4, l5, l6, l7, l8, l9, l10], (.int x :: S), H, cs, ss)) q := by
  subst hgo
  refine res_of s0_43 ?_
  rw [pI_int, st1_so (L := [l0, l1, l2, l3, l4, l5, l6, l7, l8, l9, l10]) (k := 7) (l := l7) rfl hk]
  exact h
theorem t0_45 {go : Nat → St → Option ORes} (hgo : go = orun code ret E0 0) {n cs ss : Nat} {l0 l1 l3 l4 l5 l6 l7 l8 l9 l10 : Slot} {S : List Value} {H : AH} {q : Option ORes → Prop} {v : Int32} (h : Rsq (go n (46, [l0, l1, .val (.int v), l3, l4, l5, l6, l7, l8, l9, l10], (.int v :: S), H, cs, ss)) q) : Rsq (go (n + 1) (45, [l0, l1, .val (.int v), l3, l4, l5, l6, l7, l8, l9, l10], S, H, cs, ss)) q := by
  subst hgo
  exact res_of s0_45 h
theorem t0_46 {go : Nat → St → Option ORes} (hgo : go = orun code ret E0 0) {n cs ss : Nat} {L : List Slot} {S : List Value} {H : AH} {q : Option ORes → Prop} (h : Rsq (go n (48, L, (.int (2147483647) :: S), H, cs, ss)) q) : Rsq (go (n + 1) (46, L, S, H, cs, ss)) q := by
  subst hgo
  exact res_of s0_46 h
theorem t0_48 {go : Nat → St → Option ORes} (hgo : go = orun code ret E0 0) {n cs ss : Nat} {L : List Slot} {S : List Value} {H : AH} {q : Option ORes → Prop} {x y : Int32} (h : Rsq (go n (49, L, (.int (x &&& y) :: S), H, cs, ss)) q) : Rsq (go (n + 1) (48, L, (.int y :: .int x :: S), H, cs, ss)) q := by
  subst hgo
  exact res_of s0_48 h
theorem t0_49 {go : Nat → St → Option ORes} (hgo : go = orun code ret E0 0) {n cs ss : Nat} {l0 l1 l2 l3 l4 l5 l6 l7 l8 l9 l10 : Slot} {S : List Value} {H : AH} {q : Option ORes → Prop} {x : Int32} (hk : so l8 = true) (h : Rsq (go n (51, [l0, l1, l2, l3, l4, l5, l6, l7, .val (.int x), l9, l10], S, H, cs, ss)) q) : Rsq (go (n + 1) (49, [l0, l1, l2, l3, l4, l5, l6, l7, l8, l9, l10], (.int x :: S), H, cs, ss)) q := by
  subst hgo
  refine res_of s0_49 ?_
  rw [pI_int, st1_so (L := [l0, l1, l2, l3, l4, l5, l6, l7, l8, l9, l10]) (k := 8) (l := l8) rfl hk]
  exact h
theorem u0_51 {go : Nat → St → Option ORes} (hgo : go = orun code ret E0 0) {n cs ss : Nat} {L : List Slot} {S : List Value} {H : AH} : go (n + 1) (51, L, S, H, cs, ss) = (aNew 0 3 16 128 [(.int 0), (.int 0), (.int 0)] S H cs ss).bind fun r => go n (54, L, r.1, r.2.1, r.2.2.1, r.2.2.2) := by
  subst hgo
  exact s0_51
theorem t0_54 {go : Nat → St → Option ORes} (hgo : go = orun code ret E0 0) {n cs ss : Nat} {L : List Slot} {S : List Value} {H : AH} {q : Option ORes → Prop} {v : Value} (hv : isS v = true) (h : Rsq (go n (55, L, (v :: v :: S), H, cs, ss)) q) : Rsq (go (n + 1) (54, L, (v :: S), H, cs, ss)) q := by
  subst hgo
  refine res_of s0_54 ?_
  rw [ex_dup, p1_isS hv]
  exact h
theorem t0_55 {go : Nat → St → Option ORes} (hgo : go = orun code ret E0 0) {n cs ss : Nat} {l0 l1 l2 l3 l5 l6 l7 l8 l9 l10 : Slot} {S : List Value} {H : AH} {q : Option ORes → Prop} {v : Int32} (h : Rsq (go n (57, [l0, l1, l2, l3, .val (.int v), l5, l6, l7, l8, l9, l10], (.int v :: S), H, cs, ss)) q) : Rsq (go (n + 1) (55, [l0, l1, l2, l3, .val (.int v), l5, l6, l7, l8, l9, l10], S, H, cs, ss)) q := by
  subst hgo
  exact res_of s0_55 h
theorem t0_57 {go : Nat → St → Option ORes} (hgo : go = orun code ret E0 0) {n cs ss : Nat} {l0 l1 l2 l3 l4 l5 l6 l8 l9 l10 : Slot} {S : List Value} {H : AH} {q : Option ORes → Prop} {v : Int32} (h : Rsq (go n (59, [l0, l1, l2, l3, l4, l5, l6, .val (.int v), l8, l9, l10], (.int v :: S), H, cs, ss)) q) : Rsq (go (n + 1) (57, [l0, l1, l2, l3, l4, l5, l6, .val (.int v), l8, l9, l10], S, H, cs, ss)) q := by
  subst hgo
  exact res_of s0_57 h
theorem t0_59 {go : Nat → St → Option ORes} (hgo : go = orun code ret E0 0) {n cs ss : Nat} {l0 l1 l2 l3 l4 l5 l6 l7 l9 l10 : Slot} {S : List Value} {H : AH} {q : Option ORes → Prop} {v : Int32} (h : Rsq (go n (61, [l0, l1, l2, l3, l4, l5, l6, l7, .val (.int v), l9, l10], (.int v :: S), H, cs, ss)) q) : Rsq (go (n + 1) (59, [l0, l1, l2, l3, l4, l5, l6, l7, .val (.int v), l9, l10], S, H, cs, ss)) q := by
  subst hgo
  exact res_of s0_59 h
theorem u0_61 {go : Nat → St → Option ORes} (hgo : go = orun code ret E0 0) {n cs ss : Nat} {L : List Slot} {S : List Value} {H : AH} : go (n + 1) (61, L, S, H, cs, ss) = (aRecv 3 0 6 16 128 0 0 F1 S H cs ss).bind fun r => go n (64, L, r.1, r.2.1, r.2.2.1, r.2.2.2) := by
  subst hgo
  exact s0_61
theorem t0_64 {go : Nat → St → Option ORes} (hgo : go = orun code ret E0 0) {n cs ss : Nat} {l0 l1 l2 l3 l4 l5 l6 l7 l8 l9 l10 : Slot} {S : List Value} {H : AH} {q : Option ORes → Prop} {v : Value} (hv : isA v = true) (hk : so l9 = true) (h : Rsq (go n (66, [l0, l1, l2, l3, l4, l5, l6, l7, l8, .val v, l10], S, H, cs, ss)) q) : Rsq (go (n + 1) (64, [l0, l1, l2, l3, l4, l5, l6, l7, l8, l9, l10], (v :: S), H, cs, ss)) q := by
  subst hgo
  refine res_of s0_64 ?_
  rw [pA_isA hv, st1_so (L := [l0, l1, l2, l3, l4, l5, l6, l7, l8, l9, l10]) (k := 9) (l := l9) rfl hk]
  exact h
theorem t0_66 {go : Nat → St → Option ORes} (hgo : go = orun code ret E0 0) {n cs ss : Nat} {l0 l1 l2 l3 l4 l5 l7 l8 l9 l10 : Slot} {S : List Value} {H : AH} {q : Option ORes → Prop} {v : Int32} (h : Rsq (go n (68, [l0, l1, l2, l3, l4, l5, .val (.int v), l7, l8, l9, l10], (.int v :: S), H, cs, ss)) q) : Rsq (go (n + 1) (66, [l0, l1, l2, l3, l4, l5, .val (.int v), l7, l8, l9, l10], S, H, cs, ss)) q := by
  subst hgo
  exact res_of s0_66 h
theorem t0_68t {go : Nat → St → Option ORes} (hgo : go = orun code ret E0 0) {n cs ss : Nat} {L : List Slot} {S : List Value} {H : AH} {q : Option ORes → Prop} {x : Int32} (hc : x = 0) (h : Rsq (go n (71, L, S, H, cs, ss)) q) : Rsq (go (n + 1) (68, L, (.int x :: S), H, cs, ss)) q := by
  subst hgo
  exact res_of s0_68 (res_t hc h)
theorem t0_68f {go : Nat → St → Option ORes} (hgo : go = orun code ret E0 0) {n cs ss : Nat} {L : List Slot} {S : List Value} {H : AH} {q : Option ORes → Prop} {x : Int32} (hc : ¬ x = 0) (h : Rsq (go n (75, L, S, H, cs, ss)) q) : Rsq (go (n + 1) (68, L, (.int x :: S), H, cs, ss)) q := by
  subst hgo
  exact res_of s0_68 (res_f hc h)
theorem t0_71 {go : Nat → St → Option ORes} (hgo : go = orun code ret E0 0) {n cs ss : Nat} {L : List Slot} {S : List Value} {H : AH} {q : Option ORes → Prop} (h : Rsq (go n (72, L, (.int 1 :: S), H, cs, ss)) q) : Rsq (go (n + 1) (71, L, S, H, cs, ss)) q := by
  subst hgo
  exact res_of s0_71 h
theorem t0_72 {go : Nat → St → Option ORes} (hgo : go = orun code ret E0 0) {n cs ss : Nat} {L : List Slot} {S : List Value} {H : AH} {q : Option ORes → Prop} (h : Rsq (go n (76, L, S, H, cs, ss)) q) : Rsq (go (n + 1) (72, L, S, H, cs, ss)) q := by
  subst hgo
  exact res_of s0_72 h
theorem t0_75 {go : Nat → St → Option ORes} (hgo : go = orun code ret E0 0) {n cs ss : Nat} {L : List Slot} {S : List Value} {H : AH} {q : Option ORes → Prop} (h : Rsq (go n (76, L, (.int 0 :: S), H, cs, ss)) q) : Rsq (go (n + 1) (75, L, S, H, cs, ss)) q := by
  subst hgo
  exact res_of s0_75 h
theorem t0_76 {go : Nat → St → Option ORes} (hgo : go = orun code ret E0 0) {n cs ss : Nat} {l0 l1 l2 l3 l4 l5 l6 l7 l8 l9 l10 : Slot} {S : List Value} {H : AH} {q : Option ORes → Prop} {x : Int32} (hk : so l10 = true) (h : Rsq (go n (78, [l0, l1, l2, l3, l4, l5, l6, l7, l8, l9, .val (.int x)], S, H, cs, ss)) q) : Rsq (go (n + 1) (76, [l0, l1, l2, l3, l4, l5, l6, l7, l8, l9, l10], (.int x :: S), H, cs, ss)) q := by
  subst hgo
  refine res_of s0_76 ?_
  rw [pI_int, st1_so (L := [l0, l1, l2, l3, l4, l5, l6, l7, l8, l9, l10]) (k := 10) (l := l10) rfl hk]
  exact h
theorem t0_78 {go : Nat → St → Option ORes} (hgo : go = orun code ret E0 0) {n cs ss : Nat} {l0 l1 l2 l3 l4 l5 l6 l7 l8 l10 : Slot} {S : List Value} {H : AH} {q : Option ORes → Prop} {v : Value} (hv : isA v = true) (h : Rsq (go n (80, [l0, l1, l2, l3, l4, l5, l6, l7, l8, .val v, l10], (v :: S), H, cs, ss)) q) : Rsq (go (n + 1) (78, [l0, l1, l2, l3, l4, l5, l6, l7, l8, .val v, l10], S, H, cs, ss)) q := by
  subst hgo
  refine res_of s0_78 ?_
  rw [gA_isA (L := [l0, l1, l2, l3, l4, l5, l6, l7, l8, .val v, l10]) (k := 9) (v := v) rfl hv]
  exact h
theorem u0_80 {go : Nat → St → Option ORes} (hgo : go = orun code ret E0 0) {n cs ss : Nat} {L : List Slot} {S : List Value} {H : AH} : go (n + 1) (80, L, S, H, cs, ss) = (aRecv 0 0 6 16 128 0 0 F3 S H cs ss).bind fun r => go n (83, L, r.1, r.2.1, r.2.2.1, r.2.2.2) := by
  subst hgo
  exact s0_80
theorem t0_83 {go : Nat → St → Option ORes} (hgo : go = orun code ret E0 0) {n cs ss : Nat} {l0 l1 l2 l3 l4 l5 l6 l7 l8 l9 : Slot} {S : List Value} {H : AH} {q : Option ORes → Prop} {v : Int32} (h : Rsq (go n (85, [l0, l1, l2, l3, l4, l5, l6, l7, l8, l9, .val (.int v)], (.int v :: S), H, cs, ss)) q) : Rsq (go (n + 1) (83, [l0, l1, l2, l3, l4, l5, l6, l7, l8, l9, .val (.int v)], S, H, cs, ss)) q := by
  subst hgo
  exact res_of s0_83 h
theorem t0_85t {go : Nat → St → Option ORes} (hgo : go = orun code ret E0 0) {n cs ss : Nat} {L : List Slot} {S : List Value} {H : AH} {q : Option ORes → Prop} {x y : Int32} (hc : x = y) (h : Rsq (go n (88, L, S, H, cs, ss)) q) : Rsq (go (n + 1) (85, L, (.int y :: .int x :: S), H, cs, ss)) q := by
  subst hgo
  exact res_of s0_85 (res_t hc h)
theorem t0_85f {go : Nat → St → Option ORes} (hgo : go = orun code ret E0 0) {n cs ss : Nat} {L : List Slot} {S : List Value} {H : AH} {q : Option ORes → Prop} {x y : Int32} (hc : ¬ x = y) (h : Rsq (go n (92, L, S, H, cs, ss)) q) : Rsq (go (n + 1) (85, L, (.int y :: .int x :: S), H, cs, ss)) q := by
  subst hgo
  exact res_of s0_85 (res_f hc h)
theorem t0_88 {go : Nat → St → Option ORes} (hgo : go = orun code ret E0 0) {n cs ss : Nat} {L : List Slot} {S : List Value} {H : AH} {q : Option ORes → Prop} (h : Rsq (go n (89, L, (.int 1 :: S), H, cs, ss)) q) : Rsq (go (n + 1) (88, L, S, H, cs, ss)) q := by
  subst hgo
  exact res_of s0_88 h
theorem t0_89 {go : Nat → St → Option ORes} (hgo : go = orun code ret E0 0) {n cs ss : Nat} {L : List Slot} {S : List Value} {H : AH} {q : Option ORes → Prop} (h : Rsq (go n (93, L, S, H, cs, ss)) q) : Rsq (go (n + 1) (89, L, S, H, cs, ss)) q := by
  subst hgo
  exact res_of s0_89 h
theorem t0_92 {go : Nat → St → Option ORes} (hgo : go = orun code ret E0 0) {n cs ss : Nat} {L : List Slot} {S : List Value} {H : AH} {q : Option ORes → Prop} (h : Rsq (go n (93, L, (.int 0 :: S), H, cs, ss)) q) : Rsq (go (n + 1) (92, L, S, H, cs, ss)) q := by
  subst hgo
  exact res_of s0_92 h
theorem t0_93 {go : Nat → St → Option ORes} (hgo : go = orun code ret E0 0) {n cs ss : Nat} {L : List Slot} {S : List Value} {H : AH} {q : Option ORes → Prop} {z : Int32} (h : q (some (some (.int (z &&& 1)), H))) : Rsq (go (n + 1) (93, L, (.int z :: S), H, cs, ss)) q := by
  subst hgo
  exact res_of s0_93 h
theorem qc_0 : Int32.ofInt 0 = 0 := by decide
theorem qc_1 : Int32.ofInt 1 = 1 := by decide
theorem F2_eq (a : Nat) (H : AH) : F2 [.ref a] H = some (none, H) := by
  simp only [f2_in, nr_i, nr_j, nr_a, nr_o, nr_b, nr_b1, nr_b0, ft_i, ft_j, ft_a, ft_o, ft_b, ft_b1, ft_b0, rV_nil, b_1, b_0, b_1r, b_0r, b_bb, b_and, i_10, i_01, eq_self, iff_self, not_true_eq_false, not_false_eq_true, ite_not, cat_int, cat_long, cat_ref, cat_null, and11, and01, Nat.reduceAdd, Nat.reduceSub, Nat.reduceMul, Nat.reduceLT, Nat.reduceLeDiff, Nat.reduceEqDiff, Int32.reduceAdd, Int32.reduceSub, Int32.reduceMul, Int32.reduceMod, Int32.reduceLT, Int32.reduceLE, Int32.reduceToNatClampNeg, Int64.reduceAdd, Int64.reduceSub, Int64.reduceLT, Nat.le_refl, Nat.zero_add, Nat.add_zero, and_self, Option.bind_some, Option.bind_none, gI, gL, gA, st1, st2, pI_int, pL_long, pA_ref, pA_null, pR_ref, p1_int, p1_ref, p1_null, ex_ishl, ex_ishr, ex_iushr, ex_idiv, ex_irem, ex_ineg, ex_i2b, ex_i2c, ex_i2s, ex_i2l, ex_l2i, ex_lneg, ex_lshl, ex_lshr, ex_lushr, ex_ldiv, ex_lrem, ex_lcmp, ex_dup, ex_pop, ex_dup_x1, ex_dup2, ex_ifnull, ex_ifnonnull, ex_if_acmp, ex_arraylength, ex_iaload, ex_baload, ex_caload, ex_laload, ex_aaload, ex_iastore, ex_bastore, ex_castore, ex_lastore, ex_ldc, ex_ldc_w, ex_ldc2_w, ex_getfield, ex_putfield, ex_getstatic, ex_new, ex_invokestatic, ex_invokespecial, ex_invokevirtual, ex_checkcast, ex_instanceof, ex_anewarray, ex_newarray, ex_ireturn, ex_lreturn, ex_areturn, ex_return, br_d, br_n, br_t, br_f, spc, look, aI, aJ, aGet, aPut, aNew, aArr, aObj, aCall, aRecv, obj, arr, ald, ast, astL, isT, isBZ, atn, refEq, acV, List.getElem?_cons_zero, List.getElem?_cons_succ, List.set_cons_zero, List.set_cons_succ, List.take_succ_cons, List.take_zero, List.drop_succ_cons, List.drop_zero, List.reverse_cons, List.reverse_nil, List.nil_append, List.cons_append, List.map_cons, List.map_nil, List.sum_cons, List.sum_nil, List.length_cons, List.length_nil, Option.toList_some, Option.toList_none, List.append_nil, true_and, and_true, not_false_eq_true, decide_true, decide_false, Bool.not_true, Bool.not_false, if_true, if_false, reduceIte, Option.map_some, nar, defaultValue, List.replicate_zero, List.replicate_succ, ln0, ln1, ln2, ln3, ln4, ln5, ln6, ln7, ln8, ln9, ln10, ln11, ln12, ln13, ln14, ln15, ln16, ln17, ln18, ln19, ln20, ln21, ln22, ln23, ln24, ln25, ln26, ln27, ln28, ln29, ln30, ln31, ln32, ln33, ln34, ln35, ln36, s2_0, s2_1, s2_4, qc_0, qc_1]
theorem F1_eq (a b c : Int32) (h1 : ¬ a < 1) (h2 : ¬ b < a) (h3 : ¬ c < 0) : F1 [.ref 0, .int a, .int b, .int c] [.inl (0, [.int 0, .int 0, .int 0])] = some (none, [.inl (0, [.int a, .int b, .int c])]) := by
  simp only [f1_in, nr_i, nr_j, nr_a, nr_o, nr_b, nr_b1, nr_b0, ft_i, ft_j, ft_a, ft_o, ft_b, ft_b1, ft_b0, rV_nil, b_1, b_0, b_1r, b_0r, b_bb, b_and, i_10, i_01, eq_self, iff_self, not_true_eq_false, not_false_eq_true, ite_not, cat_int, cat_long, cat_ref, cat_null, and11, and01, Nat.reduceAdd, Nat.reduceSub, Nat.reduceMul, Nat.reduceLT, Nat.reduceLeDiff, Nat.reduceEqDiff, Int32.reduceAdd, Int32.reduceSub, Int32.reduceMul, Int32.reduceMod, Int32.reduceLT, Int32.reduceLE, Int32.reduceToNatClampNeg, Int64.reduceAdd, Int64.reduceSub, Int64.reduceLT, Nat.le_refl, Nat.zero_add, Nat.add_zero, and_self, Option.bind_some, Option.bind_none, gI, gL, gA, st1, st2, pI_int, pL_long, pA_ref, pA_null, pR_ref, p1_int, p1_ref, p1_null, ex_ishl, ex_ishr, ex_iushr, ex_idiv, ex_irem, ex_ineg, ex_i2b, ex_i2c, ex_i2s, ex_i2l, ex_l2i, ex_lneg, ex_lshl, ex_lshr, ex_lushr, ex_ldiv, ex_lrem, ex_lcmp, ex_dup, ex_pop, ex_dup_x1, ex_dup2, ex_ifnull, ex_ifnonnull, ex_if_acmp, ex_arraylength, ex_iaload, ex_baload, ex_caload, ex_laload, ex_aaload, ex_iastore, ex_bastore, ex_castore, ex_lastore, ex_ldc, ex_ldc_w, ex_ldc2_w, ex_getfield, ex_putfield, ex_getstatic, ex_new, ex_invokestatic, ex_invokespecial, ex_invokevirtual, ex_checkcast, ex_instanceof, ex_anewarray, ex_newarray, ex_ireturn, ex_lreturn, ex_areturn, ex_return, br_d, br_n, br_t, br_f, spc, look, aI, aJ, aGet, aPut, aNew, aArr, aObj, aCall, aRecv, obj, arr, ald, ast, astL, isT, isBZ, atn, refEq, acV, List.getElem?_cons_zero, List.getElem?_cons_succ, List.set_cons_zero, List.set_cons_succ, List.take_succ_cons, List.take_zero, List.drop_succ_cons, List.drop_zero, List.reverse_cons, List.reverse_nil, List.nil_append, List.cons_append, List.map_cons, List.map_nil, List.sum_cons, List.sum_nil, List.length_cons, List.length_nil, Option.toList_some, Option.toList_none, List.append_nil, true_and, and_true, not_false_eq_true, decide_true, decide_false, Bool.not_true, Bool.not_false, if_true, if_false, reduceIte, Option.map_some, nar, defaultValue, List.replicate_zero, List.replicate_succ, ln0, ln1, ln2, ln3, ln4, ln5, ln6, ln7, ln8, ln9, ln10, ln11, ln12, ln13, ln14, ln15, ln16, ln17, ln18, ln19, ln20, ln21, ln22, ln23, ln24, ln25, ln26, ln27, ln28, ln29, ln30, ln31, ln32, ln33, ln34, ln35, ln36, s1_0, s1_1, s1_4, s1_5, s1_6, s1_9, s1_10, s1_11, s1_14, s1_15, s1_18, s1_21, s1_22, s1_24, s1_27, s1_28, s1_29, s1_30, s1_33, s1_34, s1_35, s1_38, s1_39, s1_40, s1_43, qc_0, qc_1, F2_eq, h1, h2, h3]
theorem F3_eq (a b c : Int32) : F3 [.ref 0] [.inl (0, [.int a, .int b, .int c])] = some (some (.int (if a = b then 1 else 0)), [.inl (0, [.int a, .int b, .int c])]) := by
  simp only [f3_in, nr_i, nr_j, nr_a, nr_o, nr_b, nr_b1, nr_b0, ft_i, ft_j, ft_a, ft_o, ft_b, ft_b1, ft_b0, rV_nil, b_1, b_0, b_1r, b_0r, b_bb, b_and, i_10, i_01, eq_self, iff_self, not_true_eq_false, not_false_eq_true, ite_not, cat_int, cat_long, cat_ref, cat_null, and11, and01, Nat.reduceAdd, Nat.reduceSub, Nat.reduceMul, Nat.reduceLT, Nat.reduceLeDiff, Nat.reduceEqDiff, Int32.reduceAdd, Int32.reduceSub, Int32.reduceMul, Int32.reduceMod, Int32.reduceLT, Int32.reduceLE, Int32.reduceToNatClampNeg, Int64.reduceAdd, Int64.reduceSub, Int64.reduceLT, Nat.le_refl, Nat.zero_add, Nat.add_zero, and_self, Option.bind_some, Option.bind_none, gI, gL, gA, st1, st2, pI_int, pL_long, pA_ref, pA_null, pR_ref, p1_int, p1_ref, p1_null, ex_ishl, ex_ishr, ex_iushr, ex_idiv, ex_irem, ex_ineg, ex_i2b, ex_i2c, ex_i2s, ex_i2l, ex_l2i, ex_lneg, ex_lshl, ex_lshr, ex_lushr, ex_ldiv, ex_lrem, ex_lcmp, ex_dup, ex_pop, ex_dup_x1, ex_dup2, ex_ifnull, ex_ifnonnull, ex_if_acmp, ex_arraylength, ex_iaload, ex_baload, ex_caload, ex_laload, ex_aaload, ex_iastore, ex_bastore, ex_castore, ex_lastore, ex_ldc, ex_ldc_w, ex_ldc2_w, ex_getfield, ex_putfield, ex_getstatic, ex_new, ex_invokestatic, ex_invokespecial, ex_invokevirtual, ex_checkcast, ex_instanceof, ex_anewarray, ex_newarray, ex_ireturn, ex_lreturn, ex_areturn, ex_return, br_d, br_n, br_t, br_f, spc, look, aI, aJ, aGet, aPut, aNew, aArr, aObj, aCall, aRecv, obj, arr, ald, ast, astL, isT, isBZ, atn, refEq, acV, List.getElem?_cons_zero, List.getElem?_cons_succ, List.set_cons_zero, List.set_cons_succ, List.take_succ_cons, List.take_zero, List.drop_succ_cons, List.drop_zero, List.reverse_cons, List.reverse_nil, List.nil_append, List.cons_append, List.map_cons, List.map_nil, List.sum_cons, List.sum_nil, List.length_cons, List.length_nil, Option.toList_some, Option.toList_none, List.append_nil, true_and, and_true, not_false_eq_true, decide_true, decide_false, Bool.not_true, Bool.not_false, if_true, if_false, reduceIte, Option.map_some, nar, defaultValue, List.replicate_zero, List.replicate_succ, ln0, ln1, ln2, ln3, ln4, ln5, ln6, ln7, ln8, ln9, ln10, ln11, ln12, ln13, ln14, ln15, ln16, ln17, ln18, ln19, ln20, ln21, ln22, ln23, ln24, ln25, ln26, ln27, ln28, ln29, ln30, ln31, ln32, ln33, ln34, ln35, ln36, s3_0, s3_1, s3_4, s3_5, s3_8, s3_11, s3_12, s3_15, s3_16, qc_0, qc_1]
  split <;> rfl
theorem F3_y (a b c : Int32) (h : a = b) : F3 [.ref 0] [.inl (0, [.int a, .int b, .int c])] = some (some (.int 1), [.inl (0, [.int a, .int b, .int c])]) := by rw [F3_eq, if_pos h]
theorem F3_n (a b c : Int32) (h : ¬ a = b) : F3 [.ref 0] [.inl (0, [.int a, .int b, .int c])] = some (some (.int 0), [.inl (0, [.int a, .int b, .int c])]) := by rw [F3_eq, if_neg h]
set_option maxRecDepth 65536 in
set_option maxHeartbeats 4000000 in
theorem law_val (v0 v1 v2 v3 : Int32) : ∃ H', F0 [.int v0, .int v1, .int v2, .int v3] [] = some (some (.int 1), H') := by
  have eM : (2147483647 : Int32).toInt = 2147483647 := by decide
  have e1 : (1 : Int32).toInt = 1 := by decide
  have e0 : (0 : Int32).toInt = 0 := by decide
  have hA := c_and v0 2147483647 (by decide)
  have hB := (c_iremV (v0 &&& 2147483647) 2147483647).1 hA.1 (by decide)
  generalize hx : (v0 &&& 2147483647) % 2147483647 = x at hB
  have hC := c_iadd 1 x
  have hC' := rng32 (1 + x)
  generalize hmn : 1 + x = mn at hC hC'
  have hD := c_isub 2147483647 mn
  have hD' := rng32 (2147483647 - mn)
  have hE := c_iadd (2147483647 - mn) 1
  have hE' := rng32 (2147483647 - mn + 1)
  generalize hrm : 2147483647 - mn + 1 = rm at hE hE'
  have hF := c_and v1 2147483647 (by decide)
  have hG := (c_iremV (v1 &&& 2147483647) rm).1 hF.1 (by omega)
  generalize hd : (v1 &&& 2147483647) % rm = d at hG
  have hH := c_iadd mn d
  have hH' := rng32 (mn + d)
  have hI := c_and v2 2147483647 (by decide)
  have r0 : ¬ rm = 0 := by rw [← Int32.toInt_inj]; omega
  have q1 : ¬ mn < 1 := by rw [Int32.lt_iff_toInt_lt]; omega
  have q2 : ¬ mn + d < mn := by rw [Int32.lt_iff_toInt_lt]; omega
  have q2' : ¬ mn < mn := by rw [Int32.lt_iff_toInt_lt]; omega
  have q3 : ¬ v2 &&& 2147483647 < 0 := by rw [Int32.lt_iff_toInt_lt]; omega
  have q4 : mn = mn + d ↔ d = 0 := by
    rw [← Int32.toInt_inj, ← Int32.toInt_inj]; omega
  refine one_of f0_in fun go hgo => ?_
  refine t0_0 hgo ?_
  refine t0_1 hgo ?_
  refine t0_2 hgo ?_
  refine t0_4 hgo ?_
  refine t0_5 hgo ?_
  refine t0_7 hgo (by decide) ?_
  refine t0_8 hgo ?_
  refine t0_9 hgo rfl ?_
  rw [hx, hmn]
  refine t0_11 hgo ?_
  refine t0_13 hgo ?_
  refine t0_15 hgo ?_
  refine t0_16 hgo ?_
  refine t0_17 hgo ?_
  refine t0_18 hgo rfl ?_
  rw [hrm]
  refine t0_20 hgo ?_
  refine t0_21 hgo ?_
  refine t0_23 hgo ?_
  refine t0_24 hgo ?_
  refine t0_26 hgo r0 ?_
  refine t0_27 hgo rfl ?_
  rw [hd]
  by_cases hf : v3 &&& 1 = 0
  · skip
    refine t0_29 hgo ?_
    refine t0_30 hgo ?_
    refine t0_31 hgo ?_
    refine t0_32t hgo hf ?_
    refine t0_38 hgo ?_
    refine t0_40 hgo ?_
    refine t0_42 hgo ?_
    refine t0_43 hgo rfl ?_
    refine t0_45 hgo ?_
    refine t0_46 hgo ?_
    refine t0_48 hgo ?_
    refine t0_49 hgo rfl ?_
    by_cases h0 : d = 0
    · have hq := q4.mpr h0
      refine res_of (u0_51 hgo) ?_
      simp only [eq_self, and_self, true_and, and_true, not_true_eq_false, not_false_eq_true, if_true, if_false, reduceIte, Option.bind_some, List.getElem?_cons_zero, List.getElem?_cons_succ, Nat.reduceAdd, Nat.reduceSub, Nat.reduceLT, Nat.reduceLeDiff, Nat.le_refl, Nat.zero_add, Nat.add_zero, List.length_cons, List.length_nil, Int32.reduceLT, Int32.reduceToNatClampNeg, Int32.reduceAdd, Int32.reduceSub, Int32.reduceMul, decide_true, aNew, List.nil_append, List.cons_append, F1_eq _ _ _ q1 q2 q3, F3_y _ _ (v2 &&& 2147483647) hq]
      refine t0_54 hgo rfl ?_
      refine t0_55 hgo ?_
      refine t0_57 hgo ?_
      refine t0_59 hgo ?_
      refine res_of (u0_61 hgo) ?_
      simp only [eq_self, and_self, true_and, and_true, not_true_eq_false, not_false_eq_true, if_true, if_false, reduceIte, Option.bind_some, List.getElem?_cons_zero, List.getElem?_cons_succ, Nat.reduceAdd, Nat.reduceSub, Nat.reduceLT, Nat.reduceLeDiff, Nat.le_refl, Nat.zero_add, Nat.add_zero, List.length_cons, List.length_nil, Int32.reduceLT, Int32.reduceToNatClampNeg, Int32.reduceAdd, Int32.reduceSub, Int32.reduceMul, decide_true, aCall, aRecv, aObj, obj, List.take_succ_cons, List.take_zero, List.drop_succ_cons, List.drop_zero, List.reverse_cons, List.reverse_nil, List.nil_append, List.cons_append, List.append_nil, List.map_cons, List.map_nil, List.sum_cons, List.sum_nil, cat_int, cat_long, cat_ref, cat_null, Option.toList_some, Option.toList_none, F1_eq _ _ _ q1 q2 q3, F3_y _ _ (v2 &&& 2147483647) hq]
      refine t0_64 hgo rfl rfl ?_
      refine t0_66 hgo ?_
      refine t0_68t hgo h0 ?_
      refine t0_71 hgo ?_
      refine t0_72 hgo ?_
      refine t0_76 hgo rfl ?_
      refine t0_78 hgo rfl ?_
      refine res_of (u0_80 hgo) ?_
      simp only [eq_self, and_self, true_and, and_true, not_true_eq_false, not_false_eq_true, if_true, if_false, reduceIte, Option.bind_some, List.getElem?_cons_zero, List.getElem?_cons_succ, Nat.reduceAdd, Nat.reduceSub, Nat.reduceLT, Nat.reduceLeDiff, Nat.le_refl, Nat.zero_add, Nat.add_zero, List.length_cons, List.length_nil, Int32.reduceLT, Int32.reduceToNatClampNeg, Int32.reduceAdd, Int32.reduceSub, Int32.reduceMul, decide_true, aCall, aRecv, aObj, obj, List.take_succ_cons, List.take_zero, List.drop_succ_cons, List.drop_zero, List.reverse_cons, List.reverse_nil, List.nil_append, List.cons_append, List.append_nil, List.map_cons, List.map_nil, List.sum_cons, List.sum_nil, cat_int, cat_long, cat_ref, cat_null, Option.toList_some, Option.toList_none, F1_eq _ _ _ q1 q2 q3, F3_y _ _ (v2 &&& 2147483647) hq]
      refine t0_83 hgo ?_
      refine t0_85t hgo rfl ?_
      refine t0_88 hgo ?_
      refine t0_89 hgo ?_
      refine t0_93 hgo ?_
      exact one_b
    · have hq : ¬ mn = mn + d := fun q => h0 (q4.mp q)
      refine res_of (u0_51 hgo) ?_
      simp only [eq_self, and_self, true_and, and_true, not_true_eq_false, not_false_eq_true, if_true, if_false, reduceIte, Option.bind_some, List.getElem?_cons_zero, List.getElem?_cons_succ, Nat.reduceAdd, Nat.reduceSub, Nat.reduceLT, Nat.reduceLeDiff, Nat.le_refl, Nat.zero_add, Nat.add_zero, List.length_cons, List.length_nil, Int32.reduceLT, Int32.reduceToNatClampNeg, Int32.reduceAdd, Int32.reduceSub, Int32.reduceMul, decide_true, aNew, List.nil_append, List.cons_append, F1_eq _ _ _ q1 q2 q3, F3_n _ _ (v2 &&& 2147483647) hq]
      refine t0_54 hgo rfl ?_
      refine t0_55 hgo ?_
      refine t0_57 hgo ?_
      refine t0_59 hgo ?_
      refine res_of (u0_61 hgo) ?_
      simp only [eq_self, and_self, true_and, and_true, not_true_eq_false, not_false_eq_true, if_true, if_false, reduceIte, Option.bind_some, List.getElem?_cons_zero, List.getElem?_cons_succ, Nat.reduceAdd, Nat.reduceSub, Nat.reduceLT, Nat.reduceLeDiff, Nat.le_refl, Nat.zero_add, Nat.add_zero, List.length_cons, List.length_nil, Int32.reduceLT, Int32.reduceToNatClampNeg, Int32.reduceAdd, Int32.reduceSub, Int32.reduceMul, decide_true, aCall, aRecv, aObj, obj, List.take_succ_cons, List.take_zero, List.drop_succ_cons, List.drop_zero, List.reverse_cons, List.reverse_nil, List.nil_append, List.cons_append, List.append_nil, List.map_cons, List.map_nil, List.sum_cons, List.sum_nil, cat_int, cat_long, cat_ref, cat_null, Option.toList_some, Option.toList_none, F1_eq _ _ _ q1 q2 q3, F3_n _ _ (v2 &&& 2147483647) hq]
      refine t0_64 hgo rfl rfl ?_
      refine t0_66 hgo ?_
      refine t0_68f hgo h0 ?_
      refine t0_75 hgo ?_
      refine t0_76 hgo rfl ?_
      refine t0_78 hgo rfl ?_
      refine res_of (u0_80 hgo) ?_
      simp only [eq_self, and_self, true_and, and_true, not_true_eq_false, not_false_eq_true, if_true, if_false, reduceIte, Option.bind_some, List.getElem?_cons_zero, List.getElem?_cons_succ, Nat.reduceAdd, Nat.reduceSub, Nat.reduceLT, Nat.reduceLeDiff, Nat.le_refl, Nat.zero_add, Nat.add_zero, List.length_cons, List.length_nil, Int32.reduceLT, Int32.reduceToNatClampNeg, Int32.reduceAdd, Int32.reduceSub, Int32.reduceMul, decide_true, aCall, aRecv, aObj, obj, List.take_succ_cons, List.take_zero, List.drop_succ_cons, List.drop_zero, List.reverse_cons, List.reverse_nil, List.nil_append, List.cons_append, List.append_nil, List.map_cons, List.map_nil, List.sum_cons, List.sum_nil, cat_int, cat_long, cat_ref, cat_null, Option.toList_some, Option.toList_none, F1_eq _ _ _ q1 q2 q3, F3_n _ _ (v2 &&& 2147483647) hq]
      refine t0_83 hgo ?_
      refine t0_85t hgo rfl ?_
      refine t0_88 hgo ?_
      refine t0_89 hgo ?_
      refine t0_93 hgo ?_
      exact one_b
  · have q6 : mn + 0 = mn := Int32.add_zero mn
    refine t0_29 hgo ?_
    refine t0_30 hgo ?_
    refine t0_31 hgo ?_
    refine t0_32f hgo hf ?_
    refine t0_35 hgo ?_
    refine t0_36 hgo rfl ?_
    refine t0_38 hgo ?_
    refine t0_40 hgo ?_
    refine t0_42 hgo ?_
    refine t0_43 hgo rfl ?_
    refine t0_45 hgo ?_
    refine t0_46 hgo ?_
    refine t0_48 hgo ?_
    refine t0_49 hgo rfl ?_
    rw [q6]
    refine res_of (u0_51 hgo) ?_
    simp only [eq_self, and_self, true_and, and_true, not_true_eq_false, not_false_eq_true, if_true, if_false, reduceIte, Option.bind_some, List.getElem?_cons_zero, List.getElem?_cons_succ, Nat.reduceAdd, Nat.reduceSub, Nat.reduceLT, Nat.reduceLeDiff, Nat.le_refl, Nat.zero_add, Nat.add_zero, List.length_cons, List.length_nil, Int32.reduceLT, Int32.reduceToNatClampNeg, Int32.reduceAdd, Int32.reduceSub, Int32.reduceMul, decide_true, aNew, List.nil_append, List.cons_append, F1_eq _ _ _ q1 q2' q3, F3_y mn mn (v2 &&& 2147483647) rfl]
    refine t0_54 hgo rfl ?_
    refine t0_55 hgo ?_
    refine t0_57 hgo ?_
    refine t0_59 hgo ?_
    refine res_of (u0_61 hgo) ?_
    simp only [eq_self, and_self, true_and, and_true, not_true_eq_false, not_false_eq_true, if_true, if_false, reduceIte, Option.bind_some, List.getElem?_cons_zero, List.getElem?_cons_succ, Nat.reduceAdd, Nat.reduceSub, Nat.reduceLT, Nat.reduceLeDiff, Nat.le_refl, Nat.zero_add, Nat.add_zero, List.length_cons, List.length_nil, Int32.reduceLT, Int32.reduceToNatClampNeg, Int32.reduceAdd, Int32.reduceSub, Int32.reduceMul, decide_true, aCall, aRecv, aObj, obj, List.take_succ_cons, List.take_zero, List.drop_succ_cons, List.drop_zero, List.reverse_cons, List.reverse_nil, List.nil_append, List.cons_append, List.append_nil, List.map_cons, List.map_nil, List.sum_cons, List.sum_nil, cat_int, cat_long, cat_ref, cat_null, Option.toList_some, Option.toList_none, F1_eq _ _ _ q1 q2' q3, F3_y mn mn (v2 &&& 2147483647) rfl]
    refine t0_64 hgo rfl rfl ?_
    refine t0_66 hgo ?_
    refine t0_68t hgo rfl ?_
    refine t0_71 hgo ?_
    refine t0_72 hgo ?_
    refine t0_76 hgo rfl ?_
    refine t0_78 hgo rfl ?_
    refine res_of (u0_80 hgo) ?_
    simp only [eq_self, and_self, true_and, and_true, not_true_eq_false, not_false_eq_true, if_true, if_false, reduceIte, Option.bind_some, List.getElem?_cons_zero, List.getElem?_cons_succ, Nat.reduceAdd, Nat.reduceSub, Nat.reduceLT, Nat.reduceLeDiff, Nat.le_refl, Nat.zero_add, Nat.add_zero, List.length_cons, List.length_nil, Int32.reduceLT, Int32.reduceToNatClampNeg, Int32.reduceAdd, Int32.reduceSub, Int32.reduceMul, decide_true, aCall, aRecv, aObj, obj, List.take_succ_cons, List.take_zero, List.drop_succ_cons, List.drop_zero, List.reverse_cons, List.reverse_nil, List.nil_append, List.cons_append, List.append_nil, List.map_cons, List.map_nil, List.sum_cons, List.sum_nil, cat_int, cat_long, cat_ref, cat_null, Option.toList_some, Option.toList_none, F1_eq _ _ _ q1 q2' q3, F3_y mn mn (v2 &&& 2147483647) rfl]
    refine t0_83 hgo ?_
    refine t0_85t hgo rfl ?_
    refine t0_88 hgo ?_
    refine t0_89 hgo ?_
    refine t0_93 hgo ?_
    exact one_b
set_option maxRecDepth 65536 in
set_option maxHeartbeats 40000000 in
theorem comes_1 {Post : Tables → Env → Array Value → State → Outcome → State → Prop} (hpost : ∀ tb e args s v u, (limb_1_1.after args s (.returned v) u = true ∧ limb_1_2.after args s (.returned v) u = true ∧ True) → FrameEnd s (.returned v) u (Jvm.fieldLocs frame_1_writes args s ++ Jvm.arrayLocs frame_1_arrays args s ++ Jvm.staticLocs frame_1_statics s) 16 128 → Post tb e args s (.returned v) u) :
    ArmFor flags0 classFile x code maxLocals ret World_1 tables_1 room_1 Calls_1 rest_1 Pre_1 Post := by
  intro l hfl _ _ p e ha hc hk s m args below hf hA hF happ hP
  obtain ⟨hcalls, hrest, hpre⟩ := hP
  obtain ⟨-, -, -, hnamed, -, -, -, hat⟩ := (Spec.applies_iff hf).mp happ
  obtain ⟨hg, hn⟩ := and_e (Cond.before_iff.mp (show (Jvm.Cond.and given_1 narrow_1).before args s = true from hpre))
  obtain ⟨g0, g1⟩ := and_e hg
  obtain ⟨i1, g2⟩ := and_e g1
  obtain ⟨i2, g3⟩ := and_e g2
  obtain ⟨i3, g4⟩ := and_e g3
  obtain ⟨w0, w1, w2, w3, rfl⟩ : ∃ w0 w1 w2 w3 : Value, args = #[w0, w1, w2, w3] := by
    have hs : args.size = 4 := by simpa [Cond.value, given_1] using g0
    obtain ⟨L⟩ := args
    match L, hs with
    | [w0, w1, w2, w3], _ => exact ⟨w0, w1, w2, w3, rfl⟩
  have hw := fun d (hd : d ∈ tables_1) => atoms_spec (ws := Jvm.Cond.code x code maxLocals ret :: tables_1) hat d (List.mem_cons_of_mem _ hd)
  obtain ⟨v0, e0⟩ := is_v i1
  obtain rfl : w0 = (.int v0) := Option.some.inj e0
  obtain ⟨v1, e1⟩ := is_v i2
  obtain rfl : w1 = (.int v1) := Option.some.inj e1
  obtain ⟨v2, e2⟩ := is_v i3
  obtain rfl : w2 = (.int v2) := Option.some.inj e2
  obtain ⟨v3, e3⟩ := is_v g4
  obtain rfl : w3 = (.int v3) := Option.some.inj e3
  obtain ⟨H', hv⟩ := law_val v0 v1 v2 v3
  obtain ⟨n, o, h1, h2, h3, _, L, rfl, ⟨rfl, -, N⟩, hq⟩ := says0 l (Z := s) (σ := fun k => s.heap.size + k) (n0 := s.heap.size) sg_start hw _ _ _ s.heap hv rep_start p e ha hc hk s m _ below hf ((Spec.applies_iff_loose hf).mp happ).1 ⟨rfl, State.Warmed39.refl s, rfl⟩ trivial
  refine ⟨n, _, h1, h2, h3, hpost _ _ _ _ _ _ ⟨Cond.after_iff.mpr rfl, Cond.after_iff.mpr (eq_i res_at (Term.int_eval (1)) rfl), trivial⟩ ⟨hq.1, hq.2.1, (hq.2.2.sift fun y hy => Or.inr (N y hy)).mono (by decide) (by decide)⟩⟩
theorem main_1_1 : Claimed_1_1 := comes_1 fun _ _ _ _ _ _ h hF => ⟨h.1, hF⟩
theorem main_1_2 : Claimed_1_2 := comes_1 fun _ _ _ _ _ _ h hF => ⟨h.2.1, hF⟩
end Jvm.Pilot.@@N@@
namespace Jvm.Pilot.@@N@@
open Jvm Jvm.ClassFile Sem Op Lib Jvm.Free Jvm.Stand Jvm.Pilot.@@N@@.Jvm.D
/-! MADE BY PROGRAM (witnessworld.py) out of the Statement's table words and the real class files: 10 classes; the members and pool entries that the words name. The judged class is class 1, her method 1. -/
namespace start1
open Jvm.ClassFile
def u (s : String) : CpInfo := .utf8 (stringToUtf16 s)
/-- a pool by its gaps: so many unusable entries, then the entry; so many at the end -/
def gap : Nat → List CpInfo → List CpInfo
  | 0, r => r
  | n + 1, r => .unusable :: gap n r
def poolList (es : List (Nat × CpInfo)) (last : Nat) : List CpInfo := es.foldr (fun e r => gap e.1 (e.2 :: r)) (gap last [])
def pool (es : List (Nat × CpInfo)) (last : Nat) : Array CpInfo := ⟨poolList es last⟩
def fileOf (pool : Array CpInfo) (this : Nat) (attrs : Array Attribute := #[]) (ms : Array MethodInfo := #[]) (fl : Nat := 33) (sup : Nat := 0) (ifs : Array Nat := #[]) (fds : Array FieldInfo := #[]) : ClassFile where
  minorVersion := 0
  majorVersion := 65
  constantPool := pool
  accessFlags := fl
  thisClass := this
  superClass := sup
  interfaces := ifs
  fields := fds
  methods := ms
  attributes := attrs
def plain (name : String) (sup : Option ClassId) : Class where
  name := name
  kind := .ordinary
  loader := none
  accessFlags := 33
  super := sup
  interfaces := #[]
  cf := none
  fields := #[]
  methods := #[]
  instanceTypes := #[]
  staticTypes := #[]
  resolved := #[]
  callSites := []
  init := .initialized
  statics := none
  mirror := none

def pool0 : Array CpInfo := pool [(5, u "<init>"), (0, u "()V"), (1, .class_ 10), (1, u "java/lang/Object")] 113

def k0c0 : Code := { maxStack := 0, maxLocals := 1, code := object_method_1_code, exceptionTable := #[], attributes := #[] }
def k0m0 : Method := { name := "<init>", desc := "()V", sig := { parameters := [], returnType := none }, accessFlags := 1, code := some k0c0 }
/-- java/lang/Object -/
def k0 : Class := { plain "java/lang/Object" none with
  accessFlags := 33
  interfaces := #[]
  cf := some (fileOf pool0 8 #[] #[{ accessFlags := 1, nameIndex := 5, descriptorIndex := 6, attributes := #[] }] 33 0 #[] #[])
  fields := #[]
  methods := #[k0m0]
  instanceTypes := #[]
  staticTypes := #[]
  resolved := Array.replicate 124 none
  statics := none }

def pool1 : Array CpInfo := pool [(2, .class_ 4), (1, u "java/lang/Object"), (0, u "<init>"), (0, u "()V"), (0, .integer 2147483647), (0, .class_ 9), (0, u "com/example/polyscribe/polyscribe/model/Repeat"), (0, .methodref 8 11), (0, .nameAndType 5 12), (0, u "(III)V"), (0, .methodref 8 14), (0, .nameAndType 15 16), (0, u "isFixed"), (0, u "()Z"), (0, .class_ 18), (0, u "com/example/polyscribe/polyscribe/model/RepeatIsFixedPinLaw"), (2, u "law"), (0, u "(IIII)Z")] 3

def k1m0 : Method := { name := "<init>", desc := "()V", sig := { parameters := [], returnType := none }, accessFlags := 1, code := none }
def k1c1 : Code := { maxStack := 5, maxLocals := 11, code := code, exceptionTable := #[], attributes := #[] }
def k1m1 : Method := { name := "law", desc := "(IIII)Z", sig := { parameters := [.int, .int, .int, .int], returnType := some .boolean }, accessFlags := 9, code := some k1c1 }
/-- com/example/polyscribe/polyscribe/model/RepeatIsFixedPinLaw -/
def k1 : Class := { plain "com/example/polyscribe/polyscribe/model/RepeatIsFixedPinLaw" (some 0) with
  accessFlags := 49
  interfaces := #[]
  cf := some (fileOf pool1 17 #[] #[{ accessFlags := 1, nameIndex := 5, descriptorIndex := 6, attributes := #[] }, { accessFlags := 9, nameIndex := 21, descriptorIndex := 22, attributes := #[] }] 49 2 #[] #[])
  fields := #[]
  methods := #[k1m0, k1m1]
  instanceTypes := #[]
  staticTypes := #[]
  resolved := Array.replicate 26 none
  statics := none }

def pool2 : Array CpInfo := pool [(1, .methodref 2 3), (0, .class_ 4), (0, .nameAndType 5 6), (0, u "java/lang/Object"), (0, u "<init>"), (0, u "()V"), (0, .class_ 8), (0, u "java/lang/Record")] 13

def k2c0 : Code := { maxStack := 1, maxLocals := 1, code := jdk_30_method_1_code, exceptionTable := #[], attributes := #[] }
def k2m0 : Method := { name := "<init>", desc := "()V", sig := { parameters := [], returnType := none }, accessFlags := 4, code := some k2c0 }
/-- java/lang/Record -/
def k2 : Class := { plain "java/lang/Record" (some 0) with
  accessFlags := 1057
  interfaces := #[]
  cf := some (fileOf pool2 7 #[] #[{ accessFlags := 4, nameIndex := 5, descriptorIndex := 6, attributes := #[] }] 1057 2 #[] #[])
  fields := #[]
  methods := #[k2m0]
  instanceTypes := #[]
  staticTypes := #[]
  resolved := Array.replicate 22 none
  statics := none }

def pool3 : Array CpInfo := pool [(1, .methodref 2 3), (0, .class_ 4), (0, .nameAndType 5 6), (0, u "java/lang/Record"), (0, u "<init>"), (0, u "()V"), (7, .fieldref 15 16), (0, .class_ 17), (0, .nameAndType 18 19), (0, u "com/example/polyscribe/polyscribe/model/Repeat"), (0, u "min"), (0, u "I"), (0, .fieldref 15 21), (0, .nameAndType 22 19), (0, u "max"), (0, .fieldref 15 24), (0, .nameAndType 25 19), (0, u "offset"), (12, u "(III)V"), (4, u "isFixed"), (0, u "()Z")] 25

def k3c0 : Code := { maxStack := 3, maxLocals := 4, code := prog_67_method_1_code, exceptionTable := #[], attributes := #[] }
def k3m0 : Method := { name := "<init>", desc := "(III)V", sig := { parameters := [.int, .int, .int], returnType := none }, accessFlags := 1, code := some k3c0 }
def k3c1 : Code := { maxStack := 2, maxLocals := 1, code := prog_67_method_2_code, exceptionTable := #[], attributes := #[] }
def k3m1 : Method := { name := "isFixed", desc := "()Z", sig := { parameters := [], returnType := some .boolean }, accessFlags := 1, code := some k3c1 }
/-- com/example/polyscribe/polyscribe/model/Repeat -/
def k3 : Class := { plain "com/example/polyscribe/polyscribe/model/Repeat" (some 2) with
  accessFlags := 49
  interfaces := #[]
  cf := some (fileOf pool3 15 #[] #[{ accessFlags := 1, nameIndex := 5, descriptorIndex := 38, attributes := #[] }, { accessFlags := 1, nameIndex := 43, descriptorIndex := 44, attributes := #[] }] 49 2 #[] #[{ accessFlags := 18, nameIndex := 18, descriptorIndex := 19, attributes := #[] }, { accessFlags := 18, nameIndex := 22, descriptorIndex := 19, attributes := #[] }, { accessFlags := 18, nameIndex := 25, descriptorIndex := 19, attributes := #[] }])
  fields := #[{ name := "min", type := .int, accessFlags := 18, slot := 0, constantValue := 0 }, { name := "max", type := .int, accessFlags := 18, slot := 1, constantValue := 0 }, { name := "offset", type := .int, accessFlags := 18, slot := 2, constantValue := 0 }]
  methods := #[k3m0, k3m1]
  instanceTypes := #[.int, .int, .int]
  staticTypes := #[]
  resolved := Array.replicate 70 none
  statics := none }

def pool4 : Array CpInfo := pool [(1, u "java/lang/Cloneable"), (0, .class_ 1), (0, u "java/lang/Object"), (0, .class_ 3)] 3

/-- java/lang/Cloneable -/
def k4 : Class := { plain "java/lang/Cloneable" (some 0) with
  accessFlags := 1537
  interfaces := #[]
  cf := some (fileOf pool4 2 #[] #[] 1537 4 #[] #[])
  fields := #[]
  methods := #[]
  instanceTypes := #[]
  staticTypes := #[]
  resolved := Array.replicate 8 none
  statics := none }

def pool5 : Array CpInfo := pool [(1, u "java/io/Serializable"), (0, .class_ 1), (0, u "java/lang/Object"), (0, .class_ 3)] 3

/-- java/io/Serializable -/
def k5 : Class := { plain "java/io/Serializable" (some 0) with
  accessFlags := 1537
  interfaces := #[]
  cf := some (fileOf pool5 2 #[] #[] 1537 4 #[] #[])
  fields := #[]
  methods := #[]
  instanceTypes := #[]
  staticTypes := #[]
  resolved := Array.replicate 8 none
  statics := none }

/-- the primitive byte -/
def k6 : Class := { plain "byte" none with kind := .primitive 'B', accessFlags := 0x411 }
/-- [B -/
def k7 : Class := { plain "[B" (some 0) with kind := .array 6 .byte, interfaces := #[4, 5], accessFlags := 1041 }

/-- the primitive int -/
def k8 : Class := { plain "int" none with kind := .primitive 'I', accessFlags := 0x411 }
/-- [I -/
def k9 : Class := { plain "[I" (some 0) with kind := .array 8 .int, interfaces := #[4, 5], accessFlags := 1041 }

def heap : Heap := #[]
def classes : Array Class := #[k0, k1, k2, k3, k4, k5, k6, k7, k8, k9]
def interned : List (Array UInt16 × Addr) := []
def slotsUsed : Nat := 0
def theMethod : MethodId := ⟨1, 1⟩
def args0 : Array Value := #[.int 5, .int 3, .int 2, .int 1]
def aboutOver (below : List Frame) : State where
  vm := { classes := classes, interned := interned.toArray }
  heap := heap
  slotsUsed := slotsUsed
  threads := #[{ frames := .invoking theMethod args0 :: below }]
def below0 : List Frame := [.native { method := ⟨0, 0⟩, args := #[] }]
def about1 : State := aboutOver below0
def p0 : Program := .bare "" "" ""
def e0 : Env := launch0.env 0 0 0
theorem w_frames : about1.frames = Frame.invoking theMethod args0 :: below0 := rfl
set_option maxRecDepth 65536 in
theorem w_args : argsFit about1.vm theMethod args0 = true := by decide +kernel
set_option maxRecDepth 65536 in
theorem w_heap : heapFits about1 = true := by decide +kernel
set_option maxRecDepth 65536 in
theorem w_runnable : about1.curStatus? = some .runnable := by decide +kernel
set_option maxRecDepth 65536 in
theorem w_alone : about1.alone = true := by decide +kernel
set_option maxRecDepth 65536 in
theorem w_named : about1.methodNamed? x = some theMethod := by decide +kernel
set_option maxRecDepth 65536 in
theorem w_hears : about1.hears theMethod below0 = true := by decide +kernel
set_option maxRecDepth 65536 in
theorem w_ripe : about1.ripe theMethod args0 below0 = true := by decide +kernel
theorem w_running : about1.status = .running := rfl
set_option maxRecDepth 65536 in
theorem w_room : about1.hasRoom e0.platform room_1 = true :=
  launch0.hasRoom_least _ room_1 (by decide +kernel) (by decide +kernel) (by decide +kernel) (by decide +kernel) (by decide +kernel) (by decide +kernel)
theorem allAtoms_all (ts : List Jvm.Cond) (a : Array Jvm.Value) (st : Jvm.State) : (allAtoms ts).before a st = ts.all (fun c => c.before a st) := by
  induction ts with
  | nil => rfl
  | cons c t ih =>
    show (Jvm.Cond.and c (allAtoms t)).before a st = _
    rw [Jvm.Cond.before_and, ih, List.all_cons]
def words1 : List Jvm.Cond := Jvm.Cond.code x code maxLocals ret :: tables_1
/-- a 'code' word, met by the world's own term for the bytes: nothing is compared byte by byte -/
theorem code_word {y : MethodName} {bytes : ByteArray} {mx : Nat} {rt : Option FieldType} {a : Array Value} {s : State} {m : MethodId} {meth : Method} {c : Code} (h1 : s.methodNamed? y = some m) (h2 : s.vm.method? m = some meth) (h3 : meth.code = some c) (h4 : c.code = bytes)
    (h5 : (c.maxLocals == mx && c.exceptionTable.isEmpty && decide (c.maxStack ≤ mostOperands) && decide (meth.sig.returnType = rt) && !meth.locks && decide (parseMethodDescriptor y.desc = some meth.sig)) = true) : (Jvm.Cond.code y bytes mx rt).before a s = true := by
  simp only [Bool.and_eq_true, beq_iff_eq, Bool.not_eq_true', decide_eq_true_eq] at h5
  obtain ⟨⟨⟨⟨⟨g1, g2⟩, g3⟩, g4⟩, g5⟩, g6⟩ := h5
  simp [Cond.before, Cond.holds, Cond.value, h1, h2, h3, h4, g1, g2, g3, g4, g5, g6]
def isCode : Jvm.Cond → Bool
  | .code _ _ _ _ => true
  | _ => false
theorem all_split {L : List Jvm.Cond} {P : Jvm.Cond → Bool} (h1 : L.all (fun c => isCode c || P c) = true) (h2 : ∀ c ∈ L.filter isCode, P c = true) : L.all P = true := by
  refine List.all_eq_true.mpr fun c hc => ?_
  have h := List.all_eq_true.mp h1 c hc
  rcases Bool.eq_false_or_eq_true (isCode c) with hi | hi
  · exact h2 c (List.mem_filter.mpr ⟨hc, hi⟩)
  · simpa [hi] using h
set_option maxRecDepth 65536 in
theorem w_c0 : (Jvm.Cond.code x code maxLocals ret).before args0 about1 = true := code_word (m := ⟨1, 1⟩) (meth := k1m1) (c := k1c1) (by decide +kernel) rfl rfl rfl (by decide +kernel)
set_option maxRecDepth 65536 in
theorem w_c1 : (Jvm.Cond.code ({ cls := "com/example/polyscribe/polyscribe/model/Repeat", name := "<init>", desc := "(III)V" } : Jvm.MethodName) prog_67_method_1_code (4 : Nat) (Option.none : Option Jvm.ClassFile.FieldType)).before args0 about1 = true := code_word (m := ⟨3, 0⟩) (meth := k3m0) (c := k3c0) (by decide +kernel) rfl rfl rfl (by decide +kernel)
set_option maxRecDepth 65536 in
theorem w_c2 : (Jvm.Cond.code ({ cls := "java/lang/Record", name := "<init>", desc := "()V" } : Jvm.MethodName) jdk_30_method_1_code (1 : Nat) (Option.none : Option Jvm.ClassFile.FieldType)).before args0 about1 = true := code_word (m := ⟨2, 0⟩) (meth := k2m0) (c := k2c0) (by decide +kernel) rfl rfl rfl (by decide +kernel)
set_option maxRecDepth 65536 in
theorem w_c3 : (Jvm.Cond.code ({ cls := "java/lang/Object", name := "<init>", desc := "()V" } : Jvm.MethodName) object_method_1_code (1 : Nat) (Option.none : Option Jvm.ClassFile.FieldType)).before args0 about1 = true := code_word (m := ⟨0, 0⟩) (meth := k0m0) (c := k0c0) (by decide +kernel) rfl rfl rfl (by decide +kernel)
set_option maxRecDepth 65536 in
theorem w_c4 : (Jvm.Cond.code ({ cls := "com/example/polyscribe/polyscribe/model/Repeat", name := "isFixed", desc := "()Z" } : Jvm.MethodName) prog_67_method_2_code (1 : Nat) (Option.some Jvm.ClassFile.FieldType.boolean)).before args0 about1 = true := code_word (m := ⟨3, 1⟩) (meth := k3m1) (c := k3c1) (by decide +kernel) rfl rfl rfl (by decide +kernel)
def codes1 : List Jvm.Cond := [Jvm.Cond.code x code maxLocals ret, Jvm.Cond.code ({ cls := "com/example/polyscribe/polyscribe/model/Repeat", name := "<init>", desc := "(III)V" } : Jvm.MethodName) prog_67_method_1_code (4 : Nat) (Option.none : Option Jvm.ClassFile.FieldType), Jvm.Cond.code ({ cls := "java/lang/Record", name := "<init>", desc := "()V" } : Jvm.MethodName) jdk_30_method_1_code (1 : Nat) (Option.none : Option Jvm.ClassFile.FieldType), Jvm.Cond.code ({ cls := "java/lang/Object", name := "<init>", desc := "()V" } : Jvm.MethodName) object_method_1_code (1 : Nat) (Option.none : Option Jvm.ClassFile.FieldType), Jvm.Cond.code ({ cls := "com/example/polyscribe/polyscribe/model/Repeat", name := "isFixed", desc := "()Z" } : Jvm.MethodName) prog_67_method_2_code (1 : Nat) (Option.some Jvm.ClassFile.FieldType.boolean)]
set_option maxRecDepth 65536 in
theorem codes_eq : words1.filter isCode = codes1 := rfl
theorem w_codes : ∀ c ∈ words1.filter isCode, c.before args0 about1 = true := by
  rw [codes_eq]
  intro c hc
  simp only [codes1, List.mem_cons, List.not_mem_nil, or_false] at hc
  rcases hc with rfl | rfl | rfl | rfl | rfl
  · exact w_c0
  · exact w_c1
  · exact w_c2
  · exact w_c3
  · exact w_c4
set_option maxRecDepth 65536 in
theorem w_t1 : (words1.take 24).all (fun c => isCode c || c.before args0 about1) = true := by decide +kernel
set_option maxRecDepth 65536 in
theorem w_t2 : (words1.drop 24).all (fun c => isCode c || c.before args0 about1) = true := by decide +kernel
theorem w_tables : (allAtoms (Jvm.Cond.code x code maxLocals ret :: tables_1)).before args0 about1 = true := by
  rw [allAtoms_all]
  show words1.all (fun c => c.before args0 about1) = true
  refine all_split ?_ w_codes
  rw [← List.take_append_drop 24 words1, List.all_append, w_t1, w_t2]
  rfl
set_option maxRecDepth 65536 in
theorem w_case : (Jvm.Cond.and given_1 narrow_1).before args0 about1 = true := by decide +kernel
theorem w_applies : (headSpec (Jvm.Cond.code x code maxLocals ret :: tables_1) room_1).applies x e0.platform about1 = true :=
  (Spec.applies_iff w_frames).mpr ⟨w_running, w_runnable, w_alone, w_named, w_hears, w_ripe, w_room, w_tables⟩
theorem atStart : AtStart classFile x code maxLocals ret World_1 tables_1 room_1 Calls_1 rest_1 Pre_1 launch0 p0 e0 about1 theMethod args0 below0 :=
  ⟨lists_1, trivial, launch0.admits_env _ _ _, launch0.least_env, fairChoices_fair.cas, fairChoices_fair.clock, w_frames, w_args, w_heap, w_applies, trivial, trivial, w_case⟩
end start1
theorem witness_1 : WitnessClaimed_1 := ⟨start1.p0, start1.e0, start1.about1, start1.theMethod, start1.args0, start1.below0, start1.atStart⟩
end Jvm.Pilot.@@N@@
