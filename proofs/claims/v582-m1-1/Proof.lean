import JvmDerived
import JvmDerived.Pilot.@@N@@Statement
import JvmDerived.Pilot.@@N@@Code
set_option linter.unusedVariables false
set_option linter.unusedSimpArgs false
@@BLOCK:NumsL.lean.txt@@
namespace Jvm.RoadKit
open Sem ClassFile Op Lib Jvm.Stand Jvm.Free Jvm.LawKit
section New
variable {p : Program} {l : Launch} {e : Env} {R : Room} {s : State} {m : MethodId} {args : Array Value} {below : List Frame} {meth : Method} {c : Code} {T : State} {locs : List Loc} {cells slots : Nat}
theorem retI (X : Stand p l e R s m args below meth c T locs cells slots) (hx : p.tables.exec = Jvm.exec) {pc : Nat} {Ls : Array Slot} {z : Int32} {rest : List Value} (hret : meth.sig.returnType = some .int) (hd : decode c.code pc = .ok (.ireturn, 1)) {fs : List Frame}
    (hl : ∀ (f : JFrame) (acts : List Action), f.method = m → f.locked = none → f.entered = [] → (doReturn e (T.setTop f) acts (some (.int z))).1 = T.setFrames fs) : Steps p.tables e below (T.setTop (mkF m pc Ls (.int z :: rest))) (T.setFrames fs) := by
  have hm' : T.vm.method? m = some meth := X.method'
  have hn : narrow .int (.int z) = .int z := rfl
  show Steps p.tables e below (T.setTop { method := m, pc := pc, locals := Ls, stack := _ :: rest, locked := none }) _
  jvm_step X.here [X.here.top, hx, hd, hm', hret, hn]
  first | (intro acts; rw [hl _ acts rfl rfl rfl]) | rw [hl _ _ rfl rfl rfl]
  exact Steps.refl _
end New
end Jvm.RoadKit
/-! OwnRun: plain steps by evaluation. 'wpo' runs the plain instructions (loads, stores of locals, arithmetic, branches) of a body as a word on what it reaches; 'runo' says that the machine follows. -/
namespace Jvm.OwnRun
open Sem ClassFile Op Lib Jvm.Stand Jvm.Free Jvm.LawKit Jvm.RoadKit
def lget : List Slot → Nat → Option Slot
  | [], _ => none
  | a :: _, 0 => some a
  | _ :: t, n + 1 => lget t n
def lput : List Slot → Nat → Slot → List Slot
  | [], _, _ => []
  | _ :: t, 0, v => v :: t
  | a :: t, n + 1, v => a :: lput t n v
theorem lget_z (a : Slot) (t : List Slot) : lget (a :: t) 0 = some a := rfl
theorem lget_s (a : Slot) (t : List Slot) (n : Nat) : lget (a :: t) (n + 1) = lget t n := rfl
theorem lput_z (a : Slot) (t : List Slot) (v : Slot) : lput (a :: t) 0 v = v :: t := rfl
theorem lput_s (a : Slot) (t : List Slot) (n : Nat) (v : Slot) : lput (a :: t) (n + 1) v = a :: lput t n v := rfl
theorem lget_eq : ∀ (L : List Slot) (k : Nat), lget L k = L[k]?
  | [], _ => by simp [lget]
  | _ :: _, 0 => rfl
  | a :: t, n + 1 => by rw [lget_s, lget_eq t n, List.getElem?_cons_succ]
theorem lput_eq : ∀ (L : List Slot) (k : Nat) (v : Slot), lput L k v = L.set k v
  | [], _, _ => by simp [lput]
  | _ :: _, 0, _ => rfl
  | a :: t, n + 1, v => by rw [lput_s, lput_eq t n v, List.set_cons_succ]
theorem arr_get {L : List Slot} {k : Nat} {o : Slot} (h : lget L k = some o) : L.toArray[k]? = some o := by
  rw [lget_eq] at h; simpa using h
theorem arr_put (L : List Slot) (k : Nat) (v : Slot) : L.toArray.setIfInBounds k v = (lput L k v).toArray := by
  rw [lput_eq]; simp
/-- a store of one word, over nothing or over one word -/
def one : Option Slot → Bool
  | some .unset => true
  | some (.val (.int _)) => true
  | some (.val (.ref _)) => true
  | some (.val .null) => true
  | _ => false
def st1 (L : List Slot) (k : Nat) (v : Value) (F : List Slot → α) (d : α) : α := bif one (lget L k) then F (lput L k (.val v)) else d
/-- a store of two words, over nothing or over a long -/
def two : Option Slot → Option Slot → Bool
  | some .unset, some .unset => true
  | some (.val (.long _)), some .second => true
  | _, _ => false
def st2 (L : List Slot) (k : Nat) (v : Int64) (F : List Slot → α) (d : α) : α := bif two (lget L k) (lget L (k + 1)) then F (lput (lput L k (.val (.long v))) (k + 1) .second) else d
theorem one_unset : one (some .unset) = true := rfl
theorem one_int (v : Int32) : one (some (.val (.int v))) = true := rfl
theorem one_ref (v : Addr) : one (some (.val (.ref v))) = true := rfl
theorem two_unset : two (some .unset) (some .unset) = true := rfl
theorem two_long (v : Int64) : two (some (.val (.long v))) (some .second) = true := rfl
theorem one_e {o : Option Slot} (h : one o = true) : ∃ w, o = some w ∧ (w = .unset ∨ ∃ v, w = .val v ∧ v.category = 1) := by
  match o, h with
  | some .unset, _ => exact ⟨_, rfl, Or.inl rfl⟩
  | some (.val (.int v)), _ => exact ⟨_, rfl, Or.inr ⟨_, rfl, rfl⟩⟩
  | some (.val (.ref v)), _ => exact ⟨_, rfl, Or.inr ⟨_, rfl, rfl⟩⟩
  | some (.val .null), _ => exact ⟨_, rfl, Or.inr ⟨_, rfl, rfl⟩⟩
theorem store_one {L : List Slot} {k : Nat} {v : Value} (h : one (lget L k) = true) (hv : v.category = 1) : storeLocals L.toArray k v = some (lput L k (.val v)).toArray := by
  obtain ⟨w, hw, ho⟩ := one_e h
  rw [XS.store1 (arr_get hw) ho hv, arr_put]
theorem store_two {L : List Slot} {k : Nat} {v : Int64} (h : two (lget L k) (lget L (k + 1)) = true) : storeLocals L.toArray k (.long v) = some (lput (lput L k (.val (.long v))) (k + 1) .second).toArray := by
  match h0 : lget L k, h1 : lget L (k + 1), h with
  | some .unset, some .unset, _ => rw [Fl.storeLocals_cat2 (arr_get h0) (arr_get h1) rfl (Or.inl ⟨trivial, trivial⟩), arr_put, arr_put]
  | some (.val (.long w)), some .second, _ => rw [Fl.storeLocals_cat2 (arr_get h0) (arr_get h1) rfl (Or.inr ⟨⟨_, rfl, rfl⟩, rfl⟩), arr_put, arr_put]
/-- Java's x >>> y on ints and longs -/
def oushr (x y : Int32) : Int32 := (x.toUInt32 >>> (y &&& 31).toUInt32).toInt32
def oushrL (x : Int64) (y : Int32) : Int64 := (x.toUInt64 >>> (y &&& 0x3f).toInt64.toUInt64).toInt64
def oshlL (x : Int64) (y : Int32) : Int64 := x <<< (y &&& 0x3f).toInt64
def oshl (x y : Int32) : Int32 := x <<< (y &&& 31)
def oshr (x y : Int32) : Int32 := x >>> (y &&& 31)
/-- what a comparison asks -/
def cnd : ClassFile.Cond → Int32 → Int32 → Prop
  | .eq, x, y => x = y
  | .ne, x, y => ¬ x = y
  | .lt, x, y => x < y
  | .ge, x, y => ¬ x < y
  | .gt, x, y => y < x
  | .le, x, y => ¬ y < x
def cndL : ClassFile.Cond → Int64 → Int64 → Prop
  | .eq, x, y => x = y
  | .ne, x, y => ¬ x = y
  | .lt, x, y => x < y
  | .ge, x, y => ¬ x < y
  | .gt, x, y => y < x
  | .le, x, y => ¬ y < x
theorem cnd_t {cd : ClassFile.Cond} {x y : Int32} (h : cnd cd x y) : if_icmp.holds cd x y = true := by
  cases cd
  · exact (teq h).1
  · exact (feq h).2
  · exact (tlt h).1
  · exact (flt h).2.1
  · exact (tlt h).2.2.1
  · exact (flt h).2.2.2
theorem cnd_f {cd : ClassFile.Cond} {x y : Int32} (h : ¬ cnd cd x y) : if_icmp.holds cd x y = false := by
  cases cd
  · exact (feq h).1
  · exact (teq (Decidable.of_not_not h)).2
  · exact (flt h).1
  · exact (tlt (Decidable.of_not_not h)).2.1
  · exact (flt h).2.2.1
  · exact (tlt (Decidable.of_not_not h)).2.2.2
theorem cndL_t {cd : ClassFile.Cond} {x y : Int64} (h : cndL cd x y) : ifCond.holds cd (XT.cmpL x y) = true := by
  cases cd
  · exact XT.ll_eq_t h
  · exact XT.ll_ne_t h
  · exact XT.ll_lt_t h
  · exact XT.ll_ge_t h
  · exact XT.ll_gt_t h
  · exact XT.ll_le_t h
theorem cndL_f {cd : ClassFile.Cond} {x y : Int64} (h : ¬ cndL cd x y) : ifCond.holds cd (XT.cmpL x y) = false := by
  cases cd
  · exact XT.ll_eq_f h
  · exact XT.ll_ne_f (Decidable.of_not_not h)
  · exact XT.ll_lt_f h
  · exact XT.ll_ge_f (Decidable.of_not_not h)
  · exact XT.ll_gt_f h
  · exact XT.ll_le_f (Decidable.of_not_not h)
/-- where one step leads: on, under a condition; or two ways -/
abbrev Rs := Option (Sum (Prop × Nat × List Slot × List Value) (Prop × Nat × Nat × List Slot × List Value))
def go (pc : Nat) (L : List Slot) (st : List Value) : Rs := some (.inl (True, pc, L, st))
def goIf (ob : Prop) (pc : Nat) (L : List Slot) (st : List Value) : Rs := some (.inl (ob, pc, L, st))
def fork (c : Prop) (a b : Nat) (L : List Slot) (st : List Value) : Rs := some (.inr (c, a, b, L, st))
def chk (a b : Nat) (r : Rs) : Rs := bif a == b then r else none
def tgt (pc : Nat) (o : Int) : Nat := ((pc : Int) + o).toNat
def okO (pc : Nat) (o : Int) (r : Rs) : Rs := if 0 ≤ (pc : Int) + o then r else none
def gI (o : Option Slot) (F : Int32 → Rs) : Rs := match o with | some (.val (.int v)) => F v | _ => none
def gJ (o : Option Slot) (F : Int64 → Rs) : Rs := match o with | some (.val (.long v)) => F v | _ => none
def gA (o : Option Slot) (F : Value → Rs) : Rs := match o with | some (.val (.ref v)) => F (.ref v) | some (.val .null) => F .null | _ => none
def pI (st : List Value) (F : Int32 → List Value → Rs) : Rs := match st with | .int x :: r => F x r | _ => none
def pJ (st : List Value) (F : Int64 → List Value → Rs) : Rs := match st with | .long x :: r => F x r | _ => none
def pA (st : List Value) (F : Value → List Value → Rs) : Rs := match st with | .ref x :: r => F (.ref x) r | .null :: r => F .null r | _ => none
def p1 (st : List Value) (F : Value → List Value → Rs) : Rs := match st with | .ref x :: r => F (.ref x) r | .null :: r => F .null r | .int x :: r => F (.int x) r | _ => none
def pII (st : List Value) (F : Int32 → Int32 → List Value → Rs) : Rs := match st with | .int y :: .int x :: r => F x y r | _ => none
def pJJ (st : List Value) (F : Int64 → Int64 → List Value → Rs) : Rs := match st with | .long y :: .long x :: r => F x y r | _ => none
def pJI (st : List Value) (F : Int64 → Int32 → List Value → Rs) : Rs := match st with | .int y :: .long x :: r => F x y r | _ => none
def fnd : List (Nat × α) → Nat → Option α
  | [], _ => none
  | q :: t, k => bif q.1 == k then some q.2 else fnd t k
def gC (o : Option α) (F : α → Rs) : Rs := match o with | some v => F v | none => none
def gB (d : Except ClassFile.DecodeError (Instr × Nat)) (F : ClassFile.Cond → Int → Rs) : Rs := match d with | .ok (.ifCond cd o, 3) => F cd o | _ => none
def nx (code : ByteArray) (ci : List (Nat × Int32)) (cj : List (Nat × Int64)) (i : Instr) (len pc : Nat) (L : List Slot) (st : List Value) : Rs :=
  match i with
  | .iload k => chk len 2 (gI (lget L k) fun v => go (pc + 2) L (.int v :: st))
  | .iload_n k => chk len 1 (gI (lget L k.val) fun v => go (pc + 1) L (.int v :: st))
  | .lload k => chk len 2 (gJ (lget L k) fun v => go (pc + 2) L (.long v :: st))
  | .lload_n k => chk len 1 (gJ (lget L k.val) fun v => go (pc + 1) L (.long v :: st))
  | .aload k => chk len 2 (gA (lget L k) fun v => go (pc + 2) L (v :: st))
  | .aload_n k => chk len 1 (gA (lget L k.val) fun v => go (pc + 1) L (v :: st))
  | .istore k => chk len 2 (pI st fun x r => st1 L k (.int x) (fun L' => go (pc + 2) L' r) none)
  | .istore_n k => chk len 1 (pI st fun x r => st1 L k.val (.int x) (fun L' => go (pc + 1) L' r) none)
  | .lstore k => chk len 2 (pJ st fun x r => st2 L k x (fun L' => go (pc + 2) L' r) none)
  | .lstore_n k => chk len 1 (pJ st fun x r => st2 L k.val x (fun L' => go (pc + 1) L' r) none)
  | .astore k => chk len 2 (pA st fun x r => st1 L k x (fun L' => go (pc + 2) L' r) none)
  | .astore_n k => chk len 1 (pA st fun x r => st1 L k.val x (fun L' => go (pc + 1) L' r) none)
  | .iconst i => chk len 1 (go (pc + 1) L (.int (Int32.ofInt i) :: st))
  | .lconst k => chk len 1 (go (pc + 1) L (.long (Int64.ofNat k) :: st))
  | .bipush i => chk len 2 (go (pc + 2) L (.int (Int8.ofInt i).toInt32 :: st))
  | .sipush i => chk len 3 (go (pc + 3) L (.int (Int16.ofInt i).toInt32 :: st))
  | .ldc k => chk len 2 (gC (fnd ci k) fun v => go (pc + 2) L (.int v :: st))
  | .ldc2_w k => chk len 3 (gC (fnd cj k) fun v => go (pc + 3) L (.long v :: st))
  | .iadd => chk len 1 (pII st fun x y r => go (pc + 1) L (.int (x + y) :: r))
  | .isub => chk len 1 (pII st fun x y r => go (pc + 1) L (.int (x - y) :: r))
  | .imul => chk len 1 (pII st fun x y r => go (pc + 1) L (.int (x * y) :: r))
  | .idiv => chk len 1 (pII st fun x y r => goIf (y ≠ 0) (pc + 1) L (.int (x / y) :: r))
  | .irem => chk len 1 (pII st fun x y r => goIf (y ≠ 0) (pc + 1) L (.int (x - (x / y) * y) :: r))
  | .iand => chk len 1 (pII st fun x y r => go (pc + 1) L (.int (x &&& y) :: r))
  | .ior => chk len 1 (pII st fun x y r => go (pc + 1) L (.int (x ||| y) :: r))
  | .ixor => chk len 1 (pII st fun x y r => go (pc + 1) L (.int (x ^^^ y) :: r))
  | .ishl => chk len 1 (pII st fun x y r => go (pc + 1) L (.int (oshl x y) :: r))
  | .ishr => chk len 1 (pII st fun x y r => go (pc + 1) L (.int (oshr x y) :: r))
  | .iushr => chk len 1 (pII st fun x y r => go (pc + 1) L (.int (oushr x y) :: r))
  | .ladd => chk len 1 (pJJ st fun x y r => go (pc + 1) L (.long (x + y) :: r))
  | .lsub => chk len 1 (pJJ st fun x y r => go (pc + 1) L (.long (x - y) :: r))
  | .lmul => chk len 1 (pJJ st fun x y r => go (pc + 1) L (.long (x * y) :: r))
  | .ldiv => chk len 1 (pJJ st fun x y r => goIf (y ≠ 0) (pc + 1) L (.long (x / y) :: r))
  | .lrem => chk len 1 (pJJ st fun x y r => goIf (y ≠ 0) (pc + 1) L (.long (x - (x / y) * y) :: r))
  | .land => chk len 1 (pJJ st fun x y r => go (pc + 1) L (.long (x &&& y) :: r))
  | .lor => chk len 1 (pJJ st fun x y r => go (pc + 1) L (.long (x ||| y) :: r))
  | .lxor => chk len 1 (pJJ st fun x y r => go (pc + 1) L (.long (x ^^^ y) :: r))
  | .lshl => chk len 1 (pJI st fun x y r => go (pc + 1) L (.long (oshlL x y) :: r))
  | .lushr => chk len 1 (pJI st fun x y r => go (pc + 1) L (.long (oushrL x y) :: r))
  | .i2l => chk len 1 (pI st fun x r => go (pc + 1) L (.long x.toInt64 :: r))
  | .l2i => chk len 1 (pJ st fun x r => go (pc + 1) L (.int x.toInt32 :: r))
  | .i2b => chk len 1 (pI st fun x r => go (pc + 1) L (.int x.toInt8.toInt32 :: r))
  | .i2c => chk len 1 (pI st fun x r => go (pc + 1) L (.int x.toUInt32.toUInt16.toUInt32.toInt32 :: r))
  | .iinc k cst => chk len 3 (gI (lget L k) fun x => st1 L k (.int (x + Int32.ofInt cst)) (fun L' => go (pc + 3) L' st) none)
  | .goto o => chk len 3 (okO pc o (go (tgt pc o) L st))
  | .ifCond cd o => chk len 3 (okO pc o (pI st fun x r => fork (cnd cd x 0) (tgt pc o) (pc + 3) L r))
  | .if_icmp cd o => chk len 3 (okO pc o (pII st fun x y r => fork (cnd cd x y) (tgt pc o) (pc + 3) L r))
  | .lcmp => chk len 1 (pJJ st fun x y r => gB (decode code (pc + 1)) fun cd o => okO (pc + 1) o (fork (cndL cd x y) (tgt (pc + 1) o) (pc + 4) L r))
  | .dup => chk len 1 (p1 st fun x r => go (pc + 1) L (x :: x :: r))
  | .pop => chk len 1 (p1 st fun _ r => go (pc + 1) L r)
  | _ => none
def nxt (code : ByteArray) (ci : List (Nat × Int32)) (cj : List (Nat × Int64)) (pc : Nat) (L : List Slot) (st : List Value) : Rs :=
  match decode code pc with
  | .ok r => nx code ci cj r.1 r.2 pc L st
  | .error _ => none
def stopAt : List Nat → Nat → Prop → Prop → Prop
  | [], _, _, B => B
  | k :: t, pc, A, B => bif k == pc then A else stopAt t pc A B
def wpo (code : ByteArray) (ci : List (Nat × Int32)) (cj : List (Nat × Int64)) (stops : List Nat) : Nat → Nat → List Slot → List Value → (Nat → List Slot → List Value → Prop) → Prop
  | 0, pc, L, st, K => K pc L st
  | n + 1, pc, L, st, K =>
    match nxt code ci cj pc L st with
    | none => K pc L st
    | some (.inl (ob, a, L', st')) => ob ∧ stopAt stops a (K a L' st') (wpo code ci cj stops n a L' st' K)
    | some (.inr (c, a, b, L', st')) => (c → stopAt stops a (K a L' st') (wpo code ci cj stops n a L' st' K)) ∧ (¬ c → stopAt stops b (K b L' st') (wpo code ci cj stops n b L' st' K))
/-! what a step's answer means -/
def Snd (P : Nat → List Slot → List Value → Prop) (pc : Nat) (L : List Slot) (st : List Value) : Rs → Prop
  | none => True
  | some (.inl (ob, a, L', st')) => ob → P a L' st' → P pc L st
  | some (.inr (c, a, b, L', st')) => (c → P a L' st' → P pc L st) ∧ (¬ c → P b L' st' → P pc L st)
section
variable {P : Nat → List Slot → List Value → Prop} {pc : Nat} {L : List Slot} {st : List Value}
theorem s_chk {a b : Nat} {r : Rs} (h : a = b → Snd P pc L st r) : Snd P pc L st (chk a b r) := by
  unfold chk
  cases e : (a == b)
  · exact trivial
  · exact h (eq_of_beq e)
theorem s_okO {o : Int} {q : Nat} {r : Rs} (h : 0 ≤ (q : Int) + o → Snd P pc L st r) : Snd P pc L st (okO q o r) := by
  unfold okO
  by_cases e : 0 ≤ (q : Int) + o
  · rw [if_pos e]; exact h e
  · rw [if_neg e]; exact trivial
theorem s_gI {o : Option Slot} {F : Int32 → Rs} (h : ∀ v, o = some (.val (.int v)) → Snd P pc L st (F v)) : Snd P pc L st (gI o F) := by
  unfold gI; split
  · exact h _ rfl
  · exact trivial
theorem s_gJ {o : Option Slot} {F : Int64 → Rs} (h : ∀ v, o = some (.val (.long v)) → Snd P pc L st (F v)) : Snd P pc L st (gJ o F) := by
  unfold gJ; split
  · exact h _ rfl
  · exact trivial
theorem s_gA {o : Option Slot} {F : Value → Rs} (h : ∀ v, o = some (.val v) → v.isRef = true → Snd P pc L st (F v)) : Snd P pc L st (gA o F) := by
  unfold gA; split
  · exact h _ rfl rfl
  · exact h _ rfl rfl
  · exact trivial
theorem s_pI {F : Int32 → List Value → Rs} (h : ∀ x r, st = .int x :: r → Snd P pc L st (F x r)) : Snd P pc L st (pI st F) := by
  unfold pI; split
  · exact h _ _ rfl
  · exact trivial
theorem s_pJ {F : Int64 → List Value → Rs} (h : ∀ x r, st = .long x :: r → Snd P pc L st (F x r)) : Snd P pc L st (pJ st F) := by
  unfold pJ; split
  · exact h _ _ rfl
  · exact trivial
theorem s_pA {F : Value → List Value → Rs} (h : ∀ x r, st = x :: r → x.isRef = true → x.category = 1 → Snd P pc L st (F x r)) : Snd P pc L st (pA st F) := by
  unfold pA; split
  · exact h _ _ rfl rfl rfl
  · exact h _ _ rfl rfl rfl
  · exact trivial
theorem s_p1 {F : Value → List Value → Rs} (h : ∀ x r, st = x :: r → x.category = 1 → Snd P pc L st (F x r)) : Snd P pc L st (p1 st F) := by
  unfold p1; split
  · exact h _ _ rfl rfl
  · exact h _ _ rfl rfl
  · exact h _ _ rfl rfl
  · exact trivial
theorem s_pII {F : Int32 → Int32 → List Value → Rs} (h : ∀ x y r, st = .int y :: .int x :: r → Snd P pc L st (F x y r)) : Snd P pc L st (pII st F) := by
  unfold pII; split
  · exact h _ _ _ rfl
  · exact trivial
theorem s_pJJ {F : Int64 → Int64 → List Value → Rs} (h : ∀ x y r, st = .long y :: .long x :: r → Snd P pc L st (F x y r)) : Snd P pc L st (pJJ st F) := by
  unfold pJJ; split
  · exact h _ _ _ rfl
  · exact trivial
theorem s_pJI {F : Int64 → Int32 → List Value → Rs} (h : ∀ x y r, st = .int y :: .long x :: r → Snd P pc L st (F x y r)) : Snd P pc L st (pJI st F) := by
  unfold pJI; split
  · exact h _ _ _ rfl
  · exact trivial
theorem s_st1 {L0 : List Slot} {k : Nat} {v : Value} {F : List Slot → Rs} (hv : v.category = 1) (h : ∀ L', storeLocals L0.toArray k v = some L'.toArray → Snd P pc L st (F L')) : Snd P pc L st (st1 L0 k v F none) := by
  unfold st1
  cases e : one (lget L0 k)
  · exact trivial
  · exact h _ (store_one e hv)
theorem s_st2 {L0 : List Slot} {k : Nat} {v : Int64} {F : List Slot → Rs} (h : ∀ L', storeLocals L0.toArray k (.long v) = some L'.toArray → Snd P pc L st (F L')) : Snd P pc L st (st2 L0 k v F none) := by
  unfold st2
  cases e : two (lget L0 k) (lget L0 (k + 1))
  · exact trivial
  · exact h _ (store_two e)
theorem s_gC {o : Option α} {F : α → Rs} (h : ∀ v, o = some v → Snd P pc L st (F v)) : Snd P pc L st (gC o F) := by
  unfold gC; split
  · exact h _ rfl
  · exact trivial
theorem s_gB {d : Except ClassFile.DecodeError (Instr × Nat)} {F : ClassFile.Cond → Int → Rs} (h : ∀ cd o, d = .ok (.ifCond cd o, 3) → Snd P pc L st (F cd o)) : Snd P pc L st (gB d F) := by
  unfold gB; split
  · exact h _ _ rfl
  · exact trivial
end
theorem fnd_mem : ∀ {l : List (Nat × α)} {k : Nat} {v : α}, fnd l k = some v → (k, v) ∈ l
  | [], _, _, h => nomatch h
  | (j, w) :: t, k, v, h => by
    unfold fnd at h
    cases e : (j == k)
    · rw [e] at h; exact List.mem_cons_of_mem _ (fnd_mem h)
    · rw [e] at h
      cases Option.some.inj h
      cases eq_of_beq e
      exact List.mem_cons_self ..
section
variable {p : Program} {l : Launch} {e : Env} {R : Room} {s : State} {m : MethodId} {args : Array Value} {below : List Frame} {meth : Method} {c : Code} {T : State} {locs : List Loc} {cells slots : Nat} {code : ByteArray} {ci : List (Nat × Int32)} {cj : List (Nat × Int64)} {own : String}
theorem nx_ok (X : Stand p l e R s m args below meth c T locs cells slots) (hx : p.tables.exec = Jvm.exec) (hby : c.code = code) (hown : s.vm.findClass own = some m.cls) (hci : ∀ q ∈ ci, (Jvm.Cond.constant own q.1 q.2).before args s = true) (hcj : ∀ q ∈ cj, (Jvm.Cond.constantLong own q.1 q.2).before args s = true)
    (target : State) (i : Instr) (len pc : Nat) (L : List Slot) (st : List Value) (hd : decode c.code pc = .ok (i, len)) :
    Snd (fun pc L st => Steps p.tables e below (T.setTop (mkF m pc L.toArray st)) target) pc L st (nx code ci cj i len pc L st) := by
  cases i
  case iload k => exact s_chk fun q => s_gI fun v hv => fun _ h => XS.iload X.here hx rfl (q ▸ hd) (arr_get hv) h
  case iload_n k => exact s_chk fun q => s_gI fun v hv => fun _ h => XS.iloadN X.here hx rfl (q ▸ hd) (arr_get hv) h
  case lload k => exact s_chk fun q => s_gJ fun v hv => fun _ h => XS.lload X.here hx rfl (q ▸ hd) (arr_get hv) h
  case lload_n k => exact s_chk fun q => s_gJ fun v hv => fun _ h => XS.lloadN X.here hx rfl (q ▸ hd) (arr_get hv) h
  case aload k => exact s_chk fun q => s_gA fun v hv hr => fun _ h => XS.aload X.here hx rfl (q ▸ hd) (arr_get hv) hr h
  case aload_n k => exact s_chk fun q => s_gA fun v hv hr => fun _ h => XS.aloadN X.here hx rfl (q ▸ hd) (arr_get hv) hr h
  case istore k => exact s_chk fun q => s_pI fun x r hs => s_st1 rfl fun L' hl => fun _ h => XS.istore X.here hx rfl (q ▸ hd) hs hl h
  case istore_n k => exact s_chk fun q => s_pI fun x r hs => s_st1 rfl fun L' hl => fun _ h => XS.istoreN X.here hx rfl (q ▸ hd) hs hl h
  case lstore k => exact s_chk fun q => s_pJ fun x r hs => s_st2 fun L' hl => fun _ h => XS.lstore X.here hx rfl (q ▸ hd) hs hl h
  case lstore_n k => exact s_chk fun q => s_pJ fun x r hs => s_st2 fun L' hl => fun _ h => XS.lstoreN X.here hx rfl (q ▸ hd) hs hl h
  case astore k => exact s_chk fun q => s_pA fun x r hs hr hc => s_st1 hc fun L' hl => fun _ h => XS.astore X.here hx rfl (q ▸ hd) hs hr hl h
  case astore_n k => exact s_chk fun q => s_pA fun x r hs hr hc => s_st1 hc fun L' hl => fun _ h => XS.astoreN X.here hx rfl (q ▸ hd) hs hr hl h
  case iconst i => exact s_chk fun q => fun _ h => XS.iconst X.here hx rfl (q ▸ hd) h
  case lconst k => exact s_chk fun q => fun _ h => XS.lconst X.here hx rfl (q ▸ hd) h
  case bipush i => exact s_chk fun q => fun _ h => XS.bipush X.here hx rfl (q ▸ hd) h
  case sipush i => exact s_chk fun q => fun _ h => XS.sipush X.here hx rfl (q ▸ hd) h
  case ldc k => exact s_chk fun q => s_gC fun v hv => fun _ h => X.ldcI hx hown (hci _ (fnd_mem hv)) rfl (q ▸ hd) h
  case ldc2_w k => exact s_chk fun q => s_gC fun v hv => fun _ h => X.ldc2J hx hown (hcj _ (fnd_mem hv)) rfl (q ▸ hd) h
  case iadd => exact s_chk fun q => s_pII fun x y r hs => fun _ h => XS.iadd X.here hx rfl (q ▸ hd) hs h
  case isub => exact s_chk fun q => s_pII fun x y r hs => fun _ h => XS.isub X.here hx rfl (q ▸ hd) hs h
  case imul => exact s_chk fun q => s_pII fun x y r hs => fun _ h => XS.imul X.here hx rfl (q ▸ hd) hs h
  case idiv => exact s_chk fun q => s_pII fun x y r hs => fun hy h => XS.idiv X.here hx rfl (q ▸ hd) hs hy h
  case irem => exact s_chk fun q => s_pII fun x y r hs => fun hy h => XS.irem X.here hx rfl (q ▸ hd) hs hy h
  case iand => exact s_chk fun q => s_pII fun x y r hs => fun _ h => XS.iand X.here hx rfl (q ▸ hd) hs h
  case ior => exact s_chk fun q => s_pII fun x y r hs => fun _ h => XS.ior X.here hx rfl (q ▸ hd) hs h
  case ixor => exact s_chk fun q => s_pII fun x y r hs => fun _ h => XS.ixor X.here hx rfl (q ▸ hd) hs h
  case ishl => exact s_chk fun q => s_pII fun x y r hs => fun _ h => XS.ishl X.here hx rfl (q ▸ hd) hs h
  case ishr => exact s_chk fun q => s_pII fun x y r hs => fun _ h => XS.ishr X.here hx rfl (q ▸ hd) hs h
  case iushr => exact s_chk fun q => s_pII fun x y r hs => fun _ h => XS.iushr X.here hx rfl (q ▸ hd) hs h
  case ladd => exact s_chk fun q => s_pJJ fun x y r hs => fun _ h => XS.ladd X.here hx rfl (q ▸ hd) hs h
  case lsub => exact s_chk fun q => s_pJJ fun x y r hs => fun _ h => XS.lsub X.here hx rfl (q ▸ hd) hs h
  case lmul => exact s_chk fun q => s_pJJ fun x y r hs => fun _ h => XS.lmul X.here hx rfl (q ▸ hd) hs h
  case ldiv => exact s_chk fun q => s_pJJ fun x y r hs => fun hy h => XS.ldiv X.here hx rfl (q ▸ hd) hs hy h
  case lrem => exact s_chk fun q => s_pJJ fun x y r hs => fun hy h => XS.lrem X.here hx rfl (q ▸ hd) hs hy h
  case land => exact s_chk fun q => s_pJJ fun x y r hs => fun _ h => XS.land X.here hx rfl (q ▸ hd) hs h
  case lor => exact s_chk fun q => s_pJJ fun x y r hs => fun _ h => XS.lor X.here hx rfl (q ▸ hd) hs h
  case lxor => exact s_chk fun q => s_pJJ fun x y r hs => fun _ h => XS.lxor X.here hx rfl (q ▸ hd) hs h
  case lshl => exact s_chk fun q => s_pJI fun x y r hs => fun _ h => XS.lshl X.here hx rfl (q ▸ hd) hs h
  case lushr => exact s_chk fun q => s_pJI fun x y r hs => fun _ h => XS.lushr X.here hx rfl (q ▸ hd) hs h
  case i2l => exact s_chk fun q => s_pI fun x r hs => fun _ h => XS.i2l X.here hx rfl (q ▸ hd) hs h
  case l2i => exact s_chk fun q => s_pJ fun x r hs => fun _ h => XS.l2i X.here hx rfl (q ▸ hd) hs h
  case i2b => exact s_chk fun q => s_pI fun x r hs => fun _ h => XS.i2b X.here hx rfl (q ▸ hd) hs h
  case i2c => exact s_chk fun q => s_pI fun x r hs => fun _ h => XS.i2c X.here hx rfl (q ▸ hd) hs h
  case iinc k cst => exact s_chk fun q => s_gI fun x hv => s_st1 rfl fun L' hl => fun _ h => XS.iinc X.here hx rfl (q ▸ hd) (arr_get hv) hl h
  case goto o => exact s_chk fun q => s_okO fun ho => fun _ h => XS.goto X.here hx rfl (pc0 := pc) rfl (q ▸ hd) ho rfl h
  case ifCond cd o => exact s_chk fun q => s_okO fun ho => s_pI fun x r hs => ⟨fun hc h => XS.ifYes X.here hx rfl (pc0 := pc) rfl (q ▸ hd) hs ((if0 _ _).trans (cnd_t hc)) ho rfl h, fun hc h => XS.ifNo X.here hx rfl (q ▸ hd) hs ((if0 _ _).trans (cnd_f hc)) h⟩
  case if_icmp cd o => exact s_chk fun q => s_okO fun ho => s_pII fun x y r hs => ⟨fun hc h => XS.icmpYes X.here hx rfl (pc0 := pc) rfl (q ▸ hd) hs (cnd_t hc) ho rfl h, fun hc h => XS.icmpNo X.here hx rfl (q ▸ hd) hs (cnd_f hc) h⟩
  case lcmp => exact s_chk fun q => s_pJJ fun x y r hs => s_gB fun cd o hd2 => s_okO fun ho => ⟨fun hc h => XS.lcmp X.here hx rfl (q ▸ hd) hs (XS.ifYes (g := mkF m (pc + 1) L.toArray (.int (XT.cmpL x y) :: r)) X.here hx rfl (pc0 := pc + 1) rfl (hby ▸ hd2) rfl (cndL_t hc) ho rfl h), fun hc h => XS.lcmp X.here hx rfl (q ▸ hd) hs (XS.ifNo (g := mkF m (pc + 1) L.toArray (.int (XT.cmpL x y) :: r)) X.here hx rfl (hby ▸ hd2) rfl (cndL_f hc) h)⟩
  case dup => exact s_chk fun q => s_p1 fun x r hs hc => fun _ h => XS.dup X.here hx rfl (q ▸ hd) hs hc h
  case pop => exact s_chk fun q => s_p1 fun x r hs hc => fun _ h => XS.pop X.here hx rfl (q ▸ hd) hs hc h
  all_goals exact trivial
theorem stop_ok {P : Prop} : ∀ {stops : List Nat} {pc : Nat} {A B : Prop}, (A → P) → (B → P) → stopAt stops pc A B → P
  | [], _, _, _, _, hB, h => hB h
  | k :: t, pc, A, B, hA, hB, h => by
    unfold stopAt at h
    cases q : (k == pc)
    · rw [q] at h; exact stop_ok hA hB h
    · rw [q] at h; exact hA h
theorem runo (X : Stand p l e R s m args below meth c T locs cells slots) (hx : p.tables.exec = Jvm.exec) (hby : c.code = code) (hown : s.vm.findClass own = some m.cls) (hci : ∀ q ∈ ci, (Jvm.Cond.constant own q.1 q.2).before args s = true) (hcj : ∀ q ∈ cj, (Jvm.Cond.constantLong own q.1 q.2).before args s = true)
    {stops : List Nat} (target : State) {K : Nat → List Slot → List Value → Prop} (hK : ∀ pc L st, K pc L st → Steps p.tables e below (T.setTop (mkF m pc L.toArray st)) target) :
    ∀ (n pc : Nat) (L : List Slot) (st : List Value), wpo code ci cj stops n pc L st K → Steps p.tables e below (T.setTop (mkF m pc L.toArray st)) target
  | 0, pc, L, st, h => hK pc L st h
  | n + 1, pc, L, st, h => by
    have ih := runo X hx hby hown hci hcj (stops := stops) target hK n
    unfold wpo at h
    cases hd : decode code pc with
    | error er =>
      have q : nxt code ci cj pc L st = none := by unfold nxt; rw [hd]
      rw [q] at h
      exact hK _ _ _ h
    | ok r =>
      obtain ⟨i, len⟩ := r
      have q : nxt code ci cj pc L st = nx code ci cj i len pc L st := by unfold nxt; rw [hd]
      rw [q] at h
      have hs := nx_ok X hx hby hown hci hcj target i len pc L st (hby ▸ hd)
      match hr : nx code ci cj i len pc L st, h, hs with
      | none, h, _ => exact hK _ _ _ h
      | some (.inl (ob, a, L', st')), h, hs => exact hs h.1 (stop_ok (hK _ _ _) (ih _ _ _) h.2)
      | some (.inr (cc, a, b, L', st')), h, hs =>
        by_cases hc : cc
        · exact hs.1 hc (stop_ok (hK _ _ _) (ih _ _ _) (h.1 hc))
        · exact hs.2 hc (stop_ok (hK _ _ _) (ih _ _ _) (h.2 hc))
/-- a stretch of plain steps with one end -/
theorem sego (X : Stand p l e R s m args below meth c T locs cells slots) (hx : p.tables.exec = Jvm.exec) (hby : c.code = code) (hown : s.vm.findClass own = some m.cls) (hci : ∀ q ∈ ci, (Jvm.Cond.constant own q.1 q.2).before args s = true) (hcj : ∀ q ∈ cj, (Jvm.Cond.constantLong own q.1 q.2).before args s = true)
    {stops : List Nat} {n pc pc' : Nat} {L L' : List Slot} {st st' : List Value} (h : wpo code ci cj stops n pc L st (fun a M u => a = pc' ∧ M = L' ∧ u = st')) (target : State) (hr : Steps p.tables e below (T.setTop (mkF m pc' L'.toArray st')) target) : Steps p.tables e below (T.setTop (mkF m pc L.toArray st)) target :=
  runo X hx hby hown hci hcj target (fun a M u q => by obtain ⟨rfl, rfl, rfl⟩ := q; exact hr) n pc L st h
/-- plain steps up to the return of an int, a narrow one, a long -/
theorem endI (X : Stand p l e R s m args below meth c T locs cells slots) (hx : p.tables.exec = Jvm.exec) (hby : c.code = code) (hown : s.vm.findClass own = some m.cls) (hci : ∀ q ∈ ci, (Jvm.Cond.constant own q.1 q.2).before args s = true) (hcj : ∀ q ∈ cj, (Jvm.Cond.constantLong own q.1 q.2).before args s = true)
    {stops : List Nat} {n pc : Nat} {L : List Slot} {st : List Value} {z : Int32} (h : wpo code ci cj stops n pc L st (fun a _ u => decode code a = .ok (.ireturn, 1) ∧ u = [.int z])) (hret : meth.sig.returnType = some .int) {fs : List Frame}
    (hl : ∀ (f : JFrame) (acts : List Action), f.method = m → f.locked = none → f.entered = [] → (doReturn e (T.setTop f) acts (some (.int z))).1 = T.setFrames fs) : Steps p.tables e below (T.setTop (mkF m pc L.toArray st)) (T.setFrames fs) :=
  runo X hx hby hown hci hcj _ (fun a M u q => by obtain ⟨q1, rfl⟩ := q; exact retI X hx hret (hb hby q1) hl) n pc L st h
theorem endN (X : Stand p l e R s m args below meth c T locs cells slots) (hx : p.tables.exec = Jvm.exec) (hby : c.code = code) (hown : s.vm.findClass own = some m.cls) (hci : ∀ q ∈ ci, (Jvm.Cond.constant own q.1 q.2).before args s = true) (hcj : ∀ q ∈ cj, (Jvm.Cond.constantLong own q.1 q.2).before args s = true)
    {stops : List Nat} {n pc : Nat} {L : List Slot} {st : List Value} {z : Int32} {t : FieldType} (h : wpo code ci cj stops n pc L st (fun a _ u => decode code a = .ok (.ireturn, 1) ∧ u = [.int z])) (hret : meth.sig.returnType = some t) (ht : t = .boolean ∨ t = .byte ∨ t = .char ∨ t = .short) {fs : List Frame}
    (hl : ∀ (f : JFrame) (acts : List Action), f.method = m → f.locked = none → f.entered = [] → (doReturn e (T.setTop f) acts (some (.int (nar t z)))).1 = T.setFrames fs) : Steps p.tables e below (T.setTop (mkF m pc L.toArray st)) (T.setFrames fs) :=
  runo X hx hby hown hci hcj _ (fun a M u q => by obtain ⟨q1, rfl⟩ := q; exact retN X hx hret ht (hb hby q1) hl) n pc L st h
theorem endJ (X : Stand p l e R s m args below meth c T locs cells slots) (hx : p.tables.exec = Jvm.exec) (hby : c.code = code) (hown : s.vm.findClass own = some m.cls) (hci : ∀ q ∈ ci, (Jvm.Cond.constant own q.1 q.2).before args s = true) (hcj : ∀ q ∈ cj, (Jvm.Cond.constantLong own q.1 q.2).before args s = true)
    {stops : List Nat} {n pc : Nat} {L : List Slot} {st : List Value} {z : Int64} (h : wpo code ci cj stops n pc L st (fun a _ u => decode code a = .ok (.lreturn, 1) ∧ u = [.long z])) (hret : meth.sig.returnType = some .long) {fs : List Frame}
    (hl : ∀ (f : JFrame) (acts : List Action), f.method = m → f.locked = none → f.entered = [] → (doReturn e (T.setTop f) acts (some (.long z))).1 = T.setFrames fs) : Steps p.tables e below (T.setTop (mkF m pc L.toArray st)) (T.setFrames fs) :=
  runo X hx hby hown hci hcj _ (fun a M u q => by obtain ⟨q1, rfl⟩ := q; exact X.lreturnOut hx hret (hb hby q1) hl) n pc L st h
end
theorem cI {Z s : State} {a0 args : Array Value} {tb : List Jvm.Cond} {own : String} {ci : List (Nat × Int32)} (hZ : Z.Warmed39 s.vm) (hw : ∀ d ∈ tb, d.before a0 Z = true) (h : ∀ q ∈ ci, Jvm.Cond.constant own q.1 q.2 ∈ tb) : ∀ q ∈ ci, (Jvm.Cond.constant own q.1 q.2).before args s = true := fun q hq => mvT hZ (hw _ (h q hq))
theorem cJ {Z s : State} {a0 args : Array Value} {tb : List Jvm.Cond} {own : String} {cj : List (Nat × Int64)} (hZ : Z.Warmed39 s.vm) (hw : ∀ d ∈ tb, d.before a0 Z = true) (h : ∀ q ∈ cj, Jvm.Cond.constantLong own q.1 q.2 ∈ tb) : ∀ q ∈ cj, (Jvm.Cond.constantLong own q.1 q.2).before args s = true := fun q hq => mvT hZ (hw _ (h q hq))
section
theorem n_iload (code : ByteArray) (ci : List (Nat × Int32)) (cj : List (Nat × Int64)) (pc : Nat) (L : List Slot) (st : List Value) (k : Nat) : nx code ci cj (.iload k) 2 pc L st = gI (lget L k) fun v => go (pc + 2) L (.int v :: st) := rfl
theorem n_iload_n (code : ByteArray) (ci : List (Nat × Int32)) (cj : List (Nat × Int64)) (pc : Nat) (L : List Slot) (st : List Value) (k : Fin 4) : nx code ci cj (.iload_n k) 1 pc L st = gI (lget L k.val) fun v => go (pc + 1) L (.int v :: st) := rfl
theorem n_lload (code : ByteArray) (ci : List (Nat × Int32)) (cj : List (Nat × Int64)) (pc : Nat) (L : List Slot) (st : List Value) (k : Nat) : nx code ci cj (.lload k) 2 pc L st = gJ (lget L k) fun v => go (pc + 2) L (.long v :: st) := rfl
theorem n_lload_n (code : ByteArray) (ci : List (Nat × Int32)) (cj : List (Nat × Int64)) (pc : Nat) (L : List Slot) (st : List Value) (k : Fin 4) : nx code ci cj (.lload_n k) 1 pc L st = gJ (lget L k.val) fun v => go (pc + 1) L (.long v :: st) := rfl
theorem n_aload (code : ByteArray) (ci : List (Nat × Int32)) (cj : List (Nat × Int64)) (pc : Nat) (L : List Slot) (st : List Value) (k : Nat) : nx code ci cj (.aload k) 2 pc L st = gA (lget L k) fun v => go (pc + 2) L (v :: st) := rfl
theorem n_aload_n (code : ByteArray) (ci : List (Nat × Int32)) (cj : List (Nat × Int64)) (pc : Nat) (L : List Slot) (st : List Value) (k : Fin 4) : nx code ci cj (.aload_n k) 1 pc L st = gA (lget L k.val) fun v => go (pc + 1) L (v :: st) := rfl
theorem n_istore (code : ByteArray) (ci : List (Nat × Int32)) (cj : List (Nat × Int64)) (pc : Nat) (L : List Slot) (st : List Value) (k : Nat) : nx code ci cj (.istore k) 2 pc L st = pI st fun x r => st1 L k (.int x) (fun L' => go (pc + 2) L' r) none := rfl
theorem n_istore_n (code : ByteArray) (ci : List (Nat × Int32)) (cj : List (Nat × Int64)) (pc : Nat) (L : List Slot) (st : List Value) (k : Fin 4) : nx code ci cj (.istore_n k) 1 pc L st = pI st fun x r => st1 L k.val (.int x) (fun L' => go (pc + 1) L' r) none := rfl
theorem n_lstore (code : ByteArray) (ci : List (Nat × Int32)) (cj : List (Nat × Int64)) (pc : Nat) (L : List Slot) (st : List Value) (k : Nat) : nx code ci cj (.lstore k) 2 pc L st = pJ st fun x r => st2 L k x (fun L' => go (pc + 2) L' r) none := rfl
theorem n_lstore_n (code : ByteArray) (ci : List (Nat × Int32)) (cj : List (Nat × Int64)) (pc : Nat) (L : List Slot) (st : List Value) (k : Fin 4) : nx code ci cj (.lstore_n k) 1 pc L st = pJ st fun x r => st2 L k.val x (fun L' => go (pc + 1) L' r) none := rfl
theorem n_astore (code : ByteArray) (ci : List (Nat × Int32)) (cj : List (Nat × Int64)) (pc : Nat) (L : List Slot) (st : List Value) (k : Nat) : nx code ci cj (.astore k) 2 pc L st = pA st fun x r => st1 L k x (fun L' => go (pc + 2) L' r) none := rfl
theorem n_astore_n (code : ByteArray) (ci : List (Nat × Int32)) (cj : List (Nat × Int64)) (pc : Nat) (L : List Slot) (st : List Value) (k : Fin 4) : nx code ci cj (.astore_n k) 1 pc L st = pA st fun x r => st1 L k.val x (fun L' => go (pc + 1) L' r) none := rfl
theorem n_iconst (code : ByteArray) (ci : List (Nat × Int32)) (cj : List (Nat × Int64)) (pc : Nat) (L : List Slot) (st : List Value) (i : Int) : nx code ci cj (.iconst i) 1 pc L st = go (pc + 1) L (.int (Int32.ofInt i) :: st) := rfl
theorem n_lconst (code : ByteArray) (ci : List (Nat × Int32)) (cj : List (Nat × Int64)) (pc : Nat) (L : List Slot) (st : List Value) (k : Fin 2) : nx code ci cj (.lconst k) 1 pc L st = go (pc + 1) L (.long (Int64.ofNat k) :: st) := rfl
theorem n_bipush (code : ByteArray) (ci : List (Nat × Int32)) (cj : List (Nat × Int64)) (pc : Nat) (L : List Slot) (st : List Value) (i : Int) : nx code ci cj (.bipush i) 2 pc L st = go (pc + 2) L (.int (Int8.ofInt i).toInt32 :: st) := rfl
theorem n_sipush (code : ByteArray) (ci : List (Nat × Int32)) (cj : List (Nat × Int64)) (pc : Nat) (L : List Slot) (st : List Value) (i : Int) : nx code ci cj (.sipush i) 3 pc L st = go (pc + 3) L (.int (Int16.ofInt i).toInt32 :: st) := rfl
theorem n_ldc (code : ByteArray) (ci : List (Nat × Int32)) (cj : List (Nat × Int64)) (pc : Nat) (L : List Slot) (st : List Value) (k : Nat) : nx code ci cj (.ldc k) 2 pc L st = gC (fnd ci k) fun v => go (pc + 2) L (.int v :: st) := rfl
theorem n_ldc2_w (code : ByteArray) (ci : List (Nat × Int32)) (cj : List (Nat × Int64)) (pc : Nat) (L : List Slot) (st : List Value) (k : Nat) : nx code ci cj (.ldc2_w k) 3 pc L st = gC (fnd cj k) fun v => go (pc + 3) L (.long v :: st) := rfl
theorem n_iadd (code : ByteArray) (ci : List (Nat × Int32)) (cj : List (Nat × Int64)) (pc : Nat) (L : List Slot) (st : List Value)  : nx code ci cj (.iadd) 1 pc L st = pII st fun x y r => go (pc + 1) L (.int (x + y) :: r) := rfl
theorem n_isub (code : ByteArray) (ci : List (Nat × Int32)) (cj : List (Nat × Int64)) (pc : Nat) (L : List Slot) (st : List Value)  : nx code ci cj (.isub) 1 pc L st = pII st fun x y r => go (pc + 1) L (.int (x - y) :: r) := rfl
theorem n_imul (code : ByteArray) (ci : List (Nat × Int32)) (cj : List (Nat × Int64)) (pc : Nat) (L : List Slot) (st : List Value)  : nx code ci cj (.imul) 1 pc L st = pII st fun x y r => go (pc + 1) L (.int (x * y) :: r) := rfl
theorem n_idiv (code : ByteArray) (ci : List (Nat × Int32)) (cj : List (Nat × Int64)) (pc : Nat) (L : List Slot) (st : List Value)  : nx code ci cj (.idiv) 1 pc L st = pII st fun x y r => goIf (y ≠ 0) (pc + 1) L (.int (x / y) :: r) := rfl
theorem n_irem (code : ByteArray) (ci : List (Nat × Int32)) (cj : List (Nat × Int64)) (pc : Nat) (L : List Slot) (st : List Value)  : nx code ci cj (.irem) 1 pc L st = pII st fun x y r => goIf (y ≠ 0) (pc + 1) L (.int (x - (x / y) * y) :: r) := rfl
theorem n_iand (code : ByteArray) (ci : List (Nat × Int32)) (cj : List (Nat × Int64)) (pc : Nat) (L : List Slot) (st : List Value)  : nx code ci cj (.iand) 1 pc L st = pII st fun x y r => go (pc + 1) L (.int (x &&& y) :: r) := rfl
theorem n_ior (code : ByteArray) (ci : List (Nat × Int32)) (cj : List (Nat × Int64)) (pc : Nat) (L : List Slot) (st : List Value)  : nx code ci cj (.ior) 1 pc L st = pII st fun x y r => go (pc + 1) L (.int (x ||| y) :: r) := rfl
theorem n_ixor (code : ByteArray) (ci : List (Nat × Int32)) (cj : List (Nat × Int64)) (pc : Nat) (L : List Slot) (st : List Value)  : nx code ci cj (.ixor) 1 pc L st = pII st fun x y r => go (pc + 1) L (.int (x ^^^ y) :: r) := rfl
theorem n_ishl (code : ByteArray) (ci : List (Nat × Int32)) (cj : List (Nat × Int64)) (pc : Nat) (L : List Slot) (st : List Value)  : nx code ci cj (.ishl) 1 pc L st = pII st fun x y r => go (pc + 1) L (.int (oshl x y) :: r) := rfl
theorem n_ishr (code : ByteArray) (ci : List (Nat × Int32)) (cj : List (Nat × Int64)) (pc : Nat) (L : List Slot) (st : List Value)  : nx code ci cj (.ishr) 1 pc L st = pII st fun x y r => go (pc + 1) L (.int (oshr x y) :: r) := rfl
theorem n_iushr (code : ByteArray) (ci : List (Nat × Int32)) (cj : List (Nat × Int64)) (pc : Nat) (L : List Slot) (st : List Value)  : nx code ci cj (.iushr) 1 pc L st = pII st fun x y r => go (pc + 1) L (.int (oushr x y) :: r) := rfl
theorem n_ladd (code : ByteArray) (ci : List (Nat × Int32)) (cj : List (Nat × Int64)) (pc : Nat) (L : List Slot) (st : List Value)  : nx code ci cj (.ladd) 1 pc L st = pJJ st fun x y r => go (pc + 1) L (.long (x + y) :: r) := rfl
theorem n_lsub (code : ByteArray) (ci : List (Nat × Int32)) (cj : List (Nat × Int64)) (pc : Nat) (L : List Slot) (st : List Value)  : nx code ci cj (.lsub) 1 pc L st = pJJ st fun x y r => go (pc + 1) L (.long (x - y) :: r) := rfl
theorem n_lmul (code : ByteArray) (ci : List (Nat × Int32)) (cj : List (Nat × Int64)) (pc : Nat) (L : List Slot) (st : List Value)  : nx code ci cj (.lmul) 1 pc L st = pJJ st fun x y r => go (pc + 1) L (.long (x * y) :: r) := rfl
theorem n_ldiv (code : ByteArray) (ci : List (Nat × Int32)) (cj : List (Nat × Int64)) (pc : Nat) (L : List Slot) (st : List Value)  : nx code ci cj (.ldiv) 1 pc L st = pJJ st fun x y r => goIf (y ≠ 0) (pc + 1) L (.long (x / y) :: r) := rfl
theorem n_lrem (code : ByteArray) (ci : List (Nat × Int32)) (cj : List (Nat × Int64)) (pc : Nat) (L : List Slot) (st : List Value)  : nx code ci cj (.lrem) 1 pc L st = pJJ st fun x y r => goIf (y ≠ 0) (pc + 1) L (.long (x - (x / y) * y) :: r) := rfl
theorem n_land (code : ByteArray) (ci : List (Nat × Int32)) (cj : List (Nat × Int64)) (pc : Nat) (L : List Slot) (st : List Value)  : nx code ci cj (.land) 1 pc L st = pJJ st fun x y r => go (pc + 1) L (.long (x &&& y) :: r) := rfl
theorem n_lor (code : ByteArray) (ci : List (Nat × Int32)) (cj : List (Nat × Int64)) (pc : Nat) (L : List Slot) (st : List Value)  : nx code ci cj (.lor) 1 pc L st = pJJ st fun x y r => go (pc + 1) L (.long (x ||| y) :: r) := rfl
theorem n_lxor (code : ByteArray) (ci : List (Nat × Int32)) (cj : List (Nat × Int64)) (pc : Nat) (L : List Slot) (st : List Value)  : nx code ci cj (.lxor) 1 pc L st = pJJ st fun x y r => go (pc + 1) L (.long (x ^^^ y) :: r) := rfl
theorem n_lshl (code : ByteArray) (ci : List (Nat × Int32)) (cj : List (Nat × Int64)) (pc : Nat) (L : List Slot) (st : List Value)  : nx code ci cj (.lshl) 1 pc L st = pJI st fun x y r => go (pc + 1) L (.long (oshlL x y) :: r) := rfl
theorem n_lushr (code : ByteArray) (ci : List (Nat × Int32)) (cj : List (Nat × Int64)) (pc : Nat) (L : List Slot) (st : List Value)  : nx code ci cj (.lushr) 1 pc L st = pJI st fun x y r => go (pc + 1) L (.long (oushrL x y) :: r) := rfl
theorem n_i2l (code : ByteArray) (ci : List (Nat × Int32)) (cj : List (Nat × Int64)) (pc : Nat) (L : List Slot) (st : List Value)  : nx code ci cj (.i2l) 1 pc L st = pI st fun x r => go (pc + 1) L (.long x.toInt64 :: r) := rfl
theorem n_l2i (code : ByteArray) (ci : List (Nat × Int32)) (cj : List (Nat × Int64)) (pc : Nat) (L : List Slot) (st : List Value)  : nx code ci cj (.l2i) 1 pc L st = pJ st fun x r => go (pc + 1) L (.int x.toInt32 :: r) := rfl
theorem n_i2b (code : ByteArray) (ci : List (Nat × Int32)) (cj : List (Nat × Int64)) (pc : Nat) (L : List Slot) (st : List Value)  : nx code ci cj (.i2b) 1 pc L st = pI st fun x r => go (pc + 1) L (.int x.toInt8.toInt32 :: r) := rfl
theorem n_i2c (code : ByteArray) (ci : List (Nat × Int32)) (cj : List (Nat × Int64)) (pc : Nat) (L : List Slot) (st : List Value)  : nx code ci cj (.i2c) 1 pc L st = pI st fun x r => go (pc + 1) L (.int x.toUInt32.toUInt16.toUInt32.toInt32 :: r) := rfl
theorem n_iinc (code : ByteArray) (ci : List (Nat × Int32)) (cj : List (Nat × Int64)) (pc : Nat) (L : List Slot) (st : List Value) (k : Nat) (cst : Int) : nx code ci cj (.iinc k cst) 3 pc L st = gI (lget L k) fun x => st1 L k (.int (x + Int32.ofInt cst)) (fun L' => go (pc + 3) L' st) none := rfl
theorem n_goto (code : ByteArray) (ci : List (Nat × Int32)) (cj : List (Nat × Int64)) (pc : Nat) (L : List Slot) (st : List Value) (o : Int) : nx code ci cj (.goto o) 3 pc L st = okO pc o (go (tgt pc o) L st) := rfl
theorem n_ifCond (code : ByteArray) (ci : List (Nat × Int32)) (cj : List (Nat × Int64)) (pc : Nat) (L : List Slot) (st : List Value) (cd : ClassFile.Cond) (o : Int) : nx code ci cj (.ifCond cd o) 3 pc L st = okO pc o (pI st fun x r => fork (cnd cd x 0) (tgt pc o) (pc + 3) L r) := rfl
theorem n_if_icmp (code : ByteArray) (ci : List (Nat × Int32)) (cj : List (Nat × Int64)) (pc : Nat) (L : List Slot) (st : List Value) (cd : ClassFile.Cond) (o : Int) : nx code ci cj (.if_icmp cd o) 3 pc L st = okO pc o (pII st fun x y r => fork (cnd cd x y) (tgt pc o) (pc + 3) L r) := rfl
theorem n_lcmp (code : ByteArray) (ci : List (Nat × Int32)) (cj : List (Nat × Int64)) (pc : Nat) (L : List Slot) (st : List Value)  : nx code ci cj (.lcmp) 1 pc L st = pJJ st fun x y r => gB (decode code (pc + 1)) fun cd o => okO (pc + 1) o (fork (cndL cd x y) (tgt (pc + 1) o) (pc + 4) L r) := rfl
theorem n_dup (code : ByteArray) (ci : List (Nat × Int32)) (cj : List (Nat × Int64)) (pc : Nat) (L : List Slot) (st : List Value)  : nx code ci cj (.dup) 1 pc L st = p1 st fun x r => go (pc + 1) L (x :: x :: r) := rfl
theorem n_pop (code : ByteArray) (ci : List (Nat × Int32)) (cj : List (Nat × Int64)) (pc : Nat) (L : List Slot) (st : List Value)  : nx code ci cj (.pop) 1 pc L st = p1 st fun _ r => go (pc + 1) L r := rfl
theorem n_invokestatic (code : ByteArray) (ci : List (Nat × Int32)) (cj : List (Nat × Int64)) (pc : Nat) (L : List Slot) (st : List Value) (k : Nat) (len : Nat) : nx code ci cj (.invokestatic k) len pc L st = none := rfl
theorem n_invokespecial (code : ByteArray) (ci : List (Nat × Int32)) (cj : List (Nat × Int64)) (pc : Nat) (L : List Slot) (st : List Value) (k : Nat) (len : Nat) : nx code ci cj (.invokespecial k) len pc L st = none := rfl
theorem n_invokevirtual (code : ByteArray) (ci : List (Nat × Int32)) (cj : List (Nat × Int64)) (pc : Nat) (L : List Slot) (st : List Value) (k : Nat) (len : Nat) : nx code ci cj (.invokevirtual k) len pc L st = none := rfl
theorem n_new (code : ByteArray) (ci : List (Nat × Int32)) (cj : List (Nat × Int64)) (pc : Nat) (L : List Slot) (st : List Value) (k : Nat) (len : Nat) : nx code ci cj (.new k) len pc L st = none := rfl
theorem n_newarray (code : ByteArray) (ci : List (Nat × Int32)) (cj : List (Nat × Int64)) (pc : Nat) (L : List Slot) (st : List Value) (k : ArrayType) (len : Nat) : nx code ci cj (.newarray k) len pc L st = none := rfl
theorem n_getfield (code : ByteArray) (ci : List (Nat × Int32)) (cj : List (Nat × Int64)) (pc : Nat) (L : List Slot) (st : List Value) (k : Nat) (len : Nat) : nx code ci cj (.getfield k) len pc L st = none := rfl
theorem n_getstatic (code : ByteArray) (ci : List (Nat × Int32)) (cj : List (Nat × Int64)) (pc : Nat) (L : List Slot) (st : List Value) (k : Nat) (len : Nat) : nx code ci cj (.getstatic k) len pc L st = none := rfl
theorem n_putstatic (code : ByteArray) (ci : List (Nat × Int32)) (cj : List (Nat × Int64)) (pc : Nat) (L : List Slot) (st : List Value) (k : Nat) (len : Nat) : nx code ci cj (.putstatic k) len pc L st = none := rfl
theorem n_putfield (code : ByteArray) (ci : List (Nat × Int32)) (cj : List (Nat × Int64)) (pc : Nat) (L : List Slot) (st : List Value) (k : Nat) (len : Nat) : nx code ci cj (.putfield k) len pc L st = none := rfl
theorem n_iaload (code : ByteArray) (ci : List (Nat × Int32)) (cj : List (Nat × Int64)) (pc : Nat) (L : List Slot) (st : List Value)  (len : Nat) : nx code ci cj (.iaload) len pc L st = none := rfl
theorem n_laload (code : ByteArray) (ci : List (Nat × Int32)) (cj : List (Nat × Int64)) (pc : Nat) (L : List Slot) (st : List Value)  (len : Nat) : nx code ci cj (.laload) len pc L st = none := rfl
theorem n_baload (code : ByteArray) (ci : List (Nat × Int32)) (cj : List (Nat × Int64)) (pc : Nat) (L : List Slot) (st : List Value)  (len : Nat) : nx code ci cj (.baload) len pc L st = none := rfl
theorem n_iastore (code : ByteArray) (ci : List (Nat × Int32)) (cj : List (Nat × Int64)) (pc : Nat) (L : List Slot) (st : List Value)  (len : Nat) : nx code ci cj (.iastore) len pc L st = none := rfl
theorem n_lastore (code : ByteArray) (ci : List (Nat × Int32)) (cj : List (Nat × Int64)) (pc : Nat) (L : List Slot) (st : List Value)  (len : Nat) : nx code ci cj (.lastore) len pc L st = none := rfl
theorem n_bastore (code : ByteArray) (ci : List (Nat × Int32)) (cj : List (Nat × Int64)) (pc : Nat) (L : List Slot) (st : List Value)  (len : Nat) : nx code ci cj (.bastore) len pc L st = none := rfl
theorem n_arraylength (code : ByteArray) (ci : List (Nat × Int32)) (cj : List (Nat × Int64)) (pc : Nat) (L : List Slot) (st : List Value)  (len : Nat) : nx code ci cj (.arraylength) len pc L st = none := rfl
theorem n_ireturn (code : ByteArray) (ci : List (Nat × Int32)) (cj : List (Nat × Int64)) (pc : Nat) (L : List Slot) (st : List Value)  (len : Nat) : nx code ci cj (.ireturn) len pc L st = none := rfl
theorem n_lreturn (code : ByteArray) (ci : List (Nat × Int32)) (cj : List (Nat × Int64)) (pc : Nat) (L : List Slot) (st : List Value)  (len : Nat) : nx code ci cj (.lreturn) len pc L st = none := rfl
theorem n_return_ (code : ByteArray) (ci : List (Nat × Int32)) (cj : List (Nat × Int64)) (pc : Nat) (L : List Slot) (st : List Value)  (len : Nat) : nx code ci cj (.return_) len pc L st = none := rfl
end
theorem r_wp0 (code : ByteArray) (ci : List (Nat × Int32)) (cj : List (Nat × Int64)) (stops : List Nat) (pc : Nat) (L : List Slot) (st : List Value) (K : Nat → List Slot → List Value → Prop) : wpo code ci cj stops 0 pc L st K = K pc L st := rfl
theorem r_wpS (code : ByteArray) (ci : List (Nat × Int32)) (cj : List (Nat × Int64)) (stops : List Nat) (n pc : Nat) (L : List Slot) (st : List Value) (K : Nat → List Slot → List Value → Prop) : wpo code ci cj stops (n + 1) pc L st K =
    match nxt code ci cj pc L st with
    | none => K pc L st
    | some (.inl (ob, a, L', st')) => ob ∧ stopAt stops a (K a L' st') (wpo code ci cj stops n a L' st' K)
    | some (.inr (c, a, b, L', st')) => (c → stopAt stops a (K a L' st') (wpo code ci cj stops n a L' st' K)) ∧ (¬ c → stopAt stops b (K b L' st') (wpo code ci cj stops n b L' st' K)) := rfl
theorem r_nxt (code : ByteArray) (ci : List (Nat × Int32)) (cj : List (Nat × Int64)) (pc : Nat) (L : List Slot) (st : List Value) : nxt code ci cj pc L st = match decode code pc with | .ok r => nx code ci cj r.1 r.2 pc L st | .error _ => none := rfl
theorem r_stop0 (pc : Nat) (A B : Prop) : stopAt [] pc A B = B := rfl
theorem r_stopS (k : Nat) (t : List Nat) (pc : Nat) (A B : Prop) : stopAt (k :: t) pc A B = bif k == pc then A else stopAt t pc A B := rfl
theorem r_go (pc : Nat) (L : List Slot) (st : List Value) : go pc L st = some (.inl (True, pc, L, st)) := rfl
theorem r_goIf (ob : Prop) (pc : Nat) (L : List Slot) (st : List Value) : goIf ob pc L st = some (.inl (ob, pc, L, st)) := rfl
theorem r_fork (c : Prop) (a b : Nat) (L : List Slot) (st : List Value) : fork c a b L st = some (.inr (c, a, b, L, st)) := rfl
theorem r_tgt (pc : Nat) (o : Int) : tgt pc o = ((pc : Int) + o).toNat := rfl
theorem r_okO (pc : Nat) (o : Int) (r : Rs) : okO pc o r = if 0 ≤ (pc : Int) + o then r else none := rfl
theorem r_gI (v : Int32) (F : Int32 → Rs) : gI (some (.val (.int v))) F = F v := rfl
theorem r_gJ (v : Int64) (F : Int64 → Rs) : gJ (some (.val (.long v))) F = F v := rfl
theorem r_gA (v : Addr) (F : Value → Rs) : gA (some (.val (.ref v))) F = F (.ref v) := rfl
theorem r_pI (x : Int32) (r : List Value) (F : Int32 → List Value → Rs) : pI (.int x :: r) F = F x r := rfl
theorem r_pJ (x : Int64) (r : List Value) (F : Int64 → List Value → Rs) : pJ (.long x :: r) F = F x r := rfl
theorem r_pA (x : Addr) (r : List Value) (F : Value → List Value → Rs) : pA (.ref x :: r) F = F (.ref x) r := rfl
theorem r_p1r (x : Addr) (r : List Value) (F : Value → List Value → Rs) : p1 (.ref x :: r) F = F (.ref x) r := rfl
theorem r_p1i (x : Int32) (r : List Value) (F : Value → List Value → Rs) : p1 (.int x :: r) F = F (.int x) r := rfl
theorem r_pII (x y : Int32) (r : List Value) (F : Int32 → Int32 → List Value → Rs) : pII (.int y :: .int x :: r) F = F x y r := rfl
theorem r_pJJ (x y : Int64) (r : List Value) (F : Int64 → Int64 → List Value → Rs) : pJJ (.long y :: .long x :: r) F = F x y r := rfl
theorem r_pJI (x : Int64) (y : Int32) (r : List Value) (F : Int64 → Int32 → List Value → Rs) : pJI (.int y :: .long x :: r) F = F x y r := rfl
theorem r_fnd0 (k : Nat) : fnd ([] : List (Nat × α)) k = none := rfl
theorem r_fndS (j : Nat) (v : α) (t : List (Nat × α)) (k : Nat) : fnd ((j, v) :: t) k = bif j == k then some v else fnd t k := rfl
theorem r_gC (v : α) (F : α → Rs) : gC (some v) F = F v := rfl
theorem r_gC0 (F : α → Rs) : gC none F = none := rfl
theorem r_gB (cd : ClassFile.Cond) (o : Int) (F : ClassFile.Cond → Int → Rs) : gB (.ok (.ifCond cd o, 3)) F = F cd o := rfl
theorem r_st1 (L : List Slot) (k : Nat) (v : Value) (F : List Slot → Rs) (d : Rs) : st1 L k v F d = bif one (lget L k) then F (lput L k (.val v)) else d := rfl
theorem r_st2 (L : List Slot) (k : Nat) (v : Int64) (F : List Slot → Rs) (d : Rs) : st2 L k v F d = bif two (lget L k) (lget L (k + 1)) then F (lput (lput L k (.val (.long v))) (k + 1) .second) else d := rfl
theorem r_eq (x y : Int32) : cnd .eq x y = (x = y) := rfl
theorem r_ne (x y : Int32) : cnd .ne x y = (¬ x = y) := rfl
theorem r_lt (x y : Int32) : cnd .lt x y = (x < y) := rfl
theorem r_ge (x y : Int32) : cnd .ge x y = (¬ x < y) := rfl
theorem r_gt (x y : Int32) : cnd .gt x y = (y < x) := rfl
theorem r_le (x y : Int32) : cnd .le x y = (¬ y < x) := rfl
theorem r_eqL (x y : Int64) : cndL .eq x y = (x = y) := rfl
theorem r_neL (x y : Int64) : cndL .ne x y = (¬ x = y) := rfl
theorem r_ltL (x y : Int64) : cndL .lt x y = (x < y) := rfl
theorem r_geL (x y : Int64) : cndL .ge x y = (¬ x < y) := rfl
theorem r_gtL (x y : Int64) : cndL .gt x y = (y < x) := rfl
theorem r_leL (x y : Int64) : cndL .le x y = (¬ y < x) := rfl
theorem r_f0 : ((0 : Fin 4).val) = 0 := rfl
theorem r_f1 : ((1 : Fin 4).val) = 1 := rfl
theorem r_f2 : ((2 : Fin 4).val) = 2 := rfl
theorem r_f3 : ((3 : Fin 4).val) = 3 := rfl
theorem r_im1 : Int32.ofInt (-1) = -1 := rfl
theorem r_i0 : Int32.ofInt 0 = 0 := rfl
theorem r_i1 : Int32.ofInt 1 = 1 := rfl
theorem r_i2 : Int32.ofInt 2 = 2 := rfl
theorem r_i3 : Int32.ofInt 3 = 3 := rfl
theorem r_i4 : Int32.ofInt 4 = 4 := rfl
theorem r_i5 : Int32.ofInt 5 = 5 := rfl
theorem r_i7 : Int32.ofInt 7 = 7 := rfl
theorem r_l0 : Int64.ofNat ((0 : Fin 2).val) = 0 := rfl
theorem r_l1 : Int64.ofNat ((1 : Fin 2).val) = 1 := rfl
/-! contracts of bodies that only reckon, and the call of one -/
section
variable {l : Launch} {Z : State} {a0 : Array Value} {tb : List Jvm.Cond} {y : MethodName} {bytes : ByteArray} {maxL : Nat} {ret : Option FieldType} {ws : List Jvm.Cond} {as' : Array Value} {h0 : Heap} {ci : List (Nat × Int32)} {cj : List (Nat × Int64)} {L0 : List Slot} {stops : List Nat} {n : Nat}
def room0 : Room := { frames := 0, cells := 0, slots := 0, locals := 0 }
def PureQ (V : Value) (h0 : Heap) (v : Option Value) (h : Heap) (L : List Loc) : Prop := v = some V ∧ L = [] ∧ h = h0
abbrev Pays (l : Launch) (Z : State) (y : MethodName) (bytes : ByteArray) (maxL : Nat) (ret : Option FieldType) (ws : List Jvm.Cond) (as' : Array Value) (h0 : Heap) (V : Value) : Prop :=
  MetFree l y (head1 (Jvm.Cond.code y bytes maxL ret :: ws) room0) (fun a U => a = as' ∧ Z.Warmed39 U.vm ∧ U.heap = h0) (fun _ _ _ _ _ => True) (fun _ U o U' => ∃ v L, o = .returned v ∧ PureQ V h0 v U'.heap L ∧ FrameEnd U o U' L room0.cells room0.slots)
theorem pureI (hpn : plainName y.cls = true) (hw : ∀ d ∈ tb, d.before a0 Z = true) (hci : ∀ q ∈ ci, Jvm.Cond.constant y.cls q.1 q.2 ∈ tb) (hcj : ∀ q ∈ cj, Jvm.Cond.constantLong y.cls q.1 q.2 ∈ tb) (hef : ∀ m, entryFrame m as' maxL = mkF m 0 L0.toArray []) (hret : ret = some .int) {z : Int32}
    (h : wpo bytes ci cj stops n 0 L0 [] (fun a _ u => decode bytes a = .ok (.ireturn, 1) ∧ u = [.int z])) : Pays l Z y bytes maxL ret ws as' h0 (.int z) := by
  refine MetFree.of_bodySF (plainFor_of_name hpn) hisR ?_
  intro p e s m args below meth c s₁ Bd hml0 hP hK
  obtain ⟨rfl, hZ, hh⟩ := hP
  have hown : s.vm.findClass y.cls = some m.cls := findClass_of_methodNamed Bd.named
  have X0 : Stand p l e room0 s m args below meth c s₁ [] 0 0 := Stand.of_body Bd
  have e0 : s₁.heap = h0 := by rw [← hh, Bd.state]; rfl
  obtain ⟨fs, hr, hrun, hended, hW, hsame⟩ := X0.leave (v := some (.int z)) (fun h => by rw [Bd.returns, hret] at h; cases h)
  refine ⟨_, _, castTop (hef m) ?_, hrun, hended, _, _, rfl, ?_, ⟨_, rfl⟩, hW, hsame.mono (by decide) (by decide)⟩
  · exact endI X0 Bd.exec Bd.bytes hown (cI hZ hw hci) (cJ hZ hw hcj) h (Bd.returns.trans hret) hr
  · exact ⟨rfl, rfl, e0⟩
theorem pureN {t : FieldType} (ht : t = .boolean ∨ t = .byte ∨ t = .char ∨ t = .short) (hpn : plainName y.cls = true) (hw : ∀ d ∈ tb, d.before a0 Z = true) (hci : ∀ q ∈ ci, Jvm.Cond.constant y.cls q.1 q.2 ∈ tb) (hcj : ∀ q ∈ cj, Jvm.Cond.constantLong y.cls q.1 q.2 ∈ tb) (hef : ∀ m, entryFrame m as' maxL = mkF m 0 L0.toArray []) (hret : ret = some t) {z : Int32} (hz : nar t z = z)
    (h : wpo bytes ci cj stops n 0 L0 [] (fun a _ u => decode bytes a = .ok (.ireturn, 1) ∧ u = [.int z])) : Pays l Z y bytes maxL ret ws as' h0 (.int z) := by
  refine MetFree.of_bodySF (plainFor_of_name hpn) hisR ?_
  intro p e s m args below meth c s₁ Bd hml0 hP hK
  obtain ⟨rfl, hZ, hh⟩ := hP
  have hown : s.vm.findClass y.cls = some m.cls := findClass_of_methodNamed Bd.named
  have X0 : Stand p l e room0 s m args below meth c s₁ [] 0 0 := Stand.of_body Bd
  have e0 : s₁.heap = h0 := by rw [← hh, Bd.state]; rfl
  obtain ⟨fs, hr, hrun, hended, hW, hsame⟩ := X0.leave (v := some (.int z)) (fun h => by rw [Bd.returns, hret] at h; cases h)
  refine ⟨_, _, castTop (hef m) ?_, hrun, hended, _, _, rfl, ?_, ⟨_, rfl⟩, hW, hsame.mono (by decide) (by decide)⟩
  · exact endN X0 Bd.exec Bd.bytes hown (cI hZ hw hci) (cJ hZ hw hcj) h (Bd.returns.trans hret) ht (by rw [hz]; exact hr)
  · exact ⟨rfl, rfl, e0⟩
theorem pureJ (hpn : plainName y.cls = true) (hw : ∀ d ∈ tb, d.before a0 Z = true) (hci : ∀ q ∈ ci, Jvm.Cond.constant y.cls q.1 q.2 ∈ tb) (hcj : ∀ q ∈ cj, Jvm.Cond.constantLong y.cls q.1 q.2 ∈ tb) (hef : ∀ m, entryFrame m as' maxL = mkF m 0 L0.toArray []) (hret : ret = some .long) {z : Int64}
    (h : wpo bytes ci cj stops n 0 L0 [] (fun a _ u => decode bytes a = .ok (.lreturn, 1) ∧ u = [.long z])) : Pays l Z y bytes maxL ret ws as' h0 (.long z) := by
  refine MetFree.of_bodySF (plainFor_of_name hpn) hisR ?_
  intro p e s m args below meth c s₁ Bd hml0 hP hK
  obtain ⟨rfl, hZ, hh⟩ := hP
  have hown : s.vm.findClass y.cls = some m.cls := findClass_of_methodNamed Bd.named
  have X0 : Stand p l e room0 s m args below meth c s₁ [] 0 0 := Stand.of_body Bd
  have e0 : s₁.heap = h0 := by rw [← hh, Bd.state]; rfl
  obtain ⟨fs, hr, hrun, hended, hW, hsame⟩ := X0.leave (v := some (.long z)) (fun h => by rw [Bd.returns, hret] at h; cases h)
  refine ⟨_, _, castTop (hef m) ?_, hrun, hended, _, _, rfl, ?_, ⟨_, rfl⟩, hW, hsame.mono (by decide) (by decide)⟩
  · exact endJ X0 Bd.exec Bd.bytes hown (cI hZ hw hci) (cJ hZ hw hcj) h (Bd.returns.trans hret) hr
  · exact ⟨rfl, rfl, e0⟩
variable {p : Program} {e : Env} {R : Room} {s : State} {m : MethodId} {args : Array Value} {below : List Frame} {meth : Method} {c : Code} {T : State} {locs : List Loc} {cells slots : Nat} {own : String} {V : Value}
/-- the call of a static body that only reckons: the state moves, its heap doesn't -/
theorem callPure (X : Stand p l e R s m args below meth c T locs cells slots) (hx : p.tables.exec = Jvm.exec) (hZ : Z.Warmed39 s.vm) (hown : s.vm.findClass own = some m.cls) {index : Nat}
    (w1 : (Jvm.Cond.methodLink own index y).before a0 Z = true) (w2 : (Jvm.Cond.static y).before a0 Z = true) (w3 : (Jvm.Cond.initialized y.cls).before a0 Z = true) (w4 : (Jvm.Cond.code y bytes maxL ret).before a0 Z = true) (hy : y.cls ≠ "java/lang/invoke/MethodHandle" ∧ y.cls ≠ "java/lang/invoke/VarHandle")
    {h : Heap} (eT : T.heap = h) {argsL rest : List Value} (hM : Pays l Z y bytes maxL ret [] argsL.toArray h V) {W : Nat} (hf : 1 ≤ R.frames) (hl : W + (maxL + 11) ≤ R.locals) (hcl : cells ≤ R.cells) (hsl : slots ≤ R.slots)
    {pc : Nat} {Ls : Array Slot} {st : List Value} (hsize : Ls.size = c.maxLocals) (hlen : ∀ sig, parseMethodDescriptor y.desc = some sig → argsL.length = sig.parameters.length) (hst : st = argsL.reverse ++ rest) (hW : (rest.map fun v => v.category).sum ≤ W) (hd : decode c.code pc = .ok (.invokestatic index, 3)) :
    ∃ T', Stand p l e R s m args below meth c T' locs cells slots ∧ T'.heap = h ∧ ∀ target, Steps p.tables e below (T'.setTop (mkF m (pc + 3) Ls (V :: rest))) target → Steps p.tables e below (T.setTop (mkF m pc Ls st)) target := by
  obtain ⟨v, _, ⟨T5, L5, k5, n5⟩, -, X5, ⟨Lc5, hQ5, l5, y5, z5⟩, st5⟩ := Jvm.LawKit.callS X hx (y := y) hown (mvT hZ w1) (mvT hZ w2) (mvT hZ w3) (mvT hZ w4) hy (backOf (W := W) hM hZ w4 w3 hf hl) (g := mkF m pc Ls st) rfl hsize (argsL := argsL) (rest := rest) hlen hst (by show 2 * 0 + _ ≤ _; rw [Nat.mul_zero, Nat.zero_add]; exact hW) hd (fun _ _ => ⟨rfl, eT, hcl, hsl⟩)
  dsimp only [Pt.U, Pt.locs, Pt.cells, Pt.slots] at X5 l5 y5 z5 st5 hQ5
  obtain ⟨rfl, rfl, hq⟩ := hQ5
  subst y5 z5
  rw [List.append_nil] at l5
  subst l5
  exact ⟨T5, X5, hq, st5⟩
end
end Jvm.OwnRun
/-! OwnNum: shifts and remainders as integers -/
namespace Jvm.OwnRun
theorem nat32 (x : Int32) : (x.toBitVec.toNat : Int) = x.toInt % 4294967296 := by
  have h : x.toBitVec = BitVec.ofInt 32 x.toInt := (BitVec.ofInt_toInt (x := x.toBitVec)).symm
  have h2 := congrArg BitVec.toNat h
  rw [BitVec.toNat_ofInt] at h2
  omega
theorem nat64 (x : Int64) : (x.toBitVec.toNat : Int) = x.toInt % 18446744073709551616 := by
  have h : x.toBitVec = BitVec.ofInt 64 x.toInt := (BitVec.ofInt_toInt (x := x.toBitVec)).symm
  have h2 := congrArg BitVec.toNat h
  rw [BitVec.toNat_ofInt] at h2
  omega
theorem small32 (x : Int32) (h : x.toBitVec.toNat < 2147483648) : x.toInt = (x.toBitVec.toNat : Int) := by
  have h1 := nat32 x
  have h2 := x.toInt_lt
  have h3 := x.le_toInt
  omega
theorem small64 (x : Int64) (h : x.toBitVec.toNat < 9223372036854775808) : x.toInt = (x.toBitVec.toNat : Int) := by
  have h1 := nat64 x
  have h2 := x.toInt_lt
  have h3 := x.le_toInt
  omega
theorem bv_ushr (x y : Int32) {k : Nat} (hk : (y &&& 31).toBitVec.toNat = k) (h2 : k < 32) : (oushr x y).toBitVec = x.toBitVec >>> k := by
  have e : (oushr x y).toBitVec = x.toBitVec >>> ((y &&& 31).toBitVec % 32#32) := rfl
  rw [e, BitVec.ushiftRight_eq', BitVec.toNat_umod, hk]
  rw [show (32#32).toNat = 32 from rfl, Nat.mod_eq_of_lt h2]
theorem num_ushr (x y : Int32) {k : Nat} (hk : (y &&& 31).toBitVec.toNat = k) (h1 : 0 < k) (h2 : k < 32) : (oushr x y).toInt = x.toInt % 4294967296 / 2 ^ k := by
  have e := congrArg BitVec.toNat (bv_ushr x y hk h2)
  rw [BitVec.toNat_ushiftRight, Nat.shiftRight_eq_div_pow] at e
  have hp : 2 ≤ 2 ^ k := by
    obtain ⟨j, rfl⟩ : ∃ j, k = j + 1 := ⟨k - 1, by omega⟩
    have := Nat.one_le_two_pow (n := j)
    rw [Nat.pow_succ]; omega
  have hl : x.toBitVec.toNat / 2 ^ k ≤ x.toBitVec.toNat / 2 := Nat.div_le_div_left hp (by decide)
  have hx := x.toBitVec.isLt
  rw [small32 _ (by rw [e]; omega), e, ← nat32 x]
  simp
theorem bv_ushrL (x : Int64) (y : Int32) {k : Nat} (hk : (y &&& 0x3f).toInt64.toBitVec.toNat = k) (h2 : k < 64) : (oushrL x y).toBitVec = x.toBitVec >>> k := by
  have e : (oushrL x y).toBitVec = x.toBitVec >>> ((y &&& 0x3f).toInt64.toBitVec % 64#64) := rfl
  rw [e, BitVec.ushiftRight_eq', BitVec.toNat_umod, hk]
  rw [show (64#64).toNat = 64 from rfl, Nat.mod_eq_of_lt h2]
theorem num_ushrL (x : Int64) (y : Int32) {k : Nat} (hk : (y &&& 0x3f).toInt64.toBitVec.toNat = k) (h1 : 0 < k) (h2 : k < 64) : (oushrL x y).toInt = x.toInt % 18446744073709551616 / 2 ^ k := by
  have e := congrArg BitVec.toNat (bv_ushrL x y hk h2)
  rw [BitVec.toNat_ushiftRight, Nat.shiftRight_eq_div_pow] at e
  have hp : 2 ≤ 2 ^ k := by
    obtain ⟨j, rfl⟩ : ∃ j, k = j + 1 := ⟨k - 1, by omega⟩
    have := Nat.one_le_two_pow (n := j)
    rw [Nat.pow_succ]; omega
  have hl : x.toBitVec.toNat / 2 ^ k ≤ x.toBitVec.toNat / 2 := Nat.div_le_div_left hp (by decide)
  have hx := x.toBitVec.isLt
  rw [small64 _ (by rw [e]; omega), e, ← nat64 x]
  simp
theorem own_rem32 {x y : Int32} (hx : 0 ≤ x.toInt) (hy : 0 < y.toInt) : (x - x / y * y).toInt = x.toInt % y.toInt := by
  have hd : (x / y).toInt = x.toInt / y.toInt := by rw [Jvm.Kit.i32_div (by omega), Int.tdiv_eq_ediv_of_nonneg hx]
  have hn : 0 ≤ x.toInt / y.toInt := Int.ediv_nonneg hx (by omega)
  have hm : 0 ≤ x.toInt / y.toInt * y.toInt := Int.mul_nonneg hn (by omega)
  have hl : x.toInt / y.toInt * y.toInt ≤ x.toInt := Int.ediv_mul_le _ (by omega)
  have hX := x.toInt_lt
  have e1 : (x / y * y).toInt = x.toInt / y.toInt * y.toInt := by rw [Jvm.Kit.i32_mul (by rw [hd]; omega) (by rw [hd]; omega), hd]
  rw [Jvm.Kit.i32_sub (by rw [e1]; omega) (by rw [e1]; omega), e1, Int.emod_def, Int.mul_comm]
theorem own_rem64 {x y : Int64} (hx : 0 ≤ x.toInt) : (x - x / y * y).toInt = x.toInt % y.toInt := Jvm.Kit.i64_rem_nonneg hx
theorem idx32 {j : Int32} {k : Nat} (h : j.toInt = k) : ¬ j < 0 ∧ j.toNatClampNeg = k := by
  refine ⟨fun q => ?_, ?_⟩
  · rw [Int32.lt_iff_toInt_lt] at q
    have t : (0 : Int32).toInt = 0 := rfl
    omega
  · show j.toInt.toNat = k
    omega
end Jvm.OwnRun
/-! OwnArr: an array by what each place holds -/
namespace Jvm.OwnRun
open Sem ClassFile Op Lib Jvm.Stand Jvm.Free Jvm.LawKit Jvm.RoadKit
def oupd {α : Type} (f : Nat → α) (i : Nat) (v : α) (k : Nat) : α := if k = i then v else f k
def Ary (Z : State) (h : Heap) (a : Addr) (ty : FieldType) (n : Nat) (f : Nat → Value) : Prop := ∃ c : Cell, Arr Z h a c ty ∧ c.slots.size = n ∧ ∀ k, k < n → c.slots[k]? = some (f k)
abbrev AI (Z : State) (h : Heap) (a : Addr) (ty : FieldType) (n : Nat) (g : Nat → Int32) : Prop := Ary Z h a ty n (fun k => .int (g k))
abbrev AJ (Z : State) (h : Heap) (a : Addr) (n : Nat) (g : Nat → Int64) : Prop := Ary Z h a .long n (fun k => .long (g k))
section
variable {Z : State} {h h' : Heap} {a b : Addr} {ty : FieldType} {n i : Nat} {f : Nat → Value} {v : Value} {ws : List Addr}
theorem Ary.lt (A : Ary Z h a ty n f) : a < h.size := by obtain ⟨c, A, -⟩ := A; exact A.lt
theorem Ary.ext (A : Ary Z h a ty n f) (E : Ext h h') : Ary Z h' a ty n f := by obtain ⟨c, A, r⟩ := A; exact ⟨c, A.ext E, r⟩
theorem Ary.keep (A : Ary Z h a ty n f) (K : Keep h h' ws) (q : a ∉ ws) : Ary Z h' a ty n f := by obtain ⟨c, A, r⟩ := A; exact ⟨c, ⟨K.2.1 a c A.1 q, A.2⟩, r⟩
theorem Ary.set (A : Ary Z h a ty n f) (W : Wr h h' a i v) : Ary Z h' a ty n (oupd f i v) := by
  obtain ⟨c, A, S, H⟩ := A
  refine ⟨_, Arr.same W A, by rw [sz_set]; exact S, fun k hk => ?_⟩
  unfold oupd
  by_cases u : k = i
  · subst u
    have q : k < c.slots.size := by rw [S]; exact hk
    show (c.slots.setIfInBounds k v)[k]? = _
    rw [Array.getElem?_setIfInBounds_self_of_lt q, if_pos rfl]
  · show (c.slots.setIfInBounds i v)[k]? = _
    rw [Array.getElem?_setIfInBounds_ne (fun q => u q.symm), if_neg u]
    exact H k hk
theorem Ary.cast {f' : Nat → Value} (A : Ary Z h a ty n f) (q : ∀ k, k < n → f k = f' k) : Ary Z h a ty n f' := by
  obtain ⟨c, A, S, H⟩ := A
  exact ⟨c, A, S, fun k hk => (q k hk) ▸ H k hk⟩
theorem oupd_int (g : Nat → Int32) (i : Nat) (x : Int32) : oupd (fun k => Value.int (g k)) i (.int x) = fun k => .int (oupd g i x k) := by
  funext k; unfold oupd; split <;> rfl
theorem oupd_long (g : Nat → Int64) (i : Nat) (x : Int64) : oupd (fun k => Value.long (g k)) i (.long x) = fun k => .long (oupd g i x k) := by
  funext k; unfold oupd; split <;> rfl
end
section
variable {p : Program} {l : Launch} {e : Env} {R : Room} {s : State} {m : MethodId} {args : Array Value} {below : List Frame} {meth : Method} {c : Code} {T : State} {locs : List Loc} {cells slots : Nat} {Z : State} {n i n0 : Nat} {a : Addr} {j : Int32} {pc : Nat} {Ls : Array Slot} {rest st : List Value} {a0 : Array Value}
theorem in_of {c : Cell} (S : c.slots.size = n) (h0 : ¬ j < 0) (hj : j.toNatClampNeg = i) (hi : i < n) : ¬ (j < 0 ∨ c.slots.size ≤ j.toNatClampNeg) := fun q => q.elim h0 (fun q => by rw [S, hj] at q; omega)
/-- newarray of a length that is written out -/
theorem mkArr (X : Stand p l e R s m args below meth c T locs cells slots) (hx : p.tables.exec = Jvm.exec) (hZ : Z.Warmed39 s.vm) {aty : ArrayType} (w : (Jvm.Cond.arrayClass (newarray.typeOf aty)).before a0 Z = true) (Z0 : n0 ≤ T.heap.size) (hd : decode c.code pc = .ok (.newarray aty, 2)) {z : Int32} (hz : ¬ z < 0) (hn : z.toNatClampNeg = n) (hb : n * 8 ≤ 536870912) (hc : cells + 1 ≤ R.cells) (hl : slots + n ≤ R.slots) :
    ∃ T' b, Stand p l e R s m args below meth c T' locs (cells + 1) (slots + n) ∧ n0 ≤ b ∧ T.heap.size ≤ b ∧ Ext T.heap T'.heap ∧ Ary Z T'.heap b (newarray.typeOf aty) n (fun _ => defaultValue (newarray.typeOf aty)) ∧ n0 ≤ T'.heap.size ∧ ∀ t, Steps p.tables e below (T'.setTop (mkF m (pc + 2) Ls (.ref b :: rest))) t → Steps p.tables e below (T.setTop (mkF m pc Ls (.int z :: rest))) t := by
  obtain ⟨T', h', cA, X', e', E, A, st⟩ := newP X hx hZ w rfl (g := mkF m pc Ls (.int z :: rest)) rfl hd rfl hz (cap := n) (Nat.le_of_eq hn) hb hc hl
  subst e'
  refine ⟨T', _, X', Z0, Nat.le_refl _, E, ⟨_, A, by rw [sz_new, hn], fun k hk => ?_⟩, Nat.le_trans Z0 E.1, st⟩
  rw [← hn] at hk
  simp [newA, hk]
theorem putI (X : Stand p l e R s m args below meth c T locs cells slots) (hx : p.tables.exec = Jvm.exec) (hZ : Z.Warmed39 s.vm) {g : Nat → Int32} (A : AI Z T.heap a .int n g) (h0 : ¬ j < 0) (hj : j.toNatClampNeg = i) (hi : i < n) (N : Fr n0 locs) (ga : n0 ≤ a) (x : Int32) (hd : decode c.code pc = .ok (.iastore, 1)) :
    ∃ T' locs', Stand p l e R s m args below meth c T' locs' cells slots ∧ Fr n0 locs' ∧ AI Z T'.heap a .int n (oupd g i x) ∧ Keep T.heap T'.heap [a] ∧ ∀ t, Steps p.tables e below (T'.setTop (mkF m (pc + 1) Ls rest)) t → Steps p.tables e below (T.setTop (mkF m pc Ls (.int x :: .int j :: .ref a :: rest))) t := by
  obtain ⟨cl, Ar, S, H⟩ := id A
  obtain ⟨T', h', X', e', W, st⟩ := stI X hx hZ rfl Ar (in_of S h0 hj hi) (g := mkF m pc Ls (.int x :: .int j :: .ref a :: rest)) rfl rfl hd
  subst e'
  refine ⟨T', _, X', Fr.snoc X' N ga, ?_, Keep.of_wr W, st⟩
  have q := A.set W
  rw [hj, oupd_int] at q
  exact q
theorem putB (X : Stand p l e R s m args below meth c T locs cells slots) (hx : p.tables.exec = Jvm.exec) (hZ : Z.Warmed39 s.vm) {g : Nat → Int32} (A : AI Z T.heap a .byte n g) (h0 : ¬ j < 0) (hj : j.toNatClampNeg = i) (hi : i < n) (N : Fr n0 locs) (ga : n0 ≤ a) (x : Int32) (hd : decode c.code pc = .ok (.bastore, 1)) :
    ∃ T' locs', Stand p l e R s m args below meth c T' locs' cells slots ∧ Fr n0 locs' ∧ AI Z T'.heap a .byte n (oupd g i x.toInt8.toInt32) ∧ Keep T.heap T'.heap [a] ∧ ∀ t, Steps p.tables e below (T'.setTop (mkF m (pc + 1) Ls rest)) t → Steps p.tables e below (T.setTop (mkF m pc Ls (.int x :: .int j :: .ref a :: rest))) t := by
  obtain ⟨cl, Ar, S, H⟩ := id A
  obtain ⟨T', h', X', e', W, st⟩ := stB X hx hZ rfl Ar (in_of S h0 hj hi) (g := mkF m pc Ls (.int x :: .int j :: .ref a :: rest)) rfl rfl hd
  subst e'
  refine ⟨T', _, X', Fr.snoc X' N ga, ?_, Keep.of_wr W, st⟩
  have q := A.set W
  rw [hj, oupd_int] at q
  exact q
theorem putJ (X : Stand p l e R s m args below meth c T locs cells slots) (hx : p.tables.exec = Jvm.exec) (hZ : Z.Warmed39 s.vm) {g : Nat → Int64} (A : AJ Z T.heap a n g) (h0 : ¬ j < 0) (hj : j.toNatClampNeg = i) (hi : i < n) (N : Fr n0 locs) (ga : n0 ≤ a) (x : Int64) (hd : decode c.code pc = .ok (.lastore, 1)) :
    ∃ T' locs', Stand p l e R s m args below meth c T' locs' cells slots ∧ Fr n0 locs' ∧ AJ Z T'.heap a n (oupd g i x) ∧ Keep T.heap T'.heap [a] ∧ ∀ t, Steps p.tables e below (T'.setTop (mkF m (pc + 1) Ls rest)) t → Steps p.tables e below (T.setTop (mkF m pc Ls (.long x :: .int j :: .ref a :: rest))) t := by
  obtain ⟨cl, Ar, S, H⟩ := id A
  obtain ⟨T', h', X', e', W, st⟩ := stJ X hx hZ rfl Ar (in_of S h0 hj hi) (g := mkF m pc Ls (.long x :: .int j :: .ref a :: rest)) rfl rfl hd
  subst e'
  refine ⟨T', _, X', Fr.snoc X' N ga, ?_, Keep.of_wr W, st⟩
  have q := A.set W
  rw [hj, oupd_long] at q
  exact q
theorem getI (X : Stand p l e R s m args below meth c T locs cells slots) (hx : p.tables.exec = Jvm.exec) (hZ : Z.Warmed39 s.vm) {g : Nat → Int32} (A : AI Z T.heap a .int n g) (h0 : ¬ j < 0) (hj : j.toNatClampNeg = i) (hi : i < n) (hd : decode c.code pc = .ok (.iaload, 1)) (t : State) (k : Steps p.tables e below (T.setTop (mkF m (pc + 1) Ls (.int (g i) :: rest))) t) : Steps p.tables e below (T.setTop (mkF m pc Ls (.int j :: .ref a :: rest))) t := by
  obtain ⟨cl, Ar, S, H⟩ := A
  exact X.iaload hx (v := .int (g i)) Ar.1 (State.isArrayOf_alike hZ.alike Ar.2.1) Ar.2.2 (in_of S h0 hj hi) (by rw [hj]; exact H i hi) (g := mkF m pc Ls (.int j :: .ref a :: rest)) rfl rfl hd _ k
theorem getB (X : Stand p l e R s m args below meth c T locs cells slots) (hx : p.tables.exec = Jvm.exec) (hZ : Z.Warmed39 s.vm) {g : Nat → Int32} (A : AI Z T.heap a .byte n g) (h0 : ¬ j < 0) (hj : j.toNatClampNeg = i) (hi : i < n) (hd : decode c.code pc = .ok (.baload, 1)) (t : State) (k : Steps p.tables e below (T.setTop (mkF m (pc + 1) Ls (.int (g i) :: rest))) t) : Steps p.tables e below (T.setTop (mkF m pc Ls (.int j :: .ref a :: rest))) t := by
  obtain ⟨cl, Ar, S, H⟩ := A
  exact X.baloadBytes hx (v := .int (g i)) Ar.1 (State.isArrayOf_alike hZ.alike Ar.2.1) Ar.2.2 (in_of S h0 hj hi) (by rw [hj]; exact H i hi) (g := mkF m pc Ls (.int j :: .ref a :: rest)) rfl rfl hd _ k
theorem getJ (X : Stand p l e R s m args below meth c T locs cells slots) (hx : p.tables.exec = Jvm.exec) (hZ : Z.Warmed39 s.vm) {g : Nat → Int64} (A : AJ Z T.heap a n g) (h0 : ¬ j < 0) (hj : j.toNatClampNeg = i) (hi : i < n) (hd : decode c.code pc = .ok (.laload, 1)) (t : State) (k : Steps p.tables e below (T.setTop (mkF m (pc + 1) Ls (.long (g i) :: rest))) t) : Steps p.tables e below (T.setTop (mkF m pc Ls (.int j :: .ref a :: rest))) t := by
  obtain ⟨cl, Ar, S, H⟩ := A
  exact X.laload hx (v := .long (g i)) Ar.1 (State.isArrayOf_alike hZ.alike Ar.2.1) Ar.2.2 (in_of S h0 hj hi) (by rw [hj]; exact H i hi) (g := mkF m pc Ls (.int j :: .ref a :: rest)) rfl rfl hd _ k
theorem lenA (X : Stand p l e R s m args below meth c T locs cells slots) (hx : p.tables.exec = Jvm.exec) (hZ : Z.Warmed39 s.vm) {ty : FieldType} {f : Nat → Value} (A : Ary Z T.heap a ty n f) (hd : decode c.code pc = .ok (.arraylength, 1)) (t : State) (k : Steps p.tables e below (T.setTop (mkF m (pc + 1) Ls (.int n.toInt32 :: rest))) t) : Steps p.tables e below (T.setTop (mkF m pc Ls (.ref a :: rest))) t := by
  obtain ⟨cl, Ar, S, H⟩ := A
  subst S
  exact X.arraylength hx (cell := cl) Ar.1 (State.isArrayOf_alike hZ.alike Ar.2.1) (g := mkF m pc Ls (.ref a :: rest)) rfl (rest := rest) rfl hd _ k
end
end Jvm.OwnRun
namespace Jvm.Pilot.@@N@@
open Jvm Jvm.ClassFile Sem Op Lib Jvm.Free Jvm.Stand Jvm.LawKit Jvm.RoadKit Bundle Jvm.Pilot.@@N@@.Jvm.D Jvm.OwnRun

theorem d1_0 : decode method_2_code 0 = .ok (.iload_n 0, 1) := by decide +kernel
theorem d1_1 : decode method_2_code 1 = .ok (.bipush 7, 2) := by decide +kernel
theorem d1_3 : decode method_2_code 3 = .ok (.iload_n 1, 1) := by decide +kernel
theorem d1_4 : decode method_2_code 4 = .ok (.imul, 1) := by decide +kernel
theorem d1_5 : decode method_2_code 5 = .ok (.iushr, 1) := by decide +kernel
theorem d1_6 : decode method_2_code 6 = .ok (.istore_n 3, 1) := by decide +kernel
theorem d1_7 : decode method_2_code 7 = .ok (.iload_n 1, 1) := by decide +kernel
theorem d1_8 : decode method_2_code 8 = .ok (.iload_n 2, 1) := by decide +kernel
theorem d1_9 : decode method_2_code 9 = .ok (.iconst 1, 1) := by decide +kernel
theorem d1_10 : decode method_2_code 10 = .ok (.isub, 1) := by decide +kernel
theorem d1_11 : decode method_2_code 11 = .ok (.if_icmp .ne 6, 3) := by decide +kernel
theorem d1_14 : decode method_2_code 14 = .ok (.iload_n 3, 1) := by decide +kernel
theorem d1_15 : decode method_2_code 15 = .ok (.i2b, 1) := by decide +kernel
theorem d1_16 : decode method_2_code 16 = .ok (.ireturn, 1) := by decide +kernel
theorem d1_17 : decode method_2_code 17 = .ok (.iload_n 3, 1) := by decide +kernel
theorem d1_18 : decode method_2_code 18 = .ok (.bipush 127, 2) := by decide +kernel
theorem d1_20 : decode method_2_code 20 = .ok (.iand, 1) := by decide +kernel
theorem d1_21 : decode method_2_code 21 = .ok (.sipush 128, 3) := by decide +kernel
theorem d1_24 : decode method_2_code 24 = .ok (.ior, 1) := by decide +kernel
theorem d1_25 : decode method_2_code 25 = .ok (.i2b, 1) := by decide +kernel
theorem d1_26 : decode method_2_code 26 = .ok (.ireturn, 1) := by decide +kernel
theorem d2_0 : decode prog_41_method_17_code 0 = .ok (.aload_n 0, 1) := by decide +kernel
theorem d2_1 : decode prog_41_method_17_code 1 = .ok (.iload_n 1, 1) := by decide +kernel
theorem d2_2 : decode prog_41_method_17_code 2 = .ok (.baload, 1) := by decide +kernel
theorem d2_3 : decode prog_41_method_17_code 3 = .ok (.istore_n 2, 1) := by decide +kernel
theorem d2_4 : decode prog_41_method_17_code 4 = .ok (.iload_n 2, 1) := by decide +kernel
theorem d2_5 : decode prog_41_method_17_code 5 = .ok (.ifCond .lt 5, 3) := by decide +kernel
theorem d2_8 : decode prog_41_method_17_code 8 = .ok (.iload_n 2, 1) := by decide +kernel
theorem d2_9 : decode prog_41_method_17_code 9 = .ok (.ireturn, 1) := by decide +kernel
theorem d2_10 : decode prog_41_method_17_code 10 = .ok (.iconst 0, 1) := by decide +kernel
theorem d2_11 : decode prog_41_method_17_code 11 = .ok (.istore_n 3, 1) := by decide +kernel
theorem d2_12 : decode prog_41_method_17_code 12 = .ok (.iload_n 1, 1) := by decide +kernel
theorem d2_13 : decode prog_41_method_17_code 13 = .ok (.istore 4, 2) := by decide +kernel
theorem d2_15 : decode prog_41_method_17_code 15 = .ok (.iconst 0, 1) := by decide +kernel
theorem d2_16 : decode prog_41_method_17_code 16 = .ok (.istore 5, 2) := by decide +kernel
theorem d2_18 : decode prog_41_method_17_code 18 = .ok (.aload_n 0, 1) := by decide +kernel
theorem d2_19 : decode prog_41_method_17_code 19 = .ok (.iload 4, 2) := by decide +kernel
theorem d2_21 : decode prog_41_method_17_code 21 = .ok (.iinc 4 1, 3) := by decide +kernel
theorem d2_24 : decode prog_41_method_17_code 24 = .ok (.baload, 1) := by decide +kernel
theorem d2_25 : decode prog_41_method_17_code 25 = .ok (.istore 6, 2) := by decide +kernel
theorem d2_27 : decode prog_41_method_17_code 27 = .ok (.iload_n 3, 1) := by decide +kernel
theorem d2_28 : decode prog_41_method_17_code 28 = .ok (.iload 6, 2) := by decide +kernel
theorem d2_30 : decode prog_41_method_17_code 30 = .ok (.bipush 127, 2) := by decide +kernel
theorem d2_32 : decode prog_41_method_17_code 32 = .ok (.iand, 1) := by decide +kernel
theorem d2_33 : decode prog_41_method_17_code 33 = .ok (.iload 5, 2) := by decide +kernel
theorem d2_35 : decode prog_41_method_17_code 35 = .ok (.ishl, 1) := by decide +kernel
theorem d2_36 : decode prog_41_method_17_code 36 = .ok (.ior, 1) := by decide +kernel
theorem d2_37 : decode prog_41_method_17_code 37 = .ok (.istore_n 3, 1) := by decide +kernel
theorem d2_38 : decode prog_41_method_17_code 38 = .ok (.iload 6, 2) := by decide +kernel
theorem d2_40 : decode prog_41_method_17_code 40 = .ok (.ifCond .lt 5, 3) := by decide +kernel
theorem d2_43 : decode prog_41_method_17_code 43 = .ok (.iload_n 3, 1) := by decide +kernel
theorem d2_44 : decode prog_41_method_17_code 44 = .ok (.ireturn, 1) := by decide +kernel
theorem d2_45 : decode prog_41_method_17_code 45 = .ok (.iinc 5 7, 3) := by decide +kernel
theorem d2_48 : decode prog_41_method_17_code 48 = .ok (.goto (-30), 3) := by decide +kernel
theorem b_6 : Int8.toInt32 6 = 6 := by decide
theorem b_7 : Int8.toInt32 7 = 7 := by decide
theorem b_8 : Int8.toInt32 8 = 8 := by decide
theorem b_9 : Int8.toInt32 9 = 9 := by decide
theorem b_10 : Int8.toInt32 10 = 10 := by decide
theorem b_11 : Int8.toInt32 11 = 11 := by decide
theorem b_12 : Int8.toInt32 12 = 12 := by decide
theorem b_14 : Int8.toInt32 14 = 14 := by decide
theorem b_16 : Int8.toInt32 16 = 16 := by decide
theorem b_21 : Int8.toInt32 21 = 21 := by decide
theorem b_24 : Int8.toInt32 24 = 24 := by decide
theorem b_28 : Int8.toInt32 28 = 28 := by decide
theorem b_32 : Int8.toInt32 32 = 32 := by decide
theorem b_40 : Int8.toInt32 40 = 40 := by decide
theorem b_48 : Int8.toInt32 48 = 48 := by decide
theorem b_56 : Int8.toInt32 56 = 56 := by decide
theorem b_127 : Int8.toInt32 127 = 127 := by decide
theorem s_128 : Int16.toInt32 128 = 128 := by decide
def ci0 : List (Nat × Int32) := []
def cj0 : List (Nat × Int64) := []
def ci1 : List (Nat × Int32) := []
def cj1 : List (Nat × Int64) := []
def ci2 : List (Nat × Int32) := []
def cj2 : List (Nat × Int64) := []

theorem pn_0 : plainName "com/example/riffle/riffle/RowFormatReadVarintPinLaw" = true := by first | (simp [plainName, overriddenIn]; done) | decide +kernel
theorem ef_0 (m : MethodId) (x0 : Int32) (x1 : Int32) (x2 : Int64) (x3 : Int64) : entryFrame m #[(.int x0), (.int x1), (.long x2), (.long x3)] maxLocals = mkF m 0 #[.val (.int x0), .val (.int x1), .val (.long x2), .second, .val (.long x3), .second, .unset, .unset, .unset] [] := by first | (simp [entryFrame, mkF, argsToLocals, Value.category, maxLocals]; done) | rfl
theorem pn_1 : plainName "com/example/riffle/riffle/RowFormatReadVarintPinLaw" = true := by first | (simp [plainName, overriddenIn]; done) | decide +kernel
theorem ef_1 (m : MethodId) (x0 : Int32) (x1 : Int32) (x2 : Int32) : entryFrame m #[(.int x0), (.int x1), (.int x2)] 4 = mkF m 0 #[.val (.int x0), .val (.int x1), .val (.int x2), .unset] [] := by first | (simp [entryFrame, mkF, argsToLocals, Value.category]; done) | rfl
theorem pd_1 : parseMethodDescriptor "(III)B" = some ⟨[.int, .int, .int], some .byte⟩ := by decide +kernel
theorem pn_2 : plainName "com/example/riffle/riffle/RowFormat" = true := by first | (simp [plainName, overriddenIn]; done) | decide +kernel
theorem ef_2 (m : MethodId) (x0 : Addr) (x1 : Int32) : entryFrame m #[(.ref x0), (.int x1)] 7 = mkF m 0 #[.val (.ref x0), .val (.int x1), .unset, .unset, .unset, .unset, .unset] [] := by first | (simp [entryFrame, mkF, argsToLocals, Value.category]; done) | rfl
theorem pd_2 : parseMethodDescriptor "([BI)I" = some ⟨[.array .byte, .int], some .int⟩ := by decide +kernel

/-! the plain functions -/
def own_by (x : Int32) : Int32 := x.toInt8.toInt32
def own_g (v i n : Int32) : Int32 := if i = n - 1 then own_by (oushr v (7 * i)) else own_by ((oushr v (7 * i) &&& 127) ||| 128)
def own_n (v : Int32) : Int32 := if oushr v 7 = 0 then 1 else if oushr v 14 = 0 then 2 else if oushr v 21 = 0 then 3 else if oushr v 28 = 0 then 4 else 5
def own_rd : List Int32 → Int32 → Int32 → Int32
  | [], _, r => r
  | b :: t, s, r => own_rd t (s + 7) (r ||| oshl (b &&& 127) s)
def Seq (G : Nat → Int32) : Nat → List Int32 → Prop
  | _, [] => False
  | i, [b] => G i = b ∧ ¬ b < 0
  | i, b :: c :: t => G i = b ∧ b < 0 ∧ Seq G (i + 1) (c :: t)
theorem own_byI (x : Int32) : (own_by x).toInt = x.toInt.bmod 256 := by
  unfold own_by
  rw [Int8.toInt_toInt32, Int32.toInt_toInt8]
theorem own_bm (x : Int) : (x.bmod 256 - x) % 256 = 0 ∧ -128 ≤ x.bmod 256 ∧ x.bmod 256 < 128 := by
  have h1 := Int.bmod_emod (x := x) (m := 256)
  have h2 := Int.le_bmod (x := x) (m := 256) (by decide)
  have h3 := Int.bmod_lt (x := x) (m := 256) (by decide)
  omega
theorem own_nar (x : Int32) : nar .byte (own_by x) = own_by x := by
  show (own_by x).toInt8.toInt32 = own_by x
  unfold own_by
  simp
theorem own_narg (v i n : Int32) : nar .byte (own_g v i n) = own_g v i n := by
  unfold own_g; split <;> exact own_nar _
theorem own_gby (v i n : Int32) : (own_g v i n).toInt8.toInt32 = own_g v i n := own_narg v i n
theorem own_orN (a c k : Nat) (hc : c < 2 ^ k) : a * 2 ^ k ||| c = a * 2 ^ k + c := by
  rw [Nat.mul_comm]
  exact (Nat.two_pow_add_eq_or_of_lt hc a).symm
theorem own_set7 (y : Int32) : ((y &&& 127) ||| 128).toInt = y.toInt % 128 + 128 := by
  have e : (y &&& 127).toInt = y.toInt % 2 ^ 7 := Jvm.Kit.i32_mask y 127 (k := 7) (by decide) (by decide)
  have n1 := nat32 (y &&& 127)
  have n2 : (128 : Int32).toBitVec.toNat = 1 * 2 ^ 7 := by decide
  have n3 : ((y &&& 127) ||| 128).toBitVec.toNat = (y &&& 127).toBitVec.toNat + 128 := by
    rw [Int32.toBitVec_or, BitVec.toNat_or, n2, Nat.or_comm, own_orN _ _ _ (by omega)]
    omega
  rw [small32 _ (by omega), n3]
  omega
theorem own_and7 (b : Int32) : (b &&& 127).toBitVec.toNat = (b.toInt % 128).toNat := by
  have e : (b &&& 127).toInt = b.toInt % 2 ^ 7 := Jvm.Kit.i32_mask b 127 (k := 7) (by decide) (by decide)
  have n1 := nat32 (b &&& 127)
  omega
theorem own_acc {r b s : Int32} {V k : Nat} (hV : V < 2 ^ 32) (hr : r.toBitVec.toNat = V % 2 ^ (7 * k)) (hb : (b &&& 127).toBitVec.toNat = V / 2 ^ (7 * k) % 128) (hs : ((s &&& 31).toBitVec.smod 32#32).toNat = 7 * k) : (r ||| oshl (b &&& 127) s).toBitVec.toNat = V % 2 ^ (7 * (k + 1)) := by
  have e1 : (oshl (b &&& 127) s).toBitVec = (b &&& 127).toBitVec <<< (7 * k) := by
    show (b &&& 127).toBitVec <<< ((s &&& 31).toBitVec.smod 32#32) = _
    rw [BitVec.shiftLeft_eq', hs]
  have hp : 0 < 2 ^ (7 * k) := Nat.two_pow_pos _
  have e2 : V % 2 ^ (7 * (k + 1)) = V % 2 ^ (7 * k) + 2 ^ (7 * k) * (V / 2 ^ (7 * k) % 128) := by
    rw [show 7 * (k + 1) = 7 * k + 7 by omega, Nat.pow_add, Nat.mod_mul]
  have hle : V % 2 ^ (7 * (k + 1)) ≤ V := Nat.mod_le _ _
  have e3 : (oshl (b &&& 127) s).toBitVec.toNat = (V / 2 ^ (7 * k) % 128) * 2 ^ (7 * k) := by
    have q : 2 ^ (7 * k) * (V / 2 ^ (7 * k) % 128) < 2 ^ 32 := by omega
    rw [Nat.mul_comm] at q
    rw [e1, BitVec.toNat_shiftLeft, hb, Nat.shiftLeft_eq, Nat.mod_eq_of_lt q]
  rw [Int32.toBitVec_or, BitVec.toNat_or, hr, e3, Nat.or_comm, own_orN _ _ _ (Nat.mod_lt _ hp), e2, Nat.mul_comm, Nat.add_comm]
/-- a group that isn't the last -/
theorem own_gn {v i n : Int32} {k : Nat} (hne : ¬ i = n - 1) (hk : ((7 * i) &&& 31).toBitVec.toNat = 7 * k) (h32 : 7 * k < 32) : own_g v i n < 0 ∧ (own_g v i n &&& 127).toBitVec.toNat = v.toBitVec.toNat / 2 ^ (7 * k) % 128 := by
  have eb : (oushr v (7 * i)).toBitVec.toNat = v.toBitVec.toNat / 2 ^ (7 * k) := by
    rw [bv_ushr v (7 * i) hk h32, BitVec.toNat_ushiftRight, Nat.shiftRight_eq_div_pow]
  have n1 := nat32 (oushr v (7 * i))
  have e1 := own_set7 (oushr v (7 * i))
  have e2 := own_byI ((oushr v (7 * i) &&& 127) ||| 128)
  have e3 := own_bm ((oushr v (7 * i) &&& 127) ||| 128).toInt
  unfold own_g
  rw [if_neg hne]
  refine ⟨?_, ?_⟩
  · rw [Int32.lt_iff_toInt_lt, e2]
    show _ < (0 : Int)
    omega
  · rw [own_and7, e2, ← eb]
    omega
theorem own_gl {v i n : Int32} {k : Nat} (he : i = n - 1) (hk : ((7 * i) &&& 31).toBitVec.toNat = 7 * k) (h32 : 7 * k < 32) (hv : v.toBitVec.toNat / 2 ^ (7 * k) < 128) : ¬ own_g v i n < 0 ∧ (own_g v i n &&& 127).toBitVec.toNat = v.toBitVec.toNat / 2 ^ (7 * k) % 128 ∧ (own_g v i n).toBitVec.toNat = v.toBitVec.toNat / 2 ^ (7 * k) := by
  have eb : (oushr v (7 * i)).toBitVec.toNat = v.toBitVec.toNat / 2 ^ (7 * k) := by
    rw [bv_ushr v (7 * i) hk h32, BitVec.toNat_ushiftRight, Nat.shiftRight_eq_div_pow]
  have n1 := small32 (oushr v (7 * i)) (by omega)
  have e2 := own_byI (oushr v (7 * i))
  rw [n1, eb] at e2
  have e4 : own_g v i n = oushr v (7 * i) := by
    unfold own_g
    rw [if_pos he]
    apply Int32.toInt_inj.mp
    rw [e2, n1, eb, Int.bmod_eq_of_le (by omega) (by omega)]
  rw [e4]
  refine ⟨?_, ?_, eb⟩
  · rw [Int32.lt_iff_toInt_lt, n1, eb]
    show ¬ _ < (0 : Int)
    omega
  · rw [own_and7, n1, eb]
    omega
theorem own_z (v : Int32) (y : Int32) {k : Nat} (hk : (y &&& 31).toBitVec.toNat = k) (h2 : k < 32) : oushr v y = 0 ↔ v.toBitVec.toNat / 2 ^ k = 0 := by
  have eb : (oushr v y).toBitVec.toNat = v.toBitVec.toNat / 2 ^ k := by
    rw [bv_ushr v y hk h2, BitVec.toNat_ushiftRight, Nat.shiftRight_eq_div_pow]
  rw [← eb]
  refine ⟨fun h => by rw [h]; rfl, fun h => ?_⟩
  apply Int32.toBitVec_inj.mp
  exact BitVec.eq_of_toNat_eq h
theorem own_nb (v : Int32) : ∃ N : Nat, 1 ≤ N ∧ N ≤ 5 ∧ own_n v = Int32.ofNat N ∧ v.toBitVec.toNat < 2 ^ (7 * N) := by
  have hl := v.toBitVec.isLt
  have z1 := own_z v 7 (k := 7) (by decide) (by decide)
  have z2 := own_z v 14 (k := 14) (by decide) (by decide)
  have z3 := own_z v 21 (k := 21) (by decide) (by decide)
  have z4 := own_z v 28 (k := 28) (by decide) (by decide)
  unfold own_n
  by_cases h1 : oushr v 7 = 0
  · rw [if_pos h1]; exact ⟨1, by decide, by decide, rfl, by have := z1.mp h1; omega⟩
  · rw [if_neg h1]
    by_cases h2 : oushr v 14 = 0
    · rw [if_pos h2]; exact ⟨2, by decide, by decide, rfl, by have := z2.mp h2; omega⟩
    · rw [if_neg h2]
      by_cases h3 : oushr v 21 = 0
      · rw [if_pos h3]; exact ⟨3, by decide, by decide, rfl, by have := z3.mp h3; omega⟩
      · rw [if_neg h3]
        by_cases h4 : oushr v 28 = 0
        · rw [if_pos h4]; exact ⟨4, by decide, by decide, rfl, by have := z4.mp h4; omega⟩
        · rw [if_neg h4]; exact ⟨5, by decide, by decide, rfl, by omega⟩
theorem own_law1 (v : Int32) (hv : v.toBitVec.toNat < 2 ^ (7 * 1)) : own_g v 0 1 = v ∧ ¬ own_g v 0 1 < 0 := by
  have hl := v.toBitVec.isLt
  obtain ⟨a0, b0, c0⟩ := own_gl (v := v) (i := 0) (n := 1) (k := 0) (by decide) (by decide) (by decide) (by omega)
  refine ⟨?_, a0⟩
  apply Int32.toBitVec_inj.mp
  apply BitVec.eq_of_toNat_eq
  rw [c0]; omega
theorem own_law2 (v : Int32) (hv : v.toBitVec.toNat < 2 ^ (7 * 2)) : own_rd [own_g v 0 2, own_g v 1 2] 0 0 = v ∧ own_g v 0 2 < 0 ∧ ¬ own_g v 1 2 < 0 := by
  have hl := v.toBitVec.isLt
  obtain ⟨a0, b0⟩ := own_gn (v := v) (i := 0) (n := 2) (k := 0) (by decide) (by decide) (by decide)
  obtain ⟨a1, b1, c1⟩ := own_gl (v := v) (i := 1) (n := 2) (k := 1) (by decide) (by decide) (by decide) (by omega)
  refine ⟨?_, a0, a1⟩
  apply Int32.toBitVec_inj.mp
  apply BitVec.eq_of_toNat_eq
  have r0 : (0 : Int32).toBitVec.toNat = v.toBitVec.toNat % 2 ^ (7 * 0) := by show 0 = _; omega
  have r1 := own_acc (s := 0) hl r0 b0 (by decide)
  have r2 := own_acc (s := 0 + 7) hl r1 b1 (by decide)
  have q : v.toBitVec.toNat % 2 ^ (7 * (1 + 1)) = v.toBitVec.toNat := Nat.mod_eq_of_lt (by omega)
  rw [q] at r2
  exact r2
theorem own_law3 (v : Int32) (hv : v.toBitVec.toNat < 2 ^ (7 * 3)) : own_rd [own_g v 0 3, own_g v 1 3, own_g v 2 3] 0 0 = v ∧ own_g v 0 3 < 0 ∧ own_g v 1 3 < 0 ∧ ¬ own_g v 2 3 < 0 := by
  have hl := v.toBitVec.isLt
  obtain ⟨a0, b0⟩ := own_gn (v := v) (i := 0) (n := 3) (k := 0) (by decide) (by decide) (by decide)
  obtain ⟨a1, b1⟩ := own_gn (v := v) (i := 1) (n := 3) (k := 1) (by decide) (by decide) (by decide)
  obtain ⟨a2, b2, c2⟩ := own_gl (v := v) (i := 2) (n := 3) (k := 2) (by decide) (by decide) (by decide) (by omega)
  refine ⟨?_, a0, a1, a2⟩
  apply Int32.toBitVec_inj.mp
  apply BitVec.eq_of_toNat_eq
  have r0 : (0 : Int32).toBitVec.toNat = v.toBitVec.toNat % 2 ^ (7 * 0) := by show 0 = _; omega
  have r1 := own_acc (s := 0) hl r0 b0 (by decide)
  have r2 := own_acc (s := 0 + 7) hl r1 b1 (by decide)
  have r3 := own_acc (s := 0 + 7 + 7) hl r2 b2 (by decide)
  have q : v.toBitVec.toNat % 2 ^ (7 * (2 + 1)) = v.toBitVec.toNat := Nat.mod_eq_of_lt (by omega)
  rw [q] at r3
  exact r3
theorem own_law4 (v : Int32) (hv : v.toBitVec.toNat < 2 ^ (7 * 4)) : own_rd [own_g v 0 4, own_g v 1 4, own_g v 2 4, own_g v 3 4] 0 0 = v ∧ own_g v 0 4 < 0 ∧ own_g v 1 4 < 0 ∧ own_g v 2 4 < 0 ∧ ¬ own_g v 3 4 < 0 := by
  have hl := v.toBitVec.isLt
  obtain ⟨a0, b0⟩ := own_gn (v := v) (i := 0) (n := 4) (k := 0) (by decide) (by decide) (by decide)
  obtain ⟨a1, b1⟩ := own_gn (v := v) (i := 1) (n := 4) (k := 1) (by decide) (by decide) (by decide)
  obtain ⟨a2, b2⟩ := own_gn (v := v) (i := 2) (n := 4) (k := 2) (by decide) (by decide) (by decide)
  obtain ⟨a3, b3, c3⟩ := own_gl (v := v) (i := 3) (n := 4) (k := 3) (by decide) (by decide) (by decide) (by omega)
  refine ⟨?_, a0, a1, a2, a3⟩
  apply Int32.toBitVec_inj.mp
  apply BitVec.eq_of_toNat_eq
  have r0 : (0 : Int32).toBitVec.toNat = v.toBitVec.toNat % 2 ^ (7 * 0) := by show 0 = _; omega
  have r1 := own_acc (s := 0) hl r0 b0 (by decide)
  have r2 := own_acc (s := 0 + 7) hl r1 b1 (by decide)
  have r3 := own_acc (s := 0 + 7 + 7) hl r2 b2 (by decide)
  have r4 := own_acc (s := 0 + 7 + 7 + 7) hl r3 b3 (by decide)
  have q : v.toBitVec.toNat % 2 ^ (7 * (3 + 1)) = v.toBitVec.toNat := Nat.mod_eq_of_lt (by omega)
  rw [q] at r4
  exact r4
theorem own_law5 (v : Int32) (hv : v.toBitVec.toNat < 2 ^ (7 * 5)) : own_rd [own_g v 0 5, own_g v 1 5, own_g v 2 5, own_g v 3 5, own_g v 4 5] 0 0 = v ∧ own_g v 0 5 < 0 ∧ own_g v 1 5 < 0 ∧ own_g v 2 5 < 0 ∧ own_g v 3 5 < 0 ∧ ¬ own_g v 4 5 < 0 := by
  have hl := v.toBitVec.isLt
  obtain ⟨a0, b0⟩ := own_gn (v := v) (i := 0) (n := 5) (k := 0) (by decide) (by decide) (by decide)
  obtain ⟨a1, b1⟩ := own_gn (v := v) (i := 1) (n := 5) (k := 1) (by decide) (by decide) (by decide)
  obtain ⟨a2, b2⟩ := own_gn (v := v) (i := 2) (n := 5) (k := 2) (by decide) (by decide) (by decide)
  obtain ⟨a3, b3⟩ := own_gn (v := v) (i := 3) (n := 5) (k := 3) (by decide) (by decide) (by decide)
  obtain ⟨a4, b4, c4⟩ := own_gl (v := v) (i := 4) (n := 5) (k := 4) (by decide) (by decide) (by decide) (by omega)
  refine ⟨?_, a0, a1, a2, a3, a4⟩
  apply Int32.toBitVec_inj.mp
  apply BitVec.eq_of_toNat_eq
  have r0 : (0 : Int32).toBitVec.toNat = v.toBitVec.toNat % 2 ^ (7 * 0) := by show 0 = _; omega
  have r1 := own_acc (s := 0) hl r0 b0 (by decide)
  have r2 := own_acc (s := 0 + 7) hl r1 b1 (by decide)
  have r3 := own_acc (s := 0 + 7 + 7) hl r2 b2 (by decide)
  have r4 := own_acc (s := 0 + 7 + 7 + 7) hl r3 b3 (by decide)
  have r5 := own_acc (s := 0 + 7 + 7 + 7 + 7) hl r4 b4 (by decide)
  have q : v.toBitVec.toNat % 2 ^ (7 * (4 + 1)) = v.toBitVec.toNat := Nat.mod_eq_of_lt (by omega)
  rw [q] at r5
  exact r5
/-! the stretches -/
set_option maxRecDepth 65536 in
set_option maxHeartbeats 4000000 in
theorem wp_1 (v i n : Int32) : wpo method_2_code ci1 cj1 [] 90 0 [.val (.int v), .val (.int i), .val (.int n), .unset] [] (fun b M u => decode method_2_code b = .ok (.ireturn, 1) ∧ u = [.int (own_g v i n)]) := by
  simp only [r_wp0, r_wpS, r_nxt, r_stop0, r_stopS, r_go, r_goIf, r_fork, r_tgt, r_okO, r_gI, r_gJ, r_gA, r_pI, r_pJ, r_pA, r_p1r, r_p1i, r_pII, r_pJJ, r_pJI, r_fnd0, r_fndS, r_gC, r_gC0, r_gB, r_st1, r_st2, r_eq, r_ne, r_lt, r_ge, r_gt, r_le, r_eqL, r_neL, r_ltL, r_geL, r_gtL, r_leL, r_f0, r_f1, r_f2, r_f3, r_im1, r_i0, r_i1, r_i2, r_i3, r_i4, r_i5, r_i7, r_l0, r_l1, lget_z, lget_s, lput_z, lput_s, one_unset, one_int, one_ref, two_unset, two_long, cond_true, cond_false, true_and, and_true, not_true_eq_false, not_false_eq_true, true_implies, false_implies, implies_true, ne_eq, Classical.not_not, Int.cast_ofNat_Int, ite_true, seval, and_self, n_bipush, n_i2b, n_iand, n_iconst, n_if_icmp, n_iload_n, n_imul, n_ior, n_ireturn, n_istore_n, n_isub, n_iushr, n_sipush, b_7, b_127, s_128, ci1, cj1, d1_0, d1_1, d1_3, d1_4, d1_5, d1_6, d1_7, d1_8, d1_9, d1_10, d1_11, d1_14, d1_15, d1_16, d1_17, d1_18, d1_20, d1_21, d1_24, d1_25, d1_26, own_g, own_by, List.cons.injEq, Slot.val.injEq, Value.int.injEq, Value.long.injEq]
  all_goals (repeat' (first | refine And.intro ?_ ?_ | intro _))
  all_goals simp [own_g, own_by, own_n, *]
set_option maxRecDepth 65536 in
set_option maxHeartbeats 4000000 in
theorem wr_0 (a : Addr) (o : Int32) : wpo prog_41_method_17_code ci2 cj2 [] 90 0 [.val (.ref a), .val (.int o), .unset, .unset, .unset, .unset, .unset] [] (fun b M u => b = 2 ∧ M = [.val (.ref a), .val (.int o), .unset, .unset, .unset, .unset, .unset] ∧ u = [.int o, .ref a]) := by
  simp only [r_wp0, r_wpS, r_nxt, r_stop0, r_stopS, r_go, r_goIf, r_fork, r_tgt, r_okO, r_gI, r_gJ, r_gA, r_pI, r_pJ, r_pA, r_p1r, r_p1i, r_pII, r_pJJ, r_pJI, r_fnd0, r_fndS, r_gC, r_gC0, r_gB, r_st1, r_st2, r_eq, r_ne, r_lt, r_ge, r_gt, r_le, r_eqL, r_neL, r_ltL, r_geL, r_gtL, r_leL, r_f0, r_f1, r_f2, r_f3, r_im1, r_i0, r_i1, r_i2, r_i3, r_i4, r_i5, r_i7, r_l0, r_l1, lget_z, lget_s, lput_z, lput_s, one_unset, one_int, one_ref, two_unset, two_long, cond_true, cond_false, true_and, and_true, not_true_eq_false, not_false_eq_true, true_implies, false_implies, implies_true, ne_eq, Classical.not_not, Int.cast_ofNat_Int, ite_true, seval, and_self, n_aload_n, n_baload, n_bipush, n_goto, n_iand, n_iconst, n_ifCond, n_iinc, n_iload, n_iload_n, n_ior, n_ireturn, n_ishl, n_istore, n_istore_n, b_127, ci2, cj2, d2_0, d2_1, d2_2, d2_3, d2_4, d2_5, d2_8, d2_9, d2_10, d2_11, d2_12, d2_13, d2_15, d2_16, d2_18, d2_19, d2_21, d2_24, d2_25, d2_27, d2_28, d2_30, d2_32, d2_33, d2_35, d2_36, d2_37, d2_38, d2_40, d2_43, d2_44, d2_45, d2_48]
set_option maxRecDepth 65536 in
set_option maxHeartbeats 4000000 in
theorem wr_1 (a : Addr) (o z : Int32) (h : ¬ z < 0) : wpo prog_41_method_17_code ci2 cj2 [] 90 3 [.val (.ref a), .val (.int o), .unset, .unset, .unset, .unset, .unset] [.int z] (fun b M u => decode prog_41_method_17_code b = .ok (.ireturn, 1) ∧ u = [.int z]) := by
  simp only [r_wp0, r_wpS, r_nxt, r_stop0, r_stopS, r_go, r_goIf, r_fork, r_tgt, r_okO, r_gI, r_gJ, r_gA, r_pI, r_pJ, r_pA, r_p1r, r_p1i, r_pII, r_pJJ, r_pJI, r_fnd0, r_fndS, r_gC, r_gC0, r_gB, r_st1, r_st2, r_eq, r_ne, r_lt, r_ge, r_gt, r_le, r_eqL, r_neL, r_ltL, r_geL, r_gtL, r_leL, r_f0, r_f1, r_f2, r_f3, r_im1, r_i0, r_i1, r_i2, r_i3, r_i4, r_i5, r_i7, r_l0, r_l1, lget_z, lget_s, lput_z, lput_s, one_unset, one_int, one_ref, two_unset, two_long, cond_true, cond_false, true_and, and_true, not_true_eq_false, not_false_eq_true, true_implies, false_implies, implies_true, ne_eq, Classical.not_not, Int.cast_ofNat_Int, ite_true, seval, and_self, n_aload_n, n_baload, n_bipush, n_goto, n_iand, n_iconst, n_ifCond, n_iinc, n_iload, n_iload_n, n_ior, n_ireturn, n_ishl, n_istore, n_istore_n, b_127, ci2, cj2, d2_0, d2_1, d2_2, d2_3, d2_4, d2_5, d2_8, d2_9, d2_10, d2_11, d2_12, d2_13, d2_15, d2_16, d2_18, d2_19, d2_21, d2_24, d2_25, d2_27, d2_28, d2_30, d2_32, d2_33, d2_35, d2_36, d2_37, d2_38, d2_40, d2_43, d2_44, d2_45, d2_48, h, List.cons.injEq, Slot.val.injEq, Value.int.injEq, Value.long.injEq]
set_option maxRecDepth 65536 in
set_option maxHeartbeats 4000000 in
theorem wr_2 (a : Addr) (o z : Int32) (h : z < 0) : wpo prog_41_method_17_code ci2 cj2 [18] 90 3 [.val (.ref a), .val (.int o), .unset, .unset, .unset, .unset, .unset] [.int z] (fun b M u => b = 18 ∧ M = [.val (.ref a), .val (.int o), .val (.int z), .val (.int 0), .val (.int o), .val (.int 0), .unset] ∧ u = []) := by
  simp only [r_wp0, r_wpS, r_nxt, r_stop0, r_stopS, r_go, r_goIf, r_fork, r_tgt, r_okO, r_gI, r_gJ, r_gA, r_pI, r_pJ, r_pA, r_p1r, r_p1i, r_pII, r_pJJ, r_pJI, r_fnd0, r_fndS, r_gC, r_gC0, r_gB, r_st1, r_st2, r_eq, r_ne, r_lt, r_ge, r_gt, r_le, r_eqL, r_neL, r_ltL, r_geL, r_gtL, r_leL, r_f0, r_f1, r_f2, r_f3, r_im1, r_i0, r_i1, r_i2, r_i3, r_i4, r_i5, r_i7, r_l0, r_l1, lget_z, lget_s, lput_z, lput_s, one_unset, one_int, one_ref, two_unset, two_long, cond_true, cond_false, true_and, and_true, not_true_eq_false, not_false_eq_true, true_implies, false_implies, implies_true, ne_eq, Classical.not_not, Int.cast_ofNat_Int, ite_true, seval, and_self, n_aload_n, n_baload, n_bipush, n_goto, n_iand, n_iconst, n_ifCond, n_iinc, n_iload, n_iload_n, n_ior, n_ireturn, n_ishl, n_istore, n_istore_n, b_127, ci2, cj2, d2_0, d2_1, d2_2, d2_3, d2_4, d2_5, d2_8, d2_9, d2_10, d2_11, d2_12, d2_13, d2_15, d2_16, d2_18, d2_19, d2_21, d2_24, d2_25, d2_27, d2_28, d2_30, d2_32, d2_33, d2_35, d2_36, d2_37, d2_38, d2_40, d2_43, d2_44, d2_45, d2_48, h]
set_option maxRecDepth 65536 in
set_option maxHeartbeats 4000000 in
theorem wr_3 (a : Addr) (o b0 r q sh : Int32) (v6 : Slot) : wpo prog_41_method_17_code ci2 cj2 [] 90 18 [.val (.ref a), .val (.int o), .val (.int b0), .val (.int r), .val (.int q), .val (.int sh), v6] [] (fun b M u => b = 24 ∧ M = [.val (.ref a), .val (.int o), .val (.int b0), .val (.int r), .val (.int (q + 1)), .val (.int sh), v6] ∧ u = [.int q, .ref a]) := by
  simp only [r_wp0, r_wpS, r_nxt, r_stop0, r_stopS, r_go, r_goIf, r_fork, r_tgt, r_okO, r_gI, r_gJ, r_gA, r_pI, r_pJ, r_pA, r_p1r, r_p1i, r_pII, r_pJJ, r_pJI, r_fnd0, r_fndS, r_gC, r_gC0, r_gB, r_st1, r_st2, r_eq, r_ne, r_lt, r_ge, r_gt, r_le, r_eqL, r_neL, r_ltL, r_geL, r_gtL, r_leL, r_f0, r_f1, r_f2, r_f3, r_im1, r_i0, r_i1, r_i2, r_i3, r_i4, r_i5, r_i7, r_l0, r_l1, lget_z, lget_s, lput_z, lput_s, one_unset, one_int, one_ref, two_unset, two_long, cond_true, cond_false, true_and, and_true, not_true_eq_false, not_false_eq_true, true_implies, false_implies, implies_true, ne_eq, Classical.not_not, Int.cast_ofNat_Int, ite_true, seval, and_self, n_aload_n, n_baload, n_bipush, n_goto, n_iand, n_iconst, n_ifCond, n_iinc, n_iload, n_iload_n, n_ior, n_ireturn, n_ishl, n_istore, n_istore_n, b_127, ci2, cj2, d2_0, d2_1, d2_2, d2_3, d2_4, d2_5, d2_8, d2_9, d2_10, d2_11, d2_12, d2_13, d2_15, d2_16, d2_18, d2_19, d2_21, d2_24, d2_25, d2_27, d2_28, d2_30, d2_32, d2_33, d2_35, d2_36, d2_37, d2_38, d2_40, d2_43, d2_44, d2_45, d2_48]
set_option maxRecDepth 65536 in
set_option maxHeartbeats 4000000 in
theorem wr_4 (a : Addr) (o b0 r q sh : Int32) (v6 : Slot) (z : Int32) (h6 : one (some v6) = true) (h : ¬ z < 0) : wpo prog_41_method_17_code ci2 cj2 [] 90 25 [.val (.ref a), .val (.int o), .val (.int b0), .val (.int r), .val (.int (q + 1)), .val (.int sh), v6] [.int z] (fun b M u => decode prog_41_method_17_code b = .ok (.ireturn, 1) ∧ u = [.int (r ||| oshl (z &&& 127) sh)]) := by
  simp only [r_wp0, r_wpS, r_nxt, r_stop0, r_stopS, r_go, r_goIf, r_fork, r_tgt, r_okO, r_gI, r_gJ, r_gA, r_pI, r_pJ, r_pA, r_p1r, r_p1i, r_pII, r_pJJ, r_pJI, r_fnd0, r_fndS, r_gC, r_gC0, r_gB, r_st1, r_st2, r_eq, r_ne, r_lt, r_ge, r_gt, r_le, r_eqL, r_neL, r_ltL, r_geL, r_gtL, r_leL, r_f0, r_f1, r_f2, r_f3, r_im1, r_i0, r_i1, r_i2, r_i3, r_i4, r_i5, r_i7, r_l0, r_l1, lget_z, lget_s, lput_z, lput_s, one_unset, one_int, one_ref, two_unset, two_long, cond_true, cond_false, true_and, and_true, not_true_eq_false, not_false_eq_true, true_implies, false_implies, implies_true, ne_eq, Classical.not_not, Int.cast_ofNat_Int, ite_true, seval, and_self, n_aload_n, n_baload, n_bipush, n_goto, n_iand, n_iconst, n_ifCond, n_iinc, n_iload, n_iload_n, n_ior, n_ireturn, n_ishl, n_istore, n_istore_n, b_127, ci2, cj2, d2_0, d2_1, d2_2, d2_3, d2_4, d2_5, d2_8, d2_9, d2_10, d2_11, d2_12, d2_13, d2_15, d2_16, d2_18, d2_19, d2_21, d2_24, d2_25, d2_27, d2_28, d2_30, d2_32, d2_33, d2_35, d2_36, d2_37, d2_38, d2_40, d2_43, d2_44, d2_45, d2_48, h, h6, List.cons.injEq, Slot.val.injEq, Value.int.injEq, Value.long.injEq]
set_option maxRecDepth 65536 in
set_option maxHeartbeats 4000000 in
theorem wr_5 (a : Addr) (o b0 r q sh : Int32) (v6 : Slot) (z : Int32) (h6 : one (some v6) = true) (h : z < 0) : wpo prog_41_method_17_code ci2 cj2 [18] 90 25 [.val (.ref a), .val (.int o), .val (.int b0), .val (.int r), .val (.int (q + 1)), .val (.int sh), v6] [.int z] (fun b M u => b = 18 ∧ M = [.val (.ref a), .val (.int o), .val (.int b0), .val (.int (r ||| oshl (z &&& 127) sh)), .val (.int (q + 1)), .val (.int (sh + 7)), .val (.int z)] ∧ u = []) := by
  simp only [r_wp0, r_wpS, r_nxt, r_stop0, r_stopS, r_go, r_goIf, r_fork, r_tgt, r_okO, r_gI, r_gJ, r_gA, r_pI, r_pJ, r_pA, r_p1r, r_p1i, r_pII, r_pJJ, r_pJI, r_fnd0, r_fndS, r_gC, r_gC0, r_gB, r_st1, r_st2, r_eq, r_ne, r_lt, r_ge, r_gt, r_le, r_eqL, r_neL, r_ltL, r_geL, r_gtL, r_leL, r_f0, r_f1, r_f2, r_f3, r_im1, r_i0, r_i1, r_i2, r_i3, r_i4, r_i5, r_i7, r_l0, r_l1, lget_z, lget_s, lput_z, lput_s, one_unset, one_int, one_ref, two_unset, two_long, cond_true, cond_false, true_and, and_true, not_true_eq_false, not_false_eq_true, true_implies, false_implies, implies_true, ne_eq, Classical.not_not, Int.cast_ofNat_Int, ite_true, seval, and_self, n_aload_n, n_baload, n_bipush, n_goto, n_iand, n_iconst, n_ifCond, n_iinc, n_iload, n_iload_n, n_ior, n_ireturn, n_ishl, n_istore, n_istore_n, b_127, ci2, cj2, d2_0, d2_1, d2_2, d2_3, d2_4, d2_5, d2_8, d2_9, d2_10, d2_11, d2_12, d2_13, d2_15, d2_16, d2_18, d2_19, d2_21, d2_24, d2_25, d2_27, d2_28, d2_30, d2_32, d2_33, d2_35, d2_36, d2_37, d2_38, d2_40, d2_43, d2_44, d2_45, d2_48, h, h6]
set_option maxRecDepth 65536 in
set_option maxHeartbeats 4000000 in
theorem wl_0 (v oz : Int32) (j1 j2 : Int64) (off n : Int32) (a : Addr) : wpo code ci0 cj0 [] 90 0 [.val (.int v), .val (.int oz), .val (.long j1), .second, .val (.long j2), .second, .unset, .unset, .unset] [] (fun b M u => b = 7 ∧ M = [.val (.int v), .val (.int oz), .val (.long j1), .second, .val (.long j2), .second, .val (.int (oz &&& 3)), .unset, .unset] ∧ u = [.int 12]) := by
  simp only [r_wp0, r_wpS, r_nxt, r_stop0, r_stopS, r_go, r_goIf, r_fork, r_tgt, r_okO, r_gI, r_gJ, r_gA, r_pI, r_pJ, r_pA, r_p1r, r_p1i, r_pII, r_pJJ, r_pJI, r_fnd0, r_fndS, r_gC, r_gC0, r_gB, r_st1, r_st2, r_eq, r_ne, r_lt, r_ge, r_gt, r_le, r_eqL, r_neL, r_ltL, r_geL, r_gtL, r_leL, r_f0, r_f1, r_f2, r_f3, r_im1, r_i0, r_i1, r_i2, r_i3, r_i4, r_i5, r_i7, r_l0, r_l1, lget_z, lget_s, lput_z, lput_s, one_unset, one_int, one_ref, two_unset, two_long, cond_true, cond_false, true_and, and_true, not_true_eq_false, not_false_eq_true, true_implies, false_implies, implies_true, ne_eq, Classical.not_not, Int.cast_ofNat_Int, ite_true, seval, and_self, n_aload, n_astore, n_bastore, n_bipush, n_goto, n_i2b, n_iadd, n_iand, n_iconst, n_ifCond, n_if_icmp, n_iload, n_iload_n, n_invokestatic, n_ireturn, n_istore, n_iushr, n_l2i, n_lload, n_lload_n, n_lushr, n_newarray, b_12, b_8, b_16, b_24, b_32, b_40, b_6, b_48, b_7, b_56, b_9, b_10, b_11, b_14, b_21, b_28, ci0, cj0, at_0, at_1, at_2, at_3, at_5, at_7, at_9, at_11, at_13, at_14, at_15, at_16, at_17, at_18, at_20, at_21, at_22, at_24, at_25, at_26, at_27, at_28, at_30, at_31, at_32, at_34, at_35, at_36, at_37, at_38, at_40, at_41, at_42, at_44, at_45, at_46, at_47, at_48, at_50, at_51, at_52, at_54, at_55, at_56, at_57, at_58, at_60, at_61, at_62, at_64, at_65, at_66, at_67, at_68, at_70, at_72, at_73, at_75, at_76, at_77, at_78, at_79, at_81, at_83, at_84, at_86, at_87, at_88, at_89, at_90, at_92, at_94, at_96, at_97, at_98, at_99, at_101, at_103, at_105, at_107, at_108, at_109, at_110, at_111, at_113, at_115, at_117, at_119, at_120, at_121, at_122, at_123, at_125, at_127, at_129, at_131, at_132, at_133, at_134, at_135, at_136, at_138, at_139, at_142, at_143, at_145, at_148, at_149, at_151, at_152, at_155, at_156, at_158, at_161, at_162, at_164, at_165, at_168, at_169, at_171, at_174, at_175, at_177, at_178, at_181, at_182, at_184, at_187, at_188, at_190, at_192, at_194, at_195, at_196, at_198, at_201, at_202, at_204, at_205, at_208, at_210, at_212, at_213, at_214, at_215, at_216, at_218, at_221, at_222, at_224, at_225, at_228, at_230, at_232, at_233, at_234, at_235, at_236, at_238, at_241, at_242, at_244, at_245, at_248, at_250, at_252, at_253, at_254, at_255, at_256, at_258, at_261, at_262, at_264, at_265, at_268, at_270, at_272, at_273, at_274, at_275, at_276, at_278, at_281, at_282, at_284, at_286, at_289, at_290, at_293, at_294, at_297, at_298]
set_option maxRecDepth 65536 in
set_option maxHeartbeats 4000000 in
theorem wl_1 (v oz : Int32) (j1 j2 : Int64) (off n : Int32) (a : Addr) : wpo code ci0 cj0 [11] 90 9 [.val (.int v), .val (.int oz), .val (.long j1), .second, .val (.long j2), .second, .val (.int off), .unset, .unset] [.ref a] (fun b M u => b = 11 ∧ M = [.val (.int v), .val (.int oz), .val (.long j1), .second, .val (.long j2), .second, .val (.int off), .val (.ref a), .unset] ∧ u = []) := by
  simp only [r_wp0, r_wpS, r_nxt, r_stop0, r_stopS, r_go, r_goIf, r_fork, r_tgt, r_okO, r_gI, r_gJ, r_gA, r_pI, r_pJ, r_pA, r_p1r, r_p1i, r_pII, r_pJJ, r_pJI, r_fnd0, r_fndS, r_gC, r_gC0, r_gB, r_st1, r_st2, r_eq, r_ne, r_lt, r_ge, r_gt, r_le, r_eqL, r_neL, r_ltL, r_geL, r_gtL, r_leL, r_f0, r_f1, r_f2, r_f3, r_im1, r_i0, r_i1, r_i2, r_i3, r_i4, r_i5, r_i7, r_l0, r_l1, lget_z, lget_s, lput_z, lput_s, one_unset, one_int, one_ref, two_unset, two_long, cond_true, cond_false, true_and, and_true, not_true_eq_false, not_false_eq_true, true_implies, false_implies, implies_true, ne_eq, Classical.not_not, Int.cast_ofNat_Int, ite_true, seval, and_self, n_aload, n_astore, n_bastore, n_bipush, n_goto, n_i2b, n_iadd, n_iand, n_iconst, n_ifCond, n_if_icmp, n_iload, n_iload_n, n_invokestatic, n_ireturn, n_istore, n_iushr, n_l2i, n_lload, n_lload_n, n_lushr, n_newarray, b_12, b_8, b_16, b_24, b_32, b_40, b_6, b_48, b_7, b_56, b_9, b_10, b_11, b_14, b_21, b_28, ci0, cj0, at_0, at_1, at_2, at_3, at_5, at_7, at_9, at_11, at_13, at_14, at_15, at_16, at_17, at_18, at_20, at_21, at_22, at_24, at_25, at_26, at_27, at_28, at_30, at_31, at_32, at_34, at_35, at_36, at_37, at_38, at_40, at_41, at_42, at_44, at_45, at_46, at_47, at_48, at_50, at_51, at_52, at_54, at_55, at_56, at_57, at_58, at_60, at_61, at_62, at_64, at_65, at_66, at_67, at_68, at_70, at_72, at_73, at_75, at_76, at_77, at_78, at_79, at_81, at_83, at_84, at_86, at_87, at_88, at_89, at_90, at_92, at_94, at_96, at_97, at_98, at_99, at_101, at_103, at_105, at_107, at_108, at_109, at_110, at_111, at_113, at_115, at_117, at_119, at_120, at_121, at_122, at_123, at_125, at_127, at_129, at_131, at_132, at_133, at_134, at_135, at_136, at_138, at_139, at_142, at_143, at_145, at_148, at_149, at_151, at_152, at_155, at_156, at_158, at_161, at_162, at_164, at_165, at_168, at_169, at_171, at_174, at_175, at_177, at_178, at_181, at_182, at_184, at_187, at_188, at_190, at_192, at_194, at_195, at_196, at_198, at_201, at_202, at_204, at_205, at_208, at_210, at_212, at_213, at_214, at_215, at_216, at_218, at_221, at_222, at_224, at_225, at_228, at_230, at_232, at_233, at_234, at_235, at_236, at_238, at_241, at_242, at_244, at_245, at_248, at_250, at_252, at_253, at_254, at_255, at_256, at_258, at_261, at_262, at_264, at_265, at_268, at_270, at_272, at_273, at_274, at_275, at_276, at_278, at_281, at_282, at_284, at_286, at_289, at_290, at_293, at_294, at_297, at_298]
set_option maxRecDepth 65536 in
set_option maxHeartbeats 4000000 in
theorem wl_2 (v oz : Int32) (j1 j2 : Int64) (off n : Int32) (a : Addr) : wpo code ci0 cj0 [] 90 11 [.val (.int v), .val (.int oz), .val (.long j1), .second, .val (.long j2), .second, .val (.int off), .val (.ref a), .unset] [] (fun b M u => b = 17 ∧ M = [.val (.int v), .val (.int oz), .val (.long j1), .second, .val (.long j2), .second, .val (.int off), .val (.ref a), .unset] ∧ u = [.int (j1.toInt32.toInt8.toInt32), .int 0, .ref a]) := by
  simp only [r_wp0, r_wpS, r_nxt, r_stop0, r_stopS, r_go, r_goIf, r_fork, r_tgt, r_okO, r_gI, r_gJ, r_gA, r_pI, r_pJ, r_pA, r_p1r, r_p1i, r_pII, r_pJJ, r_pJI, r_fnd0, r_fndS, r_gC, r_gC0, r_gB, r_st1, r_st2, r_eq, r_ne, r_lt, r_ge, r_gt, r_le, r_eqL, r_neL, r_ltL, r_geL, r_gtL, r_leL, r_f0, r_f1, r_f2, r_f3, r_im1, r_i0, r_i1, r_i2, r_i3, r_i4, r_i5, r_i7, r_l0, r_l1, lget_z, lget_s, lput_z, lput_s, one_unset, one_int, one_ref, two_unset, two_long, cond_true, cond_false, true_and, and_true, not_true_eq_false, not_false_eq_true, true_implies, false_implies, implies_true, ne_eq, Classical.not_not, Int.cast_ofNat_Int, ite_true, seval, and_self, n_aload, n_astore, n_bastore, n_bipush, n_goto, n_i2b, n_iadd, n_iand, n_iconst, n_ifCond, n_if_icmp, n_iload, n_iload_n, n_invokestatic, n_ireturn, n_istore, n_iushr, n_l2i, n_lload, n_lload_n, n_lushr, n_newarray, b_12, b_8, b_16, b_24, b_32, b_40, b_6, b_48, b_7, b_56, b_9, b_10, b_11, b_14, b_21, b_28, ci0, cj0, at_0, at_1, at_2, at_3, at_5, at_7, at_9, at_11, at_13, at_14, at_15, at_16, at_17, at_18, at_20, at_21, at_22, at_24, at_25, at_26, at_27, at_28, at_30, at_31, at_32, at_34, at_35, at_36, at_37, at_38, at_40, at_41, at_42, at_44, at_45, at_46, at_47, at_48, at_50, at_51, at_52, at_54, at_55, at_56, at_57, at_58, at_60, at_61, at_62, at_64, at_65, at_66, at_67, at_68, at_70, at_72, at_73, at_75, at_76, at_77, at_78, at_79, at_81, at_83, at_84, at_86, at_87, at_88, at_89, at_90, at_92, at_94, at_96, at_97, at_98, at_99, at_101, at_103, at_105, at_107, at_108, at_109, at_110, at_111, at_113, at_115, at_117, at_119, at_120, at_121, at_122, at_123, at_125, at_127, at_129, at_131, at_132, at_133, at_134, at_135, at_136, at_138, at_139, at_142, at_143, at_145, at_148, at_149, at_151, at_152, at_155, at_156, at_158, at_161, at_162, at_164, at_165, at_168, at_169, at_171, at_174, at_175, at_177, at_178, at_181, at_182, at_184, at_187, at_188, at_190, at_192, at_194, at_195, at_196, at_198, at_201, at_202, at_204, at_205, at_208, at_210, at_212, at_213, at_214, at_215, at_216, at_218, at_221, at_222, at_224, at_225, at_228, at_230, at_232, at_233, at_234, at_235, at_236, at_238, at_241, at_242, at_244, at_245, at_248, at_250, at_252, at_253, at_254, at_255, at_256, at_258, at_261, at_262, at_264, at_265, at_268, at_270, at_272, at_273, at_274, at_275, at_276, at_278, at_281, at_282, at_284, at_286, at_289, at_290, at_293, at_294, at_297, at_298]
set_option maxRecDepth 65536 in
set_option maxHeartbeats 4000000 in
theorem wl_3 (v oz : Int32) (j1 j2 : Int64) (off n : Int32) (a : Addr) : wpo code ci0 cj0 [] 90 18 [.val (.int v), .val (.int oz), .val (.long j1), .second, .val (.long j2), .second, .val (.int off), .val (.ref a), .unset] [] (fun b M u => b = 27 ∧ M = [.val (.int v), .val (.int oz), .val (.long j1), .second, .val (.long j2), .second, .val (.int off), .val (.ref a), .unset] ∧ u = [.int ((oushrL j1 8).toInt32.toInt8.toInt32), .int 1, .ref a]) := by
  simp only [r_wp0, r_wpS, r_nxt, r_stop0, r_stopS, r_go, r_goIf, r_fork, r_tgt, r_okO, r_gI, r_gJ, r_gA, r_pI, r_pJ, r_pA, r_p1r, r_p1i, r_pII, r_pJJ, r_pJI, r_fnd0, r_fndS, r_gC, r_gC0, r_gB, r_st1, r_st2, r_eq, r_ne, r_lt, r_ge, r_gt, r_le, r_eqL, r_neL, r_ltL, r_geL, r_gtL, r_leL, r_f0, r_f1, r_f2, r_f3, r_im1, r_i0, r_i1, r_i2, r_i3, r_i4, r_i5, r_i7, r_l0, r_l1, lget_z, lget_s, lput_z, lput_s, one_unset, one_int, one_ref, two_unset, two_long, cond_true, cond_false, true_and, and_true, not_true_eq_false, not_false_eq_true, true_implies, false_implies, implies_true, ne_eq, Classical.not_not, Int.cast_ofNat_Int, ite_true, seval, and_self, n_aload, n_astore, n_bastore, n_bipush, n_goto, n_i2b, n_iadd, n_iand, n_iconst, n_ifCond, n_if_icmp, n_iload, n_iload_n, n_invokestatic, n_ireturn, n_istore, n_iushr, n_l2i, n_lload, n_lload_n, n_lushr, n_newarray, b_12, b_8, b_16, b_24, b_32, b_40, b_6, b_48, b_7, b_56, b_9, b_10, b_11, b_14, b_21, b_28, ci0, cj0, at_0, at_1, at_2, at_3, at_5, at_7, at_9, at_11, at_13, at_14, at_15, at_16, at_17, at_18, at_20, at_21, at_22, at_24, at_25, at_26, at_27, at_28, at_30, at_31, at_32, at_34, at_35, at_36, at_37, at_38, at_40, at_41, at_42, at_44, at_45, at_46, at_47, at_48, at_50, at_51, at_52, at_54, at_55, at_56, at_57, at_58, at_60, at_61, at_62, at_64, at_65, at_66, at_67, at_68, at_70, at_72, at_73, at_75, at_76, at_77, at_78, at_79, at_81, at_83, at_84, at_86, at_87, at_88, at_89, at_90, at_92, at_94, at_96, at_97, at_98, at_99, at_101, at_103, at_105, at_107, at_108, at_109, at_110, at_111, at_113, at_115, at_117, at_119, at_120, at_121, at_122, at_123, at_125, at_127, at_129, at_131, at_132, at_133, at_134, at_135, at_136, at_138, at_139, at_142, at_143, at_145, at_148, at_149, at_151, at_152, at_155, at_156, at_158, at_161, at_162, at_164, at_165, at_168, at_169, at_171, at_174, at_175, at_177, at_178, at_181, at_182, at_184, at_187, at_188, at_190, at_192, at_194, at_195, at_196, at_198, at_201, at_202, at_204, at_205, at_208, at_210, at_212, at_213, at_214, at_215, at_216, at_218, at_221, at_222, at_224, at_225, at_228, at_230, at_232, at_233, at_234, at_235, at_236, at_238, at_241, at_242, at_244, at_245, at_248, at_250, at_252, at_253, at_254, at_255, at_256, at_258, at_261, at_262, at_264, at_265, at_268, at_270, at_272, at_273, at_274, at_275, at_276, at_278, at_281, at_282, at_284, at_286, at_289, at_290, at_293, at_294, at_297, at_298]
set_option maxRecDepth 65536 in
set_option maxHeartbeats 4000000 in
theorem wl_4 (v oz : Int32) (j1 j2 : Int64) (off n : Int32) (a : Addr) : wpo code ci0 cj0 [] 90 28 [.val (.int v), .val (.int oz), .val (.long j1), .second, .val (.long j2), .second, .val (.int off), .val (.ref a), .unset] [] (fun b M u => b = 37 ∧ M = [.val (.int v), .val (.int oz), .val (.long j1), .second, .val (.long j2), .second, .val (.int off), .val (.ref a), .unset] ∧ u = [.int ((oushrL j1 16).toInt32.toInt8.toInt32), .int 2, .ref a]) := by
  simp only [r_wp0, r_wpS, r_nxt, r_stop0, r_stopS, r_go, r_goIf, r_fork, r_tgt, r_okO, r_gI, r_gJ, r_gA, r_pI, r_pJ, r_pA, r_p1r, r_p1i, r_pII, r_pJJ, r_pJI, r_fnd0, r_fndS, r_gC, r_gC0, r_gB, r_st1, r_st2, r_eq, r_ne, r_lt, r_ge, r_gt, r_le, r_eqL, r_neL, r_ltL, r_geL, r_gtL, r_leL, r_f0, r_f1, r_f2, r_f3, r_im1, r_i0, r_i1, r_i2, r_i3, r_i4, r_i5, r_i7, r_l0, r_l1, lget_z, lget_s, lput_z, lput_s, one_unset, one_int, one_ref, two_unset, two_long, cond_true, cond_false, true_and, and_true, not_true_eq_false, not_false_eq_true, true_implies, false_implies, implies_true, ne_eq, Classical.not_not, Int.cast_ofNat_Int, ite_true, seval, and_self, n_aload, n_astore, n_bastore, n_bipush, n_goto, n_i2b, n_iadd, n_iand, n_iconst, n_ifCond, n_if_icmp, n_iload, n_iload_n, n_invokestatic, n_ireturn, n_istore, n_iushr, n_l2i, n_lload, n_lload_n, n_lushr, n_newarray, b_12, b_8, b_16, b_24, b_32, b_40, b_6, b_48, b_7, b_56, b_9, b_10, b_11, b_14, b_21, b_28, ci0, cj0, at_0, at_1, at_2, at_3, at_5, at_7, at_9, at_11, at_13, at_14, at_15, at_16, at_17, at_18, at_20, at_21, at_22, at_24, at_25, at_26, at_27, at_28, at_30, at_31, at_32, at_34, at_35, at_36, at_37, at_38, at_40, at_41, at_42, at_44, at_45, at_46, at_47, at_48, at_50, at_51, at_52, at_54, at_55, at_56, at_57, at_58, at_60, at_61, at_62, at_64, at_65, at_66, at_67, at_68, at_70, at_72, at_73, at_75, at_76, at_77, at_78, at_79, at_81, at_83, at_84, at_86, at_87, at_88, at_89, at_90, at_92, at_94, at_96, at_97, at_98, at_99, at_101, at_103, at_105, at_107, at_108, at_109, at_110, at_111, at_113, at_115, at_117, at_119, at_120, at_121, at_122, at_123, at_125, at_127, at_129, at_131, at_132, at_133, at_134, at_135, at_136, at_138, at_139, at_142, at_143, at_145, at_148, at_149, at_151, at_152, at_155, at_156, at_158, at_161, at_162, at_164, at_165, at_168, at_169, at_171, at_174, at_175, at_177, at_178, at_181, at_182, at_184, at_187, at_188, at_190, at_192, at_194, at_195, at_196, at_198, at_201, at_202, at_204, at_205, at_208, at_210, at_212, at_213, at_214, at_215, at_216, at_218, at_221, at_222, at_224, at_225, at_228, at_230, at_232, at_233, at_234, at_235, at_236, at_238, at_241, at_242, at_244, at_245, at_248, at_250, at_252, at_253, at_254, at_255, at_256, at_258, at_261, at_262, at_264, at_265, at_268, at_270, at_272, at_273, at_274, at_275, at_276, at_278, at_281, at_282, at_284, at_286, at_289, at_290, at_293, at_294, at_297, at_298]
set_option maxRecDepth 65536 in
set_option maxHeartbeats 4000000 in
theorem wl_5 (v oz : Int32) (j1 j2 : Int64) (off n : Int32) (a : Addr) : wpo code ci0 cj0 [] 90 38 [.val (.int v), .val (.int oz), .val (.long j1), .second, .val (.long j2), .second, .val (.int off), .val (.ref a), .unset] [] (fun b M u => b = 47 ∧ M = [.val (.int v), .val (.int oz), .val (.long j1), .second, .val (.long j2), .second, .val (.int off), .val (.ref a), .unset] ∧ u = [.int ((oushrL j1 24).toInt32.toInt8.toInt32), .int 3, .ref a]) := by
  simp only [r_wp0, r_wpS, r_nxt, r_stop0, r_stopS, r_go, r_goIf, r_fork, r_tgt, r_okO, r_gI, r_gJ, r_gA, r_pI, r_pJ, r_pA, r_p1r, r_p1i, r_pII, r_pJJ, r_pJI, r_fnd0, r_fndS, r_gC, r_gC0, r_gB, r_st1, r_st2, r_eq, r_ne, r_lt, r_ge, r_gt, r_le, r_eqL, r_neL, r_ltL, r_geL, r_gtL, r_leL, r_f0, r_f1, r_f2, r_f3, r_im1, r_i0, r_i1, r_i2, r_i3, r_i4, r_i5, r_i7, r_l0, r_l1, lget_z, lget_s, lput_z, lput_s, one_unset, one_int, one_ref, two_unset, two_long, cond_true, cond_false, true_and, and_true, not_true_eq_false, not_false_eq_true, true_implies, false_implies, implies_true, ne_eq, Classical.not_not, Int.cast_ofNat_Int, ite_true, seval, and_self, n_aload, n_astore, n_bastore, n_bipush, n_goto, n_i2b, n_iadd, n_iand, n_iconst, n_ifCond, n_if_icmp, n_iload, n_iload_n, n_invokestatic, n_ireturn, n_istore, n_iushr, n_l2i, n_lload, n_lload_n, n_lushr, n_newarray, b_12, b_8, b_16, b_24, b_32, b_40, b_6, b_48, b_7, b_56, b_9, b_10, b_11, b_14, b_21, b_28, ci0, cj0, at_0, at_1, at_2, at_3, at_5, at_7, at_9, at_11, at_13, at_14, at_15, at_16, at_17, at_18, at_20, at_21, at_22, at_24, at_25, at_26, at_27, at_28, at_30, at_31, at_32, at_34, at_35, at_36, at_37, at_38, at_40, at_41, at_42, at_44, at_45, at_46, at_47, at_48, at_50, at_51, at_52, at_54, at_55, at_56, at_57, at_58, at_60, at_61, at_62, at_64, at_65, at_66, at_67, at_68, at_70, at_72, at_73, at_75, at_76, at_77, at_78, at_79, at_81, at_83, at_84, at_86, at_87, at_88, at_89, at_90, at_92, at_94, at_96, at_97, at_98, at_99, at_101, at_103, at_105, at_107, at_108, at_109, at_110, at_111, at_113, at_115, at_117, at_119, at_120, at_121, at_122, at_123, at_125, at_127, at_129, at_131, at_132, at_133, at_134, at_135, at_136, at_138, at_139, at_142, at_143, at_145, at_148, at_149, at_151, at_152, at_155, at_156, at_158, at_161, at_162, at_164, at_165, at_168, at_169, at_171, at_174, at_175, at_177, at_178, at_181, at_182, at_184, at_187, at_188, at_190, at_192, at_194, at_195, at_196, at_198, at_201, at_202, at_204, at_205, at_208, at_210, at_212, at_213, at_214, at_215, at_216, at_218, at_221, at_222, at_224, at_225, at_228, at_230, at_232, at_233, at_234, at_235, at_236, at_238, at_241, at_242, at_244, at_245, at_248, at_250, at_252, at_253, at_254, at_255, at_256, at_258, at_261, at_262, at_264, at_265, at_268, at_270, at_272, at_273, at_274, at_275, at_276, at_278, at_281, at_282, at_284, at_286, at_289, at_290, at_293, at_294, at_297, at_298]
set_option maxRecDepth 65536 in
set_option maxHeartbeats 4000000 in
theorem wl_6 (v oz : Int32) (j1 j2 : Int64) (off n : Int32) (a : Addr) : wpo code ci0 cj0 [] 90 48 [.val (.int v), .val (.int oz), .val (.long j1), .second, .val (.long j2), .second, .val (.int off), .val (.ref a), .unset] [] (fun b M u => b = 57 ∧ M = [.val (.int v), .val (.int oz), .val (.long j1), .second, .val (.long j2), .second, .val (.int off), .val (.ref a), .unset] ∧ u = [.int ((oushrL j1 32).toInt32.toInt8.toInt32), .int 4, .ref a]) := by
  simp only [r_wp0, r_wpS, r_nxt, r_stop0, r_stopS, r_go, r_goIf, r_fork, r_tgt, r_okO, r_gI, r_gJ, r_gA, r_pI, r_pJ, r_pA, r_p1r, r_p1i, r_pII, r_pJJ, r_pJI, r_fnd0, r_fndS, r_gC, r_gC0, r_gB, r_st1, r_st2, r_eq, r_ne, r_lt, r_ge, r_gt, r_le, r_eqL, r_neL, r_ltL, r_geL, r_gtL, r_leL, r_f0, r_f1, r_f2, r_f3, r_im1, r_i0, r_i1, r_i2, r_i3, r_i4, r_i5, r_i7, r_l0, r_l1, lget_z, lget_s, lput_z, lput_s, one_unset, one_int, one_ref, two_unset, two_long, cond_true, cond_false, true_and, and_true, not_true_eq_false, not_false_eq_true, true_implies, false_implies, implies_true, ne_eq, Classical.not_not, Int.cast_ofNat_Int, ite_true, seval, and_self, n_aload, n_astore, n_bastore, n_bipush, n_goto, n_i2b, n_iadd, n_iand, n_iconst, n_ifCond, n_if_icmp, n_iload, n_iload_n, n_invokestatic, n_ireturn, n_istore, n_iushr, n_l2i, n_lload, n_lload_n, n_lushr, n_newarray, b_12, b_8, b_16, b_24, b_32, b_40, b_6, b_48, b_7, b_56, b_9, b_10, b_11, b_14, b_21, b_28, ci0, cj0, at_0, at_1, at_2, at_3, at_5, at_7, at_9, at_11, at_13, at_14, at_15, at_16, at_17, at_18, at_20, at_21, at_22, at_24, at_25, at_26, at_27, at_28, at_30, at_31, at_32, at_34, at_35, at_36, at_37, at_38, at_40, at_41, at_42, at_44, at_45, at_46, at_47, at_48, at_50, at_51, at_52, at_54, at_55, at_56, at_57, at_58, at_60, at_61, at_62, at_64, at_65, at_66, at_67, at_68, at_70, at_72, at_73, at_75, at_76, at_77, at_78, at_79, at_81, at_83, at_84, at_86, at_87, at_88, at_89, at_90, at_92, at_94, at_96, at_97, at_98, at_99, at_101, at_103, at_105, at_107, at_108, at_109, at_110, at_111, at_113, at_115, at_117, at_119, at_120, at_121, at_122, at_123, at_125, at_127, at_129, at_131, at_132, at_133, at_134, at_135, at_136, at_138, at_139, at_142, at_143, at_145, at_148, at_149, at_151, at_152, at_155, at_156, at_158, at_161, at_162, at_164, at_165, at_168, at_169, at_171, at_174, at_175, at_177, at_178, at_181, at_182, at_184, at_187, at_188, at_190, at_192, at_194, at_195, at_196, at_198, at_201, at_202, at_204, at_205, at_208, at_210, at_212, at_213, at_214, at_215, at_216, at_218, at_221, at_222, at_224, at_225, at_228, at_230, at_232, at_233, at_234, at_235, at_236, at_238, at_241, at_242, at_244, at_245, at_248, at_250, at_252, at_253, at_254, at_255, at_256, at_258, at_261, at_262, at_264, at_265, at_268, at_270, at_272, at_273, at_274, at_275, at_276, at_278, at_281, at_282, at_284, at_286, at_289, at_290, at_293, at_294, at_297, at_298]
set_option maxRecDepth 65536 in
set_option maxHeartbeats 4000000 in
theorem wl_7 (v oz : Int32) (j1 j2 : Int64) (off n : Int32) (a : Addr) : wpo code ci0 cj0 [] 90 58 [.val (.int v), .val (.int oz), .val (.long j1), .second, .val (.long j2), .second, .val (.int off), .val (.ref a), .unset] [] (fun b M u => b = 67 ∧ M = [.val (.int v), .val (.int oz), .val (.long j1), .second, .val (.long j2), .second, .val (.int off), .val (.ref a), .unset] ∧ u = [.int ((oushrL j1 40).toInt32.toInt8.toInt32), .int 5, .ref a]) := by
  simp only [r_wp0, r_wpS, r_nxt, r_stop0, r_stopS, r_go, r_goIf, r_fork, r_tgt, r_okO, r_gI, r_gJ, r_gA, r_pI, r_pJ, r_pA, r_p1r, r_p1i, r_pII, r_pJJ, r_pJI, r_fnd0, r_fndS, r_gC, r_gC0, r_gB, r_st1, r_st2, r_eq, r_ne, r_lt, r_ge, r_gt, r_le, r_eqL, r_neL, r_ltL, r_geL, r_gtL, r_leL, r_f0, r_f1, r_f2, r_f3, r_im1, r_i0, r_i1, r_i2, r_i3, r_i4, r_i5, r_i7, r_l0, r_l1, lget_z, lget_s, lput_z, lput_s, one_unset, one_int, one_ref, two_unset, two_long, cond_true, cond_false, true_and, and_true, not_true_eq_false, not_false_eq_true, true_implies, false_implies, implies_true, ne_eq, Classical.not_not, Int.cast_ofNat_Int, ite_true, seval, and_self, n_aload, n_astore, n_bastore, n_bipush, n_goto, n_i2b, n_iadd, n_iand, n_iconst, n_ifCond, n_if_icmp, n_iload, n_iload_n, n_invokestatic, n_ireturn, n_istore, n_iushr, n_l2i, n_lload, n_lload_n, n_lushr, n_newarray, b_12, b_8, b_16, b_24, b_32, b_40, b_6, b_48, b_7, b_56, b_9, b_10, b_11, b_14, b_21, b_28, ci0, cj0, at_0, at_1, at_2, at_3, at_5, at_7, at_9, at_11, at_13, at_14, at_15, at_16, at_17, at_18, at_20, at_21, at_22, at_24, at_25, at_26, at_27, at_28, at_30, at_31, at_32, at_34, at_35, at_36, at_37, at_38, at_40, at_41, at_42, at_44, at_45, at_46, at_47, at_48, at_50, at_51, at_52, at_54, at_55, at_56, at_57, at_58, at_60, at_61, at_62, at_64, at_65, at_66, at_67, at_68, at_70, at_72, at_73, at_75, at_76, at_77, at_78, at_79, at_81, at_83, at_84, at_86, at_87, at_88, at_89, at_90, at_92, at_94, at_96, at_97, at_98, at_99, at_101, at_103, at_105, at_107, at_108, at_109, at_110, at_111, at_113, at_115, at_117, at_119, at_120, at_121, at_122, at_123, at_125, at_127, at_129, at_131, at_132, at_133, at_134, at_135, at_136, at_138, at_139, at_142, at_143, at_145, at_148, at_149, at_151, at_152, at_155, at_156, at_158, at_161, at_162, at_164, at_165, at_168, at_169, at_171, at_174, at_175, at_177, at_178, at_181, at_182, at_184, at_187, at_188, at_190, at_192, at_194, at_195, at_196, at_198, at_201, at_202, at_204, at_205, at_208, at_210, at_212, at_213, at_214, at_215, at_216, at_218, at_221, at_222, at_224, at_225, at_228, at_230, at_232, at_233, at_234, at_235, at_236, at_238, at_241, at_242, at_244, at_245, at_248, at_250, at_252, at_253, at_254, at_255, at_256, at_258, at_261, at_262, at_264, at_265, at_268, at_270, at_272, at_273, at_274, at_275, at_276, at_278, at_281, at_282, at_284, at_286, at_289, at_290, at_293, at_294, at_297, at_298]
set_option maxRecDepth 65536 in
set_option maxHeartbeats 4000000 in
theorem wl_8 (v oz : Int32) (j1 j2 : Int64) (off n : Int32) (a : Addr) : wpo code ci0 cj0 [] 90 68 [.val (.int v), .val (.int oz), .val (.long j1), .second, .val (.long j2), .second, .val (.int off), .val (.ref a), .unset] [] (fun b M u => b = 78 ∧ M = [.val (.int v), .val (.int oz), .val (.long j1), .second, .val (.long j2), .second, .val (.int off), .val (.ref a), .unset] ∧ u = [.int ((oushrL j1 48).toInt32.toInt8.toInt32), .int 6, .ref a]) := by
  simp only [r_wp0, r_wpS, r_nxt, r_stop0, r_stopS, r_go, r_goIf, r_fork, r_tgt, r_okO, r_gI, r_gJ, r_gA, r_pI, r_pJ, r_pA, r_p1r, r_p1i, r_pII, r_pJJ, r_pJI, r_fnd0, r_fndS, r_gC, r_gC0, r_gB, r_st1, r_st2, r_eq, r_ne, r_lt, r_ge, r_gt, r_le, r_eqL, r_neL, r_ltL, r_geL, r_gtL, r_leL, r_f0, r_f1, r_f2, r_f3, r_im1, r_i0, r_i1, r_i2, r_i3, r_i4, r_i5, r_i7, r_l0, r_l1, lget_z, lget_s, lput_z, lput_s, one_unset, one_int, one_ref, two_unset, two_long, cond_true, cond_false, true_and, and_true, not_true_eq_false, not_false_eq_true, true_implies, false_implies, implies_true, ne_eq, Classical.not_not, Int.cast_ofNat_Int, ite_true, seval, and_self, n_aload, n_astore, n_bastore, n_bipush, n_goto, n_i2b, n_iadd, n_iand, n_iconst, n_ifCond, n_if_icmp, n_iload, n_iload_n, n_invokestatic, n_ireturn, n_istore, n_iushr, n_l2i, n_lload, n_lload_n, n_lushr, n_newarray, b_12, b_8, b_16, b_24, b_32, b_40, b_6, b_48, b_7, b_56, b_9, b_10, b_11, b_14, b_21, b_28, ci0, cj0, at_0, at_1, at_2, at_3, at_5, at_7, at_9, at_11, at_13, at_14, at_15, at_16, at_17, at_18, at_20, at_21, at_22, at_24, at_25, at_26, at_27, at_28, at_30, at_31, at_32, at_34, at_35, at_36, at_37, at_38, at_40, at_41, at_42, at_44, at_45, at_46, at_47, at_48, at_50, at_51, at_52, at_54, at_55, at_56, at_57, at_58, at_60, at_61, at_62, at_64, at_65, at_66, at_67, at_68, at_70, at_72, at_73, at_75, at_76, at_77, at_78, at_79, at_81, at_83, at_84, at_86, at_87, at_88, at_89, at_90, at_92, at_94, at_96, at_97, at_98, at_99, at_101, at_103, at_105, at_107, at_108, at_109, at_110, at_111, at_113, at_115, at_117, at_119, at_120, at_121, at_122, at_123, at_125, at_127, at_129, at_131, at_132, at_133, at_134, at_135, at_136, at_138, at_139, at_142, at_143, at_145, at_148, at_149, at_151, at_152, at_155, at_156, at_158, at_161, at_162, at_164, at_165, at_168, at_169, at_171, at_174, at_175, at_177, at_178, at_181, at_182, at_184, at_187, at_188, at_190, at_192, at_194, at_195, at_196, at_198, at_201, at_202, at_204, at_205, at_208, at_210, at_212, at_213, at_214, at_215, at_216, at_218, at_221, at_222, at_224, at_225, at_228, at_230, at_232, at_233, at_234, at_235, at_236, at_238, at_241, at_242, at_244, at_245, at_248, at_250, at_252, at_253, at_254, at_255, at_256, at_258, at_261, at_262, at_264, at_265, at_268, at_270, at_272, at_273, at_274, at_275, at_276, at_278, at_281, at_282, at_284, at_286, at_289, at_290, at_293, at_294, at_297, at_298]
set_option maxRecDepth 65536 in
set_option maxHeartbeats 4000000 in
theorem wl_9 (v oz : Int32) (j1 j2 : Int64) (off n : Int32) (a : Addr) : wpo code ci0 cj0 [] 90 79 [.val (.int v), .val (.int oz), .val (.long j1), .second, .val (.long j2), .second, .val (.int off), .val (.ref a), .unset] [] (fun b M u => b = 89 ∧ M = [.val (.int v), .val (.int oz), .val (.long j1), .second, .val (.long j2), .second, .val (.int off), .val (.ref a), .unset] ∧ u = [.int ((oushrL j1 56).toInt32.toInt8.toInt32), .int 7, .ref a]) := by
  simp only [r_wp0, r_wpS, r_nxt, r_stop0, r_stopS, r_go, r_goIf, r_fork, r_tgt, r_okO, r_gI, r_gJ, r_gA, r_pI, r_pJ, r_pA, r_p1r, r_p1i, r_pII, r_pJJ, r_pJI, r_fnd0, r_fndS, r_gC, r_gC0, r_gB, r_st1, r_st2, r_eq, r_ne, r_lt, r_ge, r_gt, r_le, r_eqL, r_neL, r_ltL, r_geL, r_gtL, r_leL, r_f0, r_f1, r_f2, r_f3, r_im1, r_i0, r_i1, r_i2, r_i3, r_i4, r_i5, r_i7, r_l0, r_l1, lget_z, lget_s, lput_z, lput_s, one_unset, one_int, one_ref, two_unset, two_long, cond_true, cond_false, true_and, and_true, not_true_eq_false, not_false_eq_true, true_implies, false_implies, implies_true, ne_eq, Classical.not_not, Int.cast_ofNat_Int, ite_true, seval, and_self, n_aload, n_astore, n_bastore, n_bipush, n_goto, n_i2b, n_iadd, n_iand, n_iconst, n_ifCond, n_if_icmp, n_iload, n_iload_n, n_invokestatic, n_ireturn, n_istore, n_iushr, n_l2i, n_lload, n_lload_n, n_lushr, n_newarray, b_12, b_8, b_16, b_24, b_32, b_40, b_6, b_48, b_7, b_56, b_9, b_10, b_11, b_14, b_21, b_28, ci0, cj0, at_0, at_1, at_2, at_3, at_5, at_7, at_9, at_11, at_13, at_14, at_15, at_16, at_17, at_18, at_20, at_21, at_22, at_24, at_25, at_26, at_27, at_28, at_30, at_31, at_32, at_34, at_35, at_36, at_37, at_38, at_40, at_41, at_42, at_44, at_45, at_46, at_47, at_48, at_50, at_51, at_52, at_54, at_55, at_56, at_57, at_58, at_60, at_61, at_62, at_64, at_65, at_66, at_67, at_68, at_70, at_72, at_73, at_75, at_76, at_77, at_78, at_79, at_81, at_83, at_84, at_86, at_87, at_88, at_89, at_90, at_92, at_94, at_96, at_97, at_98, at_99, at_101, at_103, at_105, at_107, at_108, at_109, at_110, at_111, at_113, at_115, at_117, at_119, at_120, at_121, at_122, at_123, at_125, at_127, at_129, at_131, at_132, at_133, at_134, at_135, at_136, at_138, at_139, at_142, at_143, at_145, at_148, at_149, at_151, at_152, at_155, at_156, at_158, at_161, at_162, at_164, at_165, at_168, at_169, at_171, at_174, at_175, at_177, at_178, at_181, at_182, at_184, at_187, at_188, at_190, at_192, at_194, at_195, at_196, at_198, at_201, at_202, at_204, at_205, at_208, at_210, at_212, at_213, at_214, at_215, at_216, at_218, at_221, at_222, at_224, at_225, at_228, at_230, at_232, at_233, at_234, at_235, at_236, at_238, at_241, at_242, at_244, at_245, at_248, at_250, at_252, at_253, at_254, at_255, at_256, at_258, at_261, at_262, at_264, at_265, at_268, at_270, at_272, at_273, at_274, at_275, at_276, at_278, at_281, at_282, at_284, at_286, at_289, at_290, at_293, at_294, at_297, at_298]
set_option maxRecDepth 65536 in
set_option maxHeartbeats 4000000 in
theorem wl_10 (v oz : Int32) (j1 j2 : Int64) (off n : Int32) (a : Addr) : wpo code ci0 cj0 [] 90 90 [.val (.int v), .val (.int oz), .val (.long j1), .second, .val (.long j2), .second, .val (.int off), .val (.ref a), .unset] [] (fun b M u => b = 98 ∧ M = [.val (.int v), .val (.int oz), .val (.long j1), .second, .val (.long j2), .second, .val (.int off), .val (.ref a), .unset] ∧ u = [.int (j2.toInt32.toInt8.toInt32), .int 8, .ref a]) := by
  simp only [r_wp0, r_wpS, r_nxt, r_stop0, r_stopS, r_go, r_goIf, r_fork, r_tgt, r_okO, r_gI, r_gJ, r_gA, r_pI, r_pJ, r_pA, r_p1r, r_p1i, r_pII, r_pJJ, r_pJI, r_fnd0, r_fndS, r_gC, r_gC0, r_gB, r_st1, r_st2, r_eq, r_ne, r_lt, r_ge, r_gt, r_le, r_eqL, r_neL, r_ltL, r_geL, r_gtL, r_leL, r_f0, r_f1, r_f2, r_f3, r_im1, r_i0, r_i1, r_i2, r_i3, r_i4, r_i5, r_i7, r_l0, r_l1, lget_z, lget_s, lput_z, lput_s, one_unset, one_int, one_ref, two_unset, two_long, cond_true, cond_false, true_and, and_true, not_true_eq_false, not_false_eq_true, true_implies, false_implies, implies_true, ne_eq, Classical.not_not, Int.cast_ofNat_Int, ite_true, seval, and_self, n_aload, n_astore, n_bastore, n_bipush, n_goto, n_i2b, n_iadd, n_iand, n_iconst, n_ifCond, n_if_icmp, n_iload, n_iload_n, n_invokestatic, n_ireturn, n_istore, n_iushr, n_l2i, n_lload, n_lload_n, n_lushr, n_newarray, b_12, b_8, b_16, b_24, b_32, b_40, b_6, b_48, b_7, b_56, b_9, b_10, b_11, b_14, b_21, b_28, ci0, cj0, at_0, at_1, at_2, at_3, at_5, at_7, at_9, at_11, at_13, at_14, at_15, at_16, at_17, at_18, at_20, at_21, at_22, at_24, at_25, at_26, at_27, at_28, at_30, at_31, at_32, at_34, at_35, at_36, at_37, at_38, at_40, at_41, at_42, at_44, at_45, at_46, at_47, at_48, at_50, at_51, at_52, at_54, at_55, at_56, at_57, at_58, at_60, at_61, at_62, at_64, at_65, at_66, at_67, at_68, at_70, at_72, at_73, at_75, at_76, at_77, at_78, at_79, at_81, at_83, at_84, at_86, at_87, at_88, at_89, at_90, at_92, at_94, at_96, at_97, at_98, at_99, at_101, at_103, at_105, at_107, at_108, at_109, at_110, at_111, at_113, at_115, at_117, at_119, at_120, at_121, at_122, at_123, at_125, at_127, at_129, at_131, at_132, at_133, at_134, at_135, at_136, at_138, at_139, at_142, at_143, at_145, at_148, at_149, at_151, at_152, at_155, at_156, at_158, at_161, at_162, at_164, at_165, at_168, at_169, at_171, at_174, at_175, at_177, at_178, at_181, at_182, at_184, at_187, at_188, at_190, at_192, at_194, at_195, at_196, at_198, at_201, at_202, at_204, at_205, at_208, at_210, at_212, at_213, at_214, at_215, at_216, at_218, at_221, at_222, at_224, at_225, at_228, at_230, at_232, at_233, at_234, at_235, at_236, at_238, at_241, at_242, at_244, at_245, at_248, at_250, at_252, at_253, at_254, at_255, at_256, at_258, at_261, at_262, at_264, at_265, at_268, at_270, at_272, at_273, at_274, at_275, at_276, at_278, at_281, at_282, at_284, at_286, at_289, at_290, at_293, at_294, at_297, at_298]
set_option maxRecDepth 65536 in
set_option maxHeartbeats 4000000 in
theorem wl_11 (v oz : Int32) (j1 j2 : Int64) (off n : Int32) (a : Addr) : wpo code ci0 cj0 [] 90 99 [.val (.int v), .val (.int oz), .val (.long j1), .second, .val (.long j2), .second, .val (.int off), .val (.ref a), .unset] [] (fun b M u => b = 110 ∧ M = [.val (.int v), .val (.int oz), .val (.long j1), .second, .val (.long j2), .second, .val (.int off), .val (.ref a), .unset] ∧ u = [.int ((oushrL j2 8).toInt32.toInt8.toInt32), .int 9, .ref a]) := by
  simp only [r_wp0, r_wpS, r_nxt, r_stop0, r_stopS, r_go, r_goIf, r_fork, r_tgt, r_okO, r_gI, r_gJ, r_gA, r_pI, r_pJ, r_pA, r_p1r, r_p1i, r_pII, r_pJJ, r_pJI, r_fnd0, r_fndS, r_gC, r_gC0, r_gB, r_st1, r_st2, r_eq, r_ne, r_lt, r_ge, r_gt, r_le, r_eqL, r_neL, r_ltL, r_geL, r_gtL, r_leL, r_f0, r_f1, r_f2, r_f3, r_im1, r_i0, r_i1, r_i2, r_i3, r_i4, r_i5, r_i7, r_l0, r_l1, lget_z, lget_s, lput_z, lput_s, one_unset, one_int, one_ref, two_unset, two_long, cond_true, cond_false, true_and, and_true, not_true_eq_false, not_false_eq_true, true_implies, false_implies, implies_true, ne_eq, Classical.not_not, Int.cast_ofNat_Int, ite_true, seval, and_self, n_aload, n_astore, n_bastore, n_bipush, n_goto, n_i2b, n_iadd, n_iand, n_iconst, n_ifCond, n_if_icmp, n_iload, n_iload_n, n_invokestatic, n_ireturn, n_istore, n_iushr, n_l2i, n_lload, n_lload_n, n_lushr, n_newarray, b_12, b_8, b_16, b_24, b_32, b_40, b_6, b_48, b_7, b_56, b_9, b_10, b_11, b_14, b_21, b_28, ci0, cj0, at_0, at_1, at_2, at_3, at_5, at_7, at_9, at_11, at_13, at_14, at_15, at_16, at_17, at_18, at_20, at_21, at_22, at_24, at_25, at_26, at_27, at_28, at_30, at_31, at_32, at_34, at_35, at_36, at_37, at_38, at_40, at_41, at_42, at_44, at_45, at_46, at_47, at_48, at_50, at_51, at_52, at_54, at_55, at_56, at_57, at_58, at_60, at_61, at_62, at_64, at_65, at_66, at_67, at_68, at_70, at_72, at_73, at_75, at_76, at_77, at_78, at_79, at_81, at_83, at_84, at_86, at_87, at_88, at_89, at_90, at_92, at_94, at_96, at_97, at_98, at_99, at_101, at_103, at_105, at_107, at_108, at_109, at_110, at_111, at_113, at_115, at_117, at_119, at_120, at_121, at_122, at_123, at_125, at_127, at_129, at_131, at_132, at_133, at_134, at_135, at_136, at_138, at_139, at_142, at_143, at_145, at_148, at_149, at_151, at_152, at_155, at_156, at_158, at_161, at_162, at_164, at_165, at_168, at_169, at_171, at_174, at_175, at_177, at_178, at_181, at_182, at_184, at_187, at_188, at_190, at_192, at_194, at_195, at_196, at_198, at_201, at_202, at_204, at_205, at_208, at_210, at_212, at_213, at_214, at_215, at_216, at_218, at_221, at_222, at_224, at_225, at_228, at_230, at_232, at_233, at_234, at_235, at_236, at_238, at_241, at_242, at_244, at_245, at_248, at_250, at_252, at_253, at_254, at_255, at_256, at_258, at_261, at_262, at_264, at_265, at_268, at_270, at_272, at_273, at_274, at_275, at_276, at_278, at_281, at_282, at_284, at_286, at_289, at_290, at_293, at_294, at_297, at_298]
set_option maxRecDepth 65536 in
set_option maxHeartbeats 4000000 in
theorem wl_12 (v oz : Int32) (j1 j2 : Int64) (off n : Int32) (a : Addr) : wpo code ci0 cj0 [] 90 111 [.val (.int v), .val (.int oz), .val (.long j1), .second, .val (.long j2), .second, .val (.int off), .val (.ref a), .unset] [] (fun b M u => b = 122 ∧ M = [.val (.int v), .val (.int oz), .val (.long j1), .second, .val (.long j2), .second, .val (.int off), .val (.ref a), .unset] ∧ u = [.int ((oushrL j2 16).toInt32.toInt8.toInt32), .int 10, .ref a]) := by
  simp only [r_wp0, r_wpS, r_nxt, r_stop0, r_stopS, r_go, r_goIf, r_fork, r_tgt, r_okO, r_gI, r_gJ, r_gA, r_pI, r_pJ, r_pA, r_p1r, r_p1i, r_pII, r_pJJ, r_pJI, r_fnd0, r_fndS, r_gC, r_gC0, r_gB, r_st1, r_st2, r_eq, r_ne, r_lt, r_ge, r_gt, r_le, r_eqL, r_neL, r_ltL, r_geL, r_gtL, r_leL, r_f0, r_f1, r_f2, r_f3, r_im1, r_i0, r_i1, r_i2, r_i3, r_i4, r_i5, r_i7, r_l0, r_l1, lget_z, lget_s, lput_z, lput_s, one_unset, one_int, one_ref, two_unset, two_long, cond_true, cond_false, true_and, and_true, not_true_eq_false, not_false_eq_true, true_implies, false_implies, implies_true, ne_eq, Classical.not_not, Int.cast_ofNat_Int, ite_true, seval, and_self, n_aload, n_astore, n_bastore, n_bipush, n_goto, n_i2b, n_iadd, n_iand, n_iconst, n_ifCond, n_if_icmp, n_iload, n_iload_n, n_invokestatic, n_ireturn, n_istore, n_iushr, n_l2i, n_lload, n_lload_n, n_lushr, n_newarray, b_12, b_8, b_16, b_24, b_32, b_40, b_6, b_48, b_7, b_56, b_9, b_10, b_11, b_14, b_21, b_28, ci0, cj0, at_0, at_1, at_2, at_3, at_5, at_7, at_9, at_11, at_13, at_14, at_15, at_16, at_17, at_18, at_20, at_21, at_22, at_24, at_25, at_26, at_27, at_28, at_30, at_31, at_32, at_34, at_35, at_36, at_37, at_38, at_40, at_41, at_42, at_44, at_45, at_46, at_47, at_48, at_50, at_51, at_52, at_54, at_55, at_56, at_57, at_58, at_60, at_61, at_62, at_64, at_65, at_66, at_67, at_68, at_70, at_72, at_73, at_75, at_76, at_77, at_78, at_79, at_81, at_83, at_84, at_86, at_87, at_88, at_89, at_90, at_92, at_94, at_96, at_97, at_98, at_99, at_101, at_103, at_105, at_107, at_108, at_109, at_110, at_111, at_113, at_115, at_117, at_119, at_120, at_121, at_122, at_123, at_125, at_127, at_129, at_131, at_132, at_133, at_134, at_135, at_136, at_138, at_139, at_142, at_143, at_145, at_148, at_149, at_151, at_152, at_155, at_156, at_158, at_161, at_162, at_164, at_165, at_168, at_169, at_171, at_174, at_175, at_177, at_178, at_181, at_182, at_184, at_187, at_188, at_190, at_192, at_194, at_195, at_196, at_198, at_201, at_202, at_204, at_205, at_208, at_210, at_212, at_213, at_214, at_215, at_216, at_218, at_221, at_222, at_224, at_225, at_228, at_230, at_232, at_233, at_234, at_235, at_236, at_238, at_241, at_242, at_244, at_245, at_248, at_250, at_252, at_253, at_254, at_255, at_256, at_258, at_261, at_262, at_264, at_265, at_268, at_270, at_272, at_273, at_274, at_275, at_276, at_278, at_281, at_282, at_284, at_286, at_289, at_290, at_293, at_294, at_297, at_298]
set_option maxRecDepth 65536 in
set_option maxHeartbeats 4000000 in
theorem wl_13 (v oz : Int32) (j1 j2 : Int64) (off n : Int32) (a : Addr) : wpo code ci0 cj0 [] 90 123 [.val (.int v), .val (.int oz), .val (.long j1), .second, .val (.long j2), .second, .val (.int off), .val (.ref a), .unset] [] (fun b M u => b = 134 ∧ M = [.val (.int v), .val (.int oz), .val (.long j1), .second, .val (.long j2), .second, .val (.int off), .val (.ref a), .unset] ∧ u = [.int ((oushrL j2 24).toInt32.toInt8.toInt32), .int 11, .ref a]) := by
  simp only [r_wp0, r_wpS, r_nxt, r_stop0, r_stopS, r_go, r_goIf, r_fork, r_tgt, r_okO, r_gI, r_gJ, r_gA, r_pI, r_pJ, r_pA, r_p1r, r_p1i, r_pII, r_pJJ, r_pJI, r_fnd0, r_fndS, r_gC, r_gC0, r_gB, r_st1, r_st2, r_eq, r_ne, r_lt, r_ge, r_gt, r_le, r_eqL, r_neL, r_ltL, r_geL, r_gtL, r_leL, r_f0, r_f1, r_f2, r_f3, r_im1, r_i0, r_i1, r_i2, r_i3, r_i4, r_i5, r_i7, r_l0, r_l1, lget_z, lget_s, lput_z, lput_s, one_unset, one_int, one_ref, two_unset, two_long, cond_true, cond_false, true_and, and_true, not_true_eq_false, not_false_eq_true, true_implies, false_implies, implies_true, ne_eq, Classical.not_not, Int.cast_ofNat_Int, ite_true, seval, and_self, n_aload, n_astore, n_bastore, n_bipush, n_goto, n_i2b, n_iadd, n_iand, n_iconst, n_ifCond, n_if_icmp, n_iload, n_iload_n, n_invokestatic, n_ireturn, n_istore, n_iushr, n_l2i, n_lload, n_lload_n, n_lushr, n_newarray, b_12, b_8, b_16, b_24, b_32, b_40, b_6, b_48, b_7, b_56, b_9, b_10, b_11, b_14, b_21, b_28, ci0, cj0, at_0, at_1, at_2, at_3, at_5, at_7, at_9, at_11, at_13, at_14, at_15, at_16, at_17, at_18, at_20, at_21, at_22, at_24, at_25, at_26, at_27, at_28, at_30, at_31, at_32, at_34, at_35, at_36, at_37, at_38, at_40, at_41, at_42, at_44, at_45, at_46, at_47, at_48, at_50, at_51, at_52, at_54, at_55, at_56, at_57, at_58, at_60, at_61, at_62, at_64, at_65, at_66, at_67, at_68, at_70, at_72, at_73, at_75, at_76, at_77, at_78, at_79, at_81, at_83, at_84, at_86, at_87, at_88, at_89, at_90, at_92, at_94, at_96, at_97, at_98, at_99, at_101, at_103, at_105, at_107, at_108, at_109, at_110, at_111, at_113, at_115, at_117, at_119, at_120, at_121, at_122, at_123, at_125, at_127, at_129, at_131, at_132, at_133, at_134, at_135, at_136, at_138, at_139, at_142, at_143, at_145, at_148, at_149, at_151, at_152, at_155, at_156, at_158, at_161, at_162, at_164, at_165, at_168, at_169, at_171, at_174, at_175, at_177, at_178, at_181, at_182, at_184, at_187, at_188, at_190, at_192, at_194, at_195, at_196, at_198, at_201, at_202, at_204, at_205, at_208, at_210, at_212, at_213, at_214, at_215, at_216, at_218, at_221, at_222, at_224, at_225, at_228, at_230, at_232, at_233, at_234, at_235, at_236, at_238, at_241, at_242, at_244, at_245, at_248, at_250, at_252, at_253, at_254, at_255, at_256, at_258, at_261, at_262, at_264, at_265, at_268, at_270, at_272, at_273, at_274, at_275, at_276, at_278, at_281, at_282, at_284, at_286, at_289, at_290, at_293, at_294, at_297, at_298]
set_option maxRecDepth 65536 in
set_option maxHeartbeats 4000000 in
theorem wl_14 (v oz : Int32) (j1 j2 : Int64) (off n : Int32) (a : Addr) : wpo code ci0 cj0 [190] 90 135 [.val (.int v), .val (.int oz), .val (.long j1), .second, .val (.long j2), .second, .val (.int off), .val (.ref a), .unset] [] (fun b M u => b = 190 ∧ M = [.val (.int v), .val (.int oz), .val (.long j1), .second, .val (.long j2), .second, .val (.int off), .val (.ref a), .val (.int (own_n v))] ∧ u = []) := by
  simp only [r_wp0, r_wpS, r_nxt, r_stop0, r_stopS, r_go, r_goIf, r_fork, r_tgt, r_okO, r_gI, r_gJ, r_gA, r_pI, r_pJ, r_pA, r_p1r, r_p1i, r_pII, r_pJJ, r_pJI, r_fnd0, r_fndS, r_gC, r_gC0, r_gB, r_st1, r_st2, r_eq, r_ne, r_lt, r_ge, r_gt, r_le, r_eqL, r_neL, r_ltL, r_geL, r_gtL, r_leL, r_f0, r_f1, r_f2, r_f3, r_im1, r_i0, r_i1, r_i2, r_i3, r_i4, r_i5, r_i7, r_l0, r_l1, lget_z, lget_s, lput_z, lput_s, one_unset, one_int, one_ref, two_unset, two_long, cond_true, cond_false, true_and, and_true, not_true_eq_false, not_false_eq_true, true_implies, false_implies, implies_true, ne_eq, Classical.not_not, Int.cast_ofNat_Int, ite_true, seval, and_self, n_aload, n_astore, n_bastore, n_bipush, n_goto, n_i2b, n_iadd, n_iand, n_iconst, n_ifCond, n_if_icmp, n_iload, n_iload_n, n_invokestatic, n_ireturn, n_istore, n_iushr, n_l2i, n_lload, n_lload_n, n_lushr, n_newarray, b_12, b_8, b_16, b_24, b_32, b_40, b_6, b_48, b_7, b_56, b_9, b_10, b_11, b_14, b_21, b_28, ci0, cj0, at_0, at_1, at_2, at_3, at_5, at_7, at_9, at_11, at_13, at_14, at_15, at_16, at_17, at_18, at_20, at_21, at_22, at_24, at_25, at_26, at_27, at_28, at_30, at_31, at_32, at_34, at_35, at_36, at_37, at_38, at_40, at_41, at_42, at_44, at_45, at_46, at_47, at_48, at_50, at_51, at_52, at_54, at_55, at_56, at_57, at_58, at_60, at_61, at_62, at_64, at_65, at_66, at_67, at_68, at_70, at_72, at_73, at_75, at_76, at_77, at_78, at_79, at_81, at_83, at_84, at_86, at_87, at_88, at_89, at_90, at_92, at_94, at_96, at_97, at_98, at_99, at_101, at_103, at_105, at_107, at_108, at_109, at_110, at_111, at_113, at_115, at_117, at_119, at_120, at_121, at_122, at_123, at_125, at_127, at_129, at_131, at_132, at_133, at_134, at_135, at_136, at_138, at_139, at_142, at_143, at_145, at_148, at_149, at_151, at_152, at_155, at_156, at_158, at_161, at_162, at_164, at_165, at_168, at_169, at_171, at_174, at_175, at_177, at_178, at_181, at_182, at_184, at_187, at_188, at_190, at_192, at_194, at_195, at_196, at_198, at_201, at_202, at_204, at_205, at_208, at_210, at_212, at_213, at_214, at_215, at_216, at_218, at_221, at_222, at_224, at_225, at_228, at_230, at_232, at_233, at_234, at_235, at_236, at_238, at_241, at_242, at_244, at_245, at_248, at_250, at_252, at_253, at_254, at_255, at_256, at_258, at_261, at_262, at_264, at_265, at_268, at_270, at_272, at_273, at_274, at_275, at_276, at_278, at_281, at_282, at_284, at_286, at_289, at_290, at_293, at_294, at_297, at_298, List.cons.injEq, Slot.val.injEq, Value.int.injEq, Value.long.injEq]
  all_goals (repeat' (first | refine And.intro ?_ ?_ | intro _))
  all_goals simp [own_g, own_by, own_n, *]
set_option maxRecDepth 65536 in
set_option maxHeartbeats 4000000 in
theorem wk_0 (v oz : Int32) (j1 j2 : Int64) (off n : Int32) (a : Addr) : wpo code ci0 cj0 [] 90 190 [.val (.int v), .val (.int oz), .val (.long j1), .second, .val (.long j2), .second, .val (.int off), .val (.ref a), .val (.int n)] [] (fun b M u => b = 198 ∧ M = [.val (.int v), .val (.int oz), .val (.long j1), .second, .val (.long j2), .second, .val (.int off), .val (.ref a), .val (.int n)] ∧ u = [.int n, .int 0, .int v, .int off, .ref a]) := by
  simp only [r_wp0, r_wpS, r_nxt, r_stop0, r_stopS, r_go, r_goIf, r_fork, r_tgt, r_okO, r_gI, r_gJ, r_gA, r_pI, r_pJ, r_pA, r_p1r, r_p1i, r_pII, r_pJJ, r_pJI, r_fnd0, r_fndS, r_gC, r_gC0, r_gB, r_st1, r_st2, r_eq, r_ne, r_lt, r_ge, r_gt, r_le, r_eqL, r_neL, r_ltL, r_geL, r_gtL, r_leL, r_f0, r_f1, r_f2, r_f3, r_im1, r_i0, r_i1, r_i2, r_i3, r_i4, r_i5, r_i7, r_l0, r_l1, lget_z, lget_s, lput_z, lput_s, one_unset, one_int, one_ref, two_unset, two_long, cond_true, cond_false, true_and, and_true, not_true_eq_false, not_false_eq_true, true_implies, false_implies, implies_true, ne_eq, Classical.not_not, Int.cast_ofNat_Int, ite_true, seval, and_self, n_aload, n_astore, n_bastore, n_bipush, n_goto, n_i2b, n_iadd, n_iand, n_iconst, n_ifCond, n_if_icmp, n_iload, n_iload_n, n_invokestatic, n_ireturn, n_istore, n_iushr, n_l2i, n_lload, n_lload_n, n_lushr, n_newarray, b_12, b_8, b_16, b_24, b_32, b_40, b_6, b_48, b_7, b_56, b_9, b_10, b_11, b_14, b_21, b_28, ci0, cj0, at_0, at_1, at_2, at_3, at_5, at_7, at_9, at_11, at_13, at_14, at_15, at_16, at_17, at_18, at_20, at_21, at_22, at_24, at_25, at_26, at_27, at_28, at_30, at_31, at_32, at_34, at_35, at_36, at_37, at_38, at_40, at_41, at_42, at_44, at_45, at_46, at_47, at_48, at_50, at_51, at_52, at_54, at_55, at_56, at_57, at_58, at_60, at_61, at_62, at_64, at_65, at_66, at_67, at_68, at_70, at_72, at_73, at_75, at_76, at_77, at_78, at_79, at_81, at_83, at_84, at_86, at_87, at_88, at_89, at_90, at_92, at_94, at_96, at_97, at_98, at_99, at_101, at_103, at_105, at_107, at_108, at_109, at_110, at_111, at_113, at_115, at_117, at_119, at_120, at_121, at_122, at_123, at_125, at_127, at_129, at_131, at_132, at_133, at_134, at_135, at_136, at_138, at_139, at_142, at_143, at_145, at_148, at_149, at_151, at_152, at_155, at_156, at_158, at_161, at_162, at_164, at_165, at_168, at_169, at_171, at_174, at_175, at_177, at_178, at_181, at_182, at_184, at_187, at_188, at_190, at_192, at_194, at_195, at_196, at_198, at_201, at_202, at_204, at_205, at_208, at_210, at_212, at_213, at_214, at_215, at_216, at_218, at_221, at_222, at_224, at_225, at_228, at_230, at_232, at_233, at_234, at_235, at_236, at_238, at_241, at_242, at_244, at_245, at_248, at_250, at_252, at_253, at_254, at_255, at_256, at_258, at_261, at_262, at_264, at_265, at_268, at_270, at_272, at_273, at_274, at_275, at_276, at_278, at_281, at_282, at_284, at_286, at_289, at_290, at_293, at_294, at_297, at_298]
set_option maxRecDepth 65536 in
set_option maxHeartbeats 4000000 in
theorem wk_1 (v oz : Int32) (j1 j2 : Int64) (off n : Int32) (a : Addr) (h : 1 < n) : wpo code ci0 cj0 [] 90 202 [.val (.int v), .val (.int oz), .val (.long j1), .second, .val (.long j2), .second, .val (.int off), .val (.ref a), .val (.int n)] [] (fun b M u => b = 218 ∧ M = [.val (.int v), .val (.int oz), .val (.long j1), .second, .val (.long j2), .second, .val (.int off), .val (.ref a), .val (.int n)] ∧ u = [.int n, .int 1, .int v, .int (off + 1), .ref a]) := by
  simp only [r_wp0, r_wpS, r_nxt, r_stop0, r_stopS, r_go, r_goIf, r_fork, r_tgt, r_okO, r_gI, r_gJ, r_gA, r_pI, r_pJ, r_pA, r_p1r, r_p1i, r_pII, r_pJJ, r_pJI, r_fnd0, r_fndS, r_gC, r_gC0, r_gB, r_st1, r_st2, r_eq, r_ne, r_lt, r_ge, r_gt, r_le, r_eqL, r_neL, r_ltL, r_geL, r_gtL, r_leL, r_f0, r_f1, r_f2, r_f3, r_im1, r_i0, r_i1, r_i2, r_i3, r_i4, r_i5, r_i7, r_l0, r_l1, lget_z, lget_s, lput_z, lput_s, one_unset, one_int, one_ref, two_unset, two_long, cond_true, cond_false, true_and, and_true, not_true_eq_false, not_false_eq_true, true_implies, false_implies, implies_true, ne_eq, Classical.not_not, Int.cast_ofNat_Int, ite_true, seval, and_self, n_aload, n_astore, n_bastore, n_bipush, n_goto, n_i2b, n_iadd, n_iand, n_iconst, n_ifCond, n_if_icmp, n_iload, n_iload_n, n_invokestatic, n_ireturn, n_istore, n_iushr, n_l2i, n_lload, n_lload_n, n_lushr, n_newarray, b_12, b_8, b_16, b_24, b_32, b_40, b_6, b_48, b_7, b_56, b_9, b_10, b_11, b_14, b_21, b_28, ci0, cj0, at_0, at_1, at_2, at_3, at_5, at_7, at_9, at_11, at_13, at_14, at_15, at_16, at_17, at_18, at_20, at_21, at_22, at_24, at_25, at_26, at_27, at_28, at_30, at_31, at_32, at_34, at_35, at_36, at_37, at_38, at_40, at_41, at_42, at_44, at_45, at_46, at_47, at_48, at_50, at_51, at_52, at_54, at_55, at_56, at_57, at_58, at_60, at_61, at_62, at_64, at_65, at_66, at_67, at_68, at_70, at_72, at_73, at_75, at_76, at_77, at_78, at_79, at_81, at_83, at_84, at_86, at_87, at_88, at_89, at_90, at_92, at_94, at_96, at_97, at_98, at_99, at_101, at_103, at_105, at_107, at_108, at_109, at_110, at_111, at_113, at_115, at_117, at_119, at_120, at_121, at_122, at_123, at_125, at_127, at_129, at_131, at_132, at_133, at_134, at_135, at_136, at_138, at_139, at_142, at_143, at_145, at_148, at_149, at_151, at_152, at_155, at_156, at_158, at_161, at_162, at_164, at_165, at_168, at_169, at_171, at_174, at_175, at_177, at_178, at_181, at_182, at_184, at_187, at_188, at_190, at_192, at_194, at_195, at_196, at_198, at_201, at_202, at_204, at_205, at_208, at_210, at_212, at_213, at_214, at_215, at_216, at_218, at_221, at_222, at_224, at_225, at_228, at_230, at_232, at_233, at_234, at_235, at_236, at_238, at_241, at_242, at_244, at_245, at_248, at_250, at_252, at_253, at_254, at_255, at_256, at_258, at_261, at_262, at_264, at_265, at_268, at_270, at_272, at_273, at_274, at_275, at_276, at_278, at_281, at_282, at_284, at_286, at_289, at_290, at_293, at_294, at_297, at_298, h]
set_option maxRecDepth 65536 in
set_option maxHeartbeats 4000000 in
theorem wk_2 (v oz : Int32) (j1 j2 : Int64) (off n : Int32) (a : Addr) (h : 2 < n) : wpo code ci0 cj0 [] 90 222 [.val (.int v), .val (.int oz), .val (.long j1), .second, .val (.long j2), .second, .val (.int off), .val (.ref a), .val (.int n)] [] (fun b M u => b = 238 ∧ M = [.val (.int v), .val (.int oz), .val (.long j1), .second, .val (.long j2), .second, .val (.int off), .val (.ref a), .val (.int n)] ∧ u = [.int n, .int 2, .int v, .int (off + 2), .ref a]) := by
  simp only [r_wp0, r_wpS, r_nxt, r_stop0, r_stopS, r_go, r_goIf, r_fork, r_tgt, r_okO, r_gI, r_gJ, r_gA, r_pI, r_pJ, r_pA, r_p1r, r_p1i, r_pII, r_pJJ, r_pJI, r_fnd0, r_fndS, r_gC, r_gC0, r_gB, r_st1, r_st2, r_eq, r_ne, r_lt, r_ge, r_gt, r_le, r_eqL, r_neL, r_ltL, r_geL, r_gtL, r_leL, r_f0, r_f1, r_f2, r_f3, r_im1, r_i0, r_i1, r_i2, r_i3, r_i4, r_i5, r_i7, r_l0, r_l1, lget_z, lget_s, lput_z, lput_s, one_unset, one_int, one_ref, two_unset, two_long, cond_true, cond_false, true_and, and_true, not_true_eq_false, not_false_eq_true, true_implies, false_implies, implies_true, ne_eq, Classical.not_not, Int.cast_ofNat_Int, ite_true, seval, and_self, n_aload, n_astore, n_bastore, n_bipush, n_goto, n_i2b, n_iadd, n_iand, n_iconst, n_ifCond, n_if_icmp, n_iload, n_iload_n, n_invokestatic, n_ireturn, n_istore, n_iushr, n_l2i, n_lload, n_lload_n, n_lushr, n_newarray, b_12, b_8, b_16, b_24, b_32, b_40, b_6, b_48, b_7, b_56, b_9, b_10, b_11, b_14, b_21, b_28, ci0, cj0, at_0, at_1, at_2, at_3, at_5, at_7, at_9, at_11, at_13, at_14, at_15, at_16, at_17, at_18, at_20, at_21, at_22, at_24, at_25, at_26, at_27, at_28, at_30, at_31, at_32, at_34, at_35, at_36, at_37, at_38, at_40, at_41, at_42, at_44, at_45, at_46, at_47, at_48, at_50, at_51, at_52, at_54, at_55, at_56, at_57, at_58, at_60, at_61, at_62, at_64, at_65, at_66, at_67, at_68, at_70, at_72, at_73, at_75, at_76, at_77, at_78, at_79, at_81, at_83, at_84, at_86, at_87, at_88, at_89, at_90, at_92, at_94, at_96, at_97, at_98, at_99, at_101, at_103, at_105, at_107, at_108, at_109, at_110, at_111, at_113, at_115, at_117, at_119, at_120, at_121, at_122, at_123, at_125, at_127, at_129, at_131, at_132, at_133, at_134, at_135, at_136, at_138, at_139, at_142, at_143, at_145, at_148, at_149, at_151, at_152, at_155, at_156, at_158, at_161, at_162, at_164, at_165, at_168, at_169, at_171, at_174, at_175, at_177, at_178, at_181, at_182, at_184, at_187, at_188, at_190, at_192, at_194, at_195, at_196, at_198, at_201, at_202, at_204, at_205, at_208, at_210, at_212, at_213, at_214, at_215, at_216, at_218, at_221, at_222, at_224, at_225, at_228, at_230, at_232, at_233, at_234, at_235, at_236, at_238, at_241, at_242, at_244, at_245, at_248, at_250, at_252, at_253, at_254, at_255, at_256, at_258, at_261, at_262, at_264, at_265, at_268, at_270, at_272, at_273, at_274, at_275, at_276, at_278, at_281, at_282, at_284, at_286, at_289, at_290, at_293, at_294, at_297, at_298, h]
set_option maxRecDepth 65536 in
set_option maxHeartbeats 4000000 in
theorem wk_3 (v oz : Int32) (j1 j2 : Int64) (off n : Int32) (a : Addr) (h : 3 < n) : wpo code ci0 cj0 [] 90 242 [.val (.int v), .val (.int oz), .val (.long j1), .second, .val (.long j2), .second, .val (.int off), .val (.ref a), .val (.int n)] [] (fun b M u => b = 258 ∧ M = [.val (.int v), .val (.int oz), .val (.long j1), .second, .val (.long j2), .second, .val (.int off), .val (.ref a), .val (.int n)] ∧ u = [.int n, .int 3, .int v, .int (off + 3), .ref a]) := by
  simp only [r_wp0, r_wpS, r_nxt, r_stop0, r_stopS, r_go, r_goIf, r_fork, r_tgt, r_okO, r_gI, r_gJ, r_gA, r_pI, r_pJ, r_pA, r_p1r, r_p1i, r_pII, r_pJJ, r_pJI, r_fnd0, r_fndS, r_gC, r_gC0, r_gB, r_st1, r_st2, r_eq, r_ne, r_lt, r_ge, r_gt, r_le, r_eqL, r_neL, r_ltL, r_geL, r_gtL, r_leL, r_f0, r_f1, r_f2, r_f3, r_im1, r_i0, r_i1, r_i2, r_i3, r_i4, r_i5, r_i7, r_l0, r_l1, lget_z, lget_s, lput_z, lput_s, one_unset, one_int, one_ref, two_unset, two_long, cond_true, cond_false, true_and, and_true, not_true_eq_false, not_false_eq_true, true_implies, false_implies, implies_true, ne_eq, Classical.not_not, Int.cast_ofNat_Int, ite_true, seval, and_self, n_aload, n_astore, n_bastore, n_bipush, n_goto, n_i2b, n_iadd, n_iand, n_iconst, n_ifCond, n_if_icmp, n_iload, n_iload_n, n_invokestatic, n_ireturn, n_istore, n_iushr, n_l2i, n_lload, n_lload_n, n_lushr, n_newarray, b_12, b_8, b_16, b_24, b_32, b_40, b_6, b_48, b_7, b_56, b_9, b_10, b_11, b_14, b_21, b_28, ci0, cj0, at_0, at_1, at_2, at_3, at_5, at_7, at_9, at_11, at_13, at_14, at_15, at_16, at_17, at_18, at_20, at_21, at_22, at_24, at_25, at_26, at_27, at_28, at_30, at_31, at_32, at_34, at_35, at_36, at_37, at_38, at_40, at_41, at_42, at_44, at_45, at_46, at_47, at_48, at_50, at_51, at_52, at_54, at_55, at_56, at_57, at_58, at_60, at_61, at_62, at_64, at_65, at_66, at_67, at_68, at_70, at_72, at_73, at_75, at_76, at_77, at_78, at_79, at_81, at_83, at_84, at_86, at_87, at_88, at_89, at_90, at_92, at_94, at_96, at_97, at_98, at_99, at_101, at_103, at_105, at_107, at_108, at_109, at_110, at_111, at_113, at_115, at_117, at_119, at_120, at_121, at_122, at_123, at_125, at_127, at_129, at_131, at_132, at_133, at_134, at_135, at_136, at_138, at_139, at_142, at_143, at_145, at_148, at_149, at_151, at_152, at_155, at_156, at_158, at_161, at_162, at_164, at_165, at_168, at_169, at_171, at_174, at_175, at_177, at_178, at_181, at_182, at_184, at_187, at_188, at_190, at_192, at_194, at_195, at_196, at_198, at_201, at_202, at_204, at_205, at_208, at_210, at_212, at_213, at_214, at_215, at_216, at_218, at_221, at_222, at_224, at_225, at_228, at_230, at_232, at_233, at_234, at_235, at_236, at_238, at_241, at_242, at_244, at_245, at_248, at_250, at_252, at_253, at_254, at_255, at_256, at_258, at_261, at_262, at_264, at_265, at_268, at_270, at_272, at_273, at_274, at_275, at_276, at_278, at_281, at_282, at_284, at_286, at_289, at_290, at_293, at_294, at_297, at_298, h]
set_option maxRecDepth 65536 in
set_option maxHeartbeats 4000000 in
theorem wk_4 (v oz : Int32) (j1 j2 : Int64) (off n : Int32) (a : Addr) (h : 4 < n) : wpo code ci0 cj0 [] 90 262 [.val (.int v), .val (.int oz), .val (.long j1), .second, .val (.long j2), .second, .val (.int off), .val (.ref a), .val (.int n)] [] (fun b M u => b = 278 ∧ M = [.val (.int v), .val (.int oz), .val (.long j1), .second, .val (.long j2), .second, .val (.int off), .val (.ref a), .val (.int n)] ∧ u = [.int n, .int 4, .int v, .int (off + 4), .ref a]) := by
  simp only [r_wp0, r_wpS, r_nxt, r_stop0, r_stopS, r_go, r_goIf, r_fork, r_tgt, r_okO, r_gI, r_gJ, r_gA, r_pI, r_pJ, r_pA, r_p1r, r_p1i, r_pII, r_pJJ, r_pJI, r_fnd0, r_fndS, r_gC, r_gC0, r_gB, r_st1, r_st2, r_eq, r_ne, r_lt, r_ge, r_gt, r_le, r_eqL, r_neL, r_ltL, r_geL, r_gtL, r_leL, r_f0, r_f1, r_f2, r_f3, r_im1, r_i0, r_i1, r_i2, r_i3, r_i4, r_i5, r_i7, r_l0, r_l1, lget_z, lget_s, lput_z, lput_s, one_unset, one_int, one_ref, two_unset, two_long, cond_true, cond_false, true_and, and_true, not_true_eq_false, not_false_eq_true, true_implies, false_implies, implies_true, ne_eq, Classical.not_not, Int.cast_ofNat_Int, ite_true, seval, and_self, n_aload, n_astore, n_bastore, n_bipush, n_goto, n_i2b, n_iadd, n_iand, n_iconst, n_ifCond, n_if_icmp, n_iload, n_iload_n, n_invokestatic, n_ireturn, n_istore, n_iushr, n_l2i, n_lload, n_lload_n, n_lushr, n_newarray, b_12, b_8, b_16, b_24, b_32, b_40, b_6, b_48, b_7, b_56, b_9, b_10, b_11, b_14, b_21, b_28, ci0, cj0, at_0, at_1, at_2, at_3, at_5, at_7, at_9, at_11, at_13, at_14, at_15, at_16, at_17, at_18, at_20, at_21, at_22, at_24, at_25, at_26, at_27, at_28, at_30, at_31, at_32, at_34, at_35, at_36, at_37, at_38, at_40, at_41, at_42, at_44, at_45, at_46, at_47, at_48, at_50, at_51, at_52, at_54, at_55, at_56, at_57, at_58, at_60, at_61, at_62, at_64, at_65, at_66, at_67, at_68, at_70, at_72, at_73, at_75, at_76, at_77, at_78, at_79, at_81, at_83, at_84, at_86, at_87, at_88, at_89, at_90, at_92, at_94, at_96, at_97, at_98, at_99, at_101, at_103, at_105, at_107, at_108, at_109, at_110, at_111, at_113, at_115, at_117, at_119, at_120, at_121, at_122, at_123, at_125, at_127, at_129, at_131, at_132, at_133, at_134, at_135, at_136, at_138, at_139, at_142, at_143, at_145, at_148, at_149, at_151, at_152, at_155, at_156, at_158, at_161, at_162, at_164, at_165, at_168, at_169, at_171, at_174, at_175, at_177, at_178, at_181, at_182, at_184, at_187, at_188, at_190, at_192, at_194, at_195, at_196, at_198, at_201, at_202, at_204, at_205, at_208, at_210, at_212, at_213, at_214, at_215, at_216, at_218, at_221, at_222, at_224, at_225, at_228, at_230, at_232, at_233, at_234, at_235, at_236, at_238, at_241, at_242, at_244, at_245, at_248, at_250, at_252, at_253, at_254, at_255, at_256, at_258, at_261, at_262, at_264, at_265, at_268, at_270, at_272, at_273, at_274, at_275, at_276, at_278, at_281, at_282, at_284, at_286, at_289, at_290, at_293, at_294, at_297, at_298, h]
set_option maxRecDepth 65536 in
set_option maxHeartbeats 4000000 in
theorem wz_1 (v oz : Int32) (j1 j2 : Int64) (off n : Int32) (a : Addr) (h : ¬ 1 < n) : wpo code ci0 cj0 [222] 90 202 [.val (.int v), .val (.int oz), .val (.long j1), .second, .val (.long j2), .second, .val (.int off), .val (.ref a), .val (.int n)] [] (fun b M u => b = 222 ∧ M = [.val (.int v), .val (.int oz), .val (.long j1), .second, .val (.long j2), .second, .val (.int off), .val (.ref a), .val (.int n)] ∧ u = []) := by
  simp only [r_wp0, r_wpS, r_nxt, r_stop0, r_stopS, r_go, r_goIf, r_fork, r_tgt, r_okO, r_gI, r_gJ, r_gA, r_pI, r_pJ, r_pA, r_p1r, r_p1i, r_pII, r_pJJ, r_pJI, r_fnd0, r_fndS, r_gC, r_gC0, r_gB, r_st1, r_st2, r_eq, r_ne, r_lt, r_ge, r_gt, r_le, r_eqL, r_neL, r_ltL, r_geL, r_gtL, r_leL, r_f0, r_f1, r_f2, r_f3, r_im1, r_i0, r_i1, r_i2, r_i3, r_i4, r_i5, r_i7, r_l0, r_l1, lget_z, lget_s, lput_z, lput_s, one_unset, one_int, one_ref, two_unset, two_long, cond_true, cond_false, true_and, and_true, not_true_eq_false, not_false_eq_true, true_implies, false_implies, implies_true, ne_eq, Classical.not_not, Int.cast_ofNat_Int, ite_true, seval, and_self, n_aload, n_astore, n_bastore, n_bipush, n_goto, n_i2b, n_iadd, n_iand, n_iconst, n_ifCond, n_if_icmp, n_iload, n_iload_n, n_invokestatic, n_ireturn, n_istore, n_iushr, n_l2i, n_lload, n_lload_n, n_lushr, n_newarray, b_12, b_8, b_16, b_24, b_32, b_40, b_6, b_48, b_7, b_56, b_9, b_10, b_11, b_14, b_21, b_28, ci0, cj0, at_0, at_1, at_2, at_3, at_5, at_7, at_9, at_11, at_13, at_14, at_15, at_16, at_17, at_18, at_20, at_21, at_22, at_24, at_25, at_26, at_27, at_28, at_30, at_31, at_32, at_34, at_35, at_36, at_37, at_38, at_40, at_41, at_42, at_44, at_45, at_46, at_47, at_48, at_50, at_51, at_52, at_54, at_55, at_56, at_57, at_58, at_60, at_61, at_62, at_64, at_65, at_66, at_67, at_68, at_70, at_72, at_73, at_75, at_76, at_77, at_78, at_79, at_81, at_83, at_84, at_86, at_87, at_88, at_89, at_90, at_92, at_94, at_96, at_97, at_98, at_99, at_101, at_103, at_105, at_107, at_108, at_109, at_110, at_111, at_113, at_115, at_117, at_119, at_120, at_121, at_122, at_123, at_125, at_127, at_129, at_131, at_132, at_133, at_134, at_135, at_136, at_138, at_139, at_142, at_143, at_145, at_148, at_149, at_151, at_152, at_155, at_156, at_158, at_161, at_162, at_164, at_165, at_168, at_169, at_171, at_174, at_175, at_177, at_178, at_181, at_182, at_184, at_187, at_188, at_190, at_192, at_194, at_195, at_196, at_198, at_201, at_202, at_204, at_205, at_208, at_210, at_212, at_213, at_214, at_215, at_216, at_218, at_221, at_222, at_224, at_225, at_228, at_230, at_232, at_233, at_234, at_235, at_236, at_238, at_241, at_242, at_244, at_245, at_248, at_250, at_252, at_253, at_254, at_255, at_256, at_258, at_261, at_262, at_264, at_265, at_268, at_270, at_272, at_273, at_274, at_275, at_276, at_278, at_281, at_282, at_284, at_286, at_289, at_290, at_293, at_294, at_297, at_298, h]
set_option maxRecDepth 65536 in
set_option maxHeartbeats 4000000 in
theorem wz_2 (v oz : Int32) (j1 j2 : Int64) (off n : Int32) (a : Addr) (h : ¬ 2 < n) : wpo code ci0 cj0 [242] 90 222 [.val (.int v), .val (.int oz), .val (.long j1), .second, .val (.long j2), .second, .val (.int off), .val (.ref a), .val (.int n)] [] (fun b M u => b = 242 ∧ M = [.val (.int v), .val (.int oz), .val (.long j1), .second, .val (.long j2), .second, .val (.int off), .val (.ref a), .val (.int n)] ∧ u = []) := by
  simp only [r_wp0, r_wpS, r_nxt, r_stop0, r_stopS, r_go, r_goIf, r_fork, r_tgt, r_okO, r_gI, r_gJ, r_gA, r_pI, r_pJ, r_pA, r_p1r, r_p1i, r_pII, r_pJJ, r_pJI, r_fnd0, r_fndS, r_gC, r_gC0, r_gB, r_st1, r_st2, r_eq, r_ne, r_lt, r_ge, r_gt, r_le, r_eqL, r_neL, r_ltL, r_geL, r_gtL, r_leL, r_f0, r_f1, r_f2, r_f3, r_im1, r_i0, r_i1, r_i2, r_i3, r_i4, r_i5, r_i7, r_l0, r_l1, lget_z, lget_s, lput_z, lput_s, one_unset, one_int, one_ref, two_unset, two_long, cond_true, cond_false, true_and, and_true, not_true_eq_false, not_false_eq_true, true_implies, false_implies, implies_true, ne_eq, Classical.not_not, Int.cast_ofNat_Int, ite_true, seval, and_self, n_aload, n_astore, n_bastore, n_bipush, n_goto, n_i2b, n_iadd, n_iand, n_iconst, n_ifCond, n_if_icmp, n_iload, n_iload_n, n_invokestatic, n_ireturn, n_istore, n_iushr, n_l2i, n_lload, n_lload_n, n_lushr, n_newarray, b_12, b_8, b_16, b_24, b_32, b_40, b_6, b_48, b_7, b_56, b_9, b_10, b_11, b_14, b_21, b_28, ci0, cj0, at_0, at_1, at_2, at_3, at_5, at_7, at_9, at_11, at_13, at_14, at_15, at_16, at_17, at_18, at_20, at_21, at_22, at_24, at_25, at_26, at_27, at_28, at_30, at_31, at_32, at_34, at_35, at_36, at_37, at_38, at_40, at_41, at_42, at_44, at_45, at_46, at_47, at_48, at_50, at_51, at_52, at_54, at_55, at_56, at_57, at_58, at_60, at_61, at_62, at_64, at_65, at_66, at_67, at_68, at_70, at_72, at_73, at_75, at_76, at_77, at_78, at_79, at_81, at_83, at_84, at_86, at_87, at_88, at_89, at_90, at_92, at_94, at_96, at_97, at_98, at_99, at_101, at_103, at_105, at_107, at_108, at_109, at_110, at_111, at_113, at_115, at_117, at_119, at_120, at_121, at_122, at_123, at_125, at_127, at_129, at_131, at_132, at_133, at_134, at_135, at_136, at_138, at_139, at_142, at_143, at_145, at_148, at_149, at_151, at_152, at_155, at_156, at_158, at_161, at_162, at_164, at_165, at_168, at_169, at_171, at_174, at_175, at_177, at_178, at_181, at_182, at_184, at_187, at_188, at_190, at_192, at_194, at_195, at_196, at_198, at_201, at_202, at_204, at_205, at_208, at_210, at_212, at_213, at_214, at_215, at_216, at_218, at_221, at_222, at_224, at_225, at_228, at_230, at_232, at_233, at_234, at_235, at_236, at_238, at_241, at_242, at_244, at_245, at_248, at_250, at_252, at_253, at_254, at_255, at_256, at_258, at_261, at_262, at_264, at_265, at_268, at_270, at_272, at_273, at_274, at_275, at_276, at_278, at_281, at_282, at_284, at_286, at_289, at_290, at_293, at_294, at_297, at_298, h]
set_option maxRecDepth 65536 in
set_option maxHeartbeats 4000000 in
theorem wz_3 (v oz : Int32) (j1 j2 : Int64) (off n : Int32) (a : Addr) (h : ¬ 3 < n) : wpo code ci0 cj0 [262] 90 242 [.val (.int v), .val (.int oz), .val (.long j1), .second, .val (.long j2), .second, .val (.int off), .val (.ref a), .val (.int n)] [] (fun b M u => b = 262 ∧ M = [.val (.int v), .val (.int oz), .val (.long j1), .second, .val (.long j2), .second, .val (.int off), .val (.ref a), .val (.int n)] ∧ u = []) := by
  simp only [r_wp0, r_wpS, r_nxt, r_stop0, r_stopS, r_go, r_goIf, r_fork, r_tgt, r_okO, r_gI, r_gJ, r_gA, r_pI, r_pJ, r_pA, r_p1r, r_p1i, r_pII, r_pJJ, r_pJI, r_fnd0, r_fndS, r_gC, r_gC0, r_gB, r_st1, r_st2, r_eq, r_ne, r_lt, r_ge, r_gt, r_le, r_eqL, r_neL, r_ltL, r_geL, r_gtL, r_leL, r_f0, r_f1, r_f2, r_f3, r_im1, r_i0, r_i1, r_i2, r_i3, r_i4, r_i5, r_i7, r_l0, r_l1, lget_z, lget_s, lput_z, lput_s, one_unset, one_int, one_ref, two_unset, two_long, cond_true, cond_false, true_and, and_true, not_true_eq_false, not_false_eq_true, true_implies, false_implies, implies_true, ne_eq, Classical.not_not, Int.cast_ofNat_Int, ite_true, seval, and_self, n_aload, n_astore, n_bastore, n_bipush, n_goto, n_i2b, n_iadd, n_iand, n_iconst, n_ifCond, n_if_icmp, n_iload, n_iload_n, n_invokestatic, n_ireturn, n_istore, n_iushr, n_l2i, n_lload, n_lload_n, n_lushr, n_newarray, b_12, b_8, b_16, b_24, b_32, b_40, b_6, b_48, b_7, b_56, b_9, b_10, b_11, b_14, b_21, b_28, ci0, cj0, at_0, at_1, at_2, at_3, at_5, at_7, at_9, at_11, at_13, at_14, at_15, at_16, at_17, at_18, at_20, at_21, at_22, at_24, at_25, at_26, at_27, at_28, at_30, at_31, at_32, at_34, at_35, at_36, at_37, at_38, at_40, at_41, at_42, at_44, at_45, at_46, at_47, at_48, at_50, at_51, at_52, at_54, at_55, at_56, at_57, at_58, at_60, at_61, at_62, at_64, at_65, at_66, at_67, at_68, at_70, at_72, at_73, at_75, at_76, at_77, at_78, at_79, at_81, at_83, at_84, at_86, at_87, at_88, at_89, at_90, at_92, at_94, at_96, at_97, at_98, at_99, at_101, at_103, at_105, at_107, at_108, at_109, at_110, at_111, at_113, at_115, at_117, at_119, at_120, at_121, at_122, at_123, at_125, at_127, at_129, at_131, at_132, at_133, at_134, at_135, at_136, at_138, at_139, at_142, at_143, at_145, at_148, at_149, at_151, at_152, at_155, at_156, at_158, at_161, at_162, at_164, at_165, at_168, at_169, at_171, at_174, at_175, at_177, at_178, at_181, at_182, at_184, at_187, at_188, at_190, at_192, at_194, at_195, at_196, at_198, at_201, at_202, at_204, at_205, at_208, at_210, at_212, at_213, at_214, at_215, at_216, at_218, at_221, at_222, at_224, at_225, at_228, at_230, at_232, at_233, at_234, at_235, at_236, at_238, at_241, at_242, at_244, at_245, at_248, at_250, at_252, at_253, at_254, at_255, at_256, at_258, at_261, at_262, at_264, at_265, at_268, at_270, at_272, at_273, at_274, at_275, at_276, at_278, at_281, at_282, at_284, at_286, at_289, at_290, at_293, at_294, at_297, at_298, h]
set_option maxRecDepth 65536 in
set_option maxHeartbeats 4000000 in
theorem wz_4 (v oz : Int32) (j1 j2 : Int64) (off n : Int32) (a : Addr) (h : ¬ 4 < n) : wpo code ci0 cj0 [282] 90 262 [.val (.int v), .val (.int oz), .val (.long j1), .second, .val (.long j2), .second, .val (.int off), .val (.ref a), .val (.int n)] [] (fun b M u => b = 282 ∧ M = [.val (.int v), .val (.int oz), .val (.long j1), .second, .val (.long j2), .second, .val (.int off), .val (.ref a), .val (.int n)] ∧ u = []) := by
  simp only [r_wp0, r_wpS, r_nxt, r_stop0, r_stopS, r_go, r_goIf, r_fork, r_tgt, r_okO, r_gI, r_gJ, r_gA, r_pI, r_pJ, r_pA, r_p1r, r_p1i, r_pII, r_pJJ, r_pJI, r_fnd0, r_fndS, r_gC, r_gC0, r_gB, r_st1, r_st2, r_eq, r_ne, r_lt, r_ge, r_gt, r_le, r_eqL, r_neL, r_ltL, r_geL, r_gtL, r_leL, r_f0, r_f1, r_f2, r_f3, r_im1, r_i0, r_i1, r_i2, r_i3, r_i4, r_i5, r_i7, r_l0, r_l1, lget_z, lget_s, lput_z, lput_s, one_unset, one_int, one_ref, two_unset, two_long, cond_true, cond_false, true_and, and_true, not_true_eq_false, not_false_eq_true, true_implies, false_implies, implies_true, ne_eq, Classical.not_not, Int.cast_ofNat_Int, ite_true, seval, and_self, n_aload, n_astore, n_bastore, n_bipush, n_goto, n_i2b, n_iadd, n_iand, n_iconst, n_ifCond, n_if_icmp, n_iload, n_iload_n, n_invokestatic, n_ireturn, n_istore, n_iushr, n_l2i, n_lload, n_lload_n, n_lushr, n_newarray, b_12, b_8, b_16, b_24, b_32, b_40, b_6, b_48, b_7, b_56, b_9, b_10, b_11, b_14, b_21, b_28, ci0, cj0, at_0, at_1, at_2, at_3, at_5, at_7, at_9, at_11, at_13, at_14, at_15, at_16, at_17, at_18, at_20, at_21, at_22, at_24, at_25, at_26, at_27, at_28, at_30, at_31, at_32, at_34, at_35, at_36, at_37, at_38, at_40, at_41, at_42, at_44, at_45, at_46, at_47, at_48, at_50, at_51, at_52, at_54, at_55, at_56, at_57, at_58, at_60, at_61, at_62, at_64, at_65, at_66, at_67, at_68, at_70, at_72, at_73, at_75, at_76, at_77, at_78, at_79, at_81, at_83, at_84, at_86, at_87, at_88, at_89, at_90, at_92, at_94, at_96, at_97, at_98, at_99, at_101, at_103, at_105, at_107, at_108, at_109, at_110, at_111, at_113, at_115, at_117, at_119, at_120, at_121, at_122, at_123, at_125, at_127, at_129, at_131, at_132, at_133, at_134, at_135, at_136, at_138, at_139, at_142, at_143, at_145, at_148, at_149, at_151, at_152, at_155, at_156, at_158, at_161, at_162, at_164, at_165, at_168, at_169, at_171, at_174, at_175, at_177, at_178, at_181, at_182, at_184, at_187, at_188, at_190, at_192, at_194, at_195, at_196, at_198, at_201, at_202, at_204, at_205, at_208, at_210, at_212, at_213, at_214, at_215, at_216, at_218, at_221, at_222, at_224, at_225, at_228, at_230, at_232, at_233, at_234, at_235, at_236, at_238, at_241, at_242, at_244, at_245, at_248, at_250, at_252, at_253, at_254, at_255, at_256, at_258, at_261, at_262, at_264, at_265, at_268, at_270, at_272, at_273, at_274, at_275, at_276, at_278, at_281, at_282, at_284, at_286, at_289, at_290, at_293, at_294, at_297, at_298, h]
set_option maxRecDepth 65536 in
set_option maxHeartbeats 4000000 in
theorem wf_0 (v oz : Int32) (j1 j2 : Int64) (off n : Int32) (a : Addr) : wpo code ci0 cj0 [] 90 282 [.val (.int v), .val (.int oz), .val (.long j1), .second, .val (.long j2), .second, .val (.int off), .val (.ref a), .val (.int n)] [] (fun b M u => b = 286 ∧ M = [.val (.int v), .val (.int oz), .val (.long j1), .second, .val (.long j2), .second, .val (.int off), .val (.ref a), .val (.int n)] ∧ u = [.int off, .ref a]) := by
  simp only [r_wp0, r_wpS, r_nxt, r_stop0, r_stopS, r_go, r_goIf, r_fork, r_tgt, r_okO, r_gI, r_gJ, r_gA, r_pI, r_pJ, r_pA, r_p1r, r_p1i, r_pII, r_pJJ, r_pJI, r_fnd0, r_fndS, r_gC, r_gC0, r_gB, r_st1, r_st2, r_eq, r_ne, r_lt, r_ge, r_gt, r_le, r_eqL, r_neL, r_ltL, r_geL, r_gtL, r_leL, r_f0, r_f1, r_f2, r_f3, r_im1, r_i0, r_i1, r_i2, r_i3, r_i4, r_i5, r_i7, r_l0, r_l1, lget_z, lget_s, lput_z, lput_s, one_unset, one_int, one_ref, two_unset, two_long, cond_true, cond_false, true_and, and_true, not_true_eq_false, not_false_eq_true, true_implies, false_implies, implies_true, ne_eq, Classical.not_not, Int.cast_ofNat_Int, ite_true, seval, and_self, n_aload, n_astore, n_bastore, n_bipush, n_goto, n_i2b, n_iadd, n_iand, n_iconst, n_ifCond, n_if_icmp, n_iload, n_iload_n, n_invokestatic, n_ireturn, n_istore, n_iushr, n_l2i, n_lload, n_lload_n, n_lushr, n_newarray, b_12, b_8, b_16, b_24, b_32, b_40, b_6, b_48, b_7, b_56, b_9, b_10, b_11, b_14, b_21, b_28, ci0, cj0, at_0, at_1, at_2, at_3, at_5, at_7, at_9, at_11, at_13, at_14, at_15, at_16, at_17, at_18, at_20, at_21, at_22, at_24, at_25, at_26, at_27, at_28, at_30, at_31, at_32, at_34, at_35, at_36, at_37, at_38, at_40, at_41, at_42, at_44, at_45, at_46, at_47, at_48, at_50, at_51, at_52, at_54, at_55, at_56, at_57, at_58, at_60, at_61, at_62, at_64, at_65, at_66, at_67, at_68, at_70, at_72, at_73, at_75, at_76, at_77, at_78, at_79, at_81, at_83, at_84, at_86, at_87, at_88, at_89, at_90, at_92, at_94, at_96, at_97, at_98, at_99, at_101, at_103, at_105, at_107, at_108, at_109, at_110, at_111, at_113, at_115, at_117, at_119, at_120, at_121, at_122, at_123, at_125, at_127, at_129, at_131, at_132, at_133, at_134, at_135, at_136, at_138, at_139, at_142, at_143, at_145, at_148, at_149, at_151, at_152, at_155, at_156, at_158, at_161, at_162, at_164, at_165, at_168, at_169, at_171, at_174, at_175, at_177, at_178, at_181, at_182, at_184, at_187, at_188, at_190, at_192, at_194, at_195, at_196, at_198, at_201, at_202, at_204, at_205, at_208, at_210, at_212, at_213, at_214, at_215, at_216, at_218, at_221, at_222, at_224, at_225, at_228, at_230, at_232, at_233, at_234, at_235, at_236, at_238, at_241, at_242, at_244, at_245, at_248, at_250, at_252, at_253, at_254, at_255, at_256, at_258, at_261, at_262, at_264, at_265, at_268, at_270, at_272, at_273, at_274, at_275, at_276, at_278, at_281, at_282, at_284, at_286, at_289, at_290, at_293, at_294, at_297, at_298]
set_option maxRecDepth 65536 in
set_option maxHeartbeats 4000000 in
theorem wf_1 (v oz : Int32) (j1 j2 : Int64) (off n : Int32) (a : Addr) : wpo code ci0 cj0 [] 90 289 [.val (.int v), .val (.int oz), .val (.long j1), .second, .val (.long j2), .second, .val (.int off), .val (.ref a), .val (.int n)] [.int v] (fun b M u => decode code b = .ok (.ireturn, 1) ∧ u = [.int 1]) := by
  simp only [r_wp0, r_wpS, r_nxt, r_stop0, r_stopS, r_go, r_goIf, r_fork, r_tgt, r_okO, r_gI, r_gJ, r_gA, r_pI, r_pJ, r_pA, r_p1r, r_p1i, r_pII, r_pJJ, r_pJI, r_fnd0, r_fndS, r_gC, r_gC0, r_gB, r_st1, r_st2, r_eq, r_ne, r_lt, r_ge, r_gt, r_le, r_eqL, r_neL, r_ltL, r_geL, r_gtL, r_leL, r_f0, r_f1, r_f2, r_f3, r_im1, r_i0, r_i1, r_i2, r_i3, r_i4, r_i5, r_i7, r_l0, r_l1, lget_z, lget_s, lput_z, lput_s, one_unset, one_int, one_ref, two_unset, two_long, cond_true, cond_false, true_and, and_true, not_true_eq_false, not_false_eq_true, true_implies, false_implies, implies_true, ne_eq, Classical.not_not, Int.cast_ofNat_Int, ite_true, seval, and_self, n_aload, n_astore, n_bastore, n_bipush, n_goto, n_i2b, n_iadd, n_iand, n_iconst, n_ifCond, n_if_icmp, n_iload, n_iload_n, n_invokestatic, n_ireturn, n_istore, n_iushr, n_l2i, n_lload, n_lload_n, n_lushr, n_newarray, b_12, b_8, b_16, b_24, b_32, b_40, b_6, b_48, b_7, b_56, b_9, b_10, b_11, b_14, b_21, b_28, ci0, cj0, at_0, at_1, at_2, at_3, at_5, at_7, at_9, at_11, at_13, at_14, at_15, at_16, at_17, at_18, at_20, at_21, at_22, at_24, at_25, at_26, at_27, at_28, at_30, at_31, at_32, at_34, at_35, at_36, at_37, at_38, at_40, at_41, at_42, at_44, at_45, at_46, at_47, at_48, at_50, at_51, at_52, at_54, at_55, at_56, at_57, at_58, at_60, at_61, at_62, at_64, at_65, at_66, at_67, at_68, at_70, at_72, at_73, at_75, at_76, at_77, at_78, at_79, at_81, at_83, at_84, at_86, at_87, at_88, at_89, at_90, at_92, at_94, at_96, at_97, at_98, at_99, at_101, at_103, at_105, at_107, at_108, at_109, at_110, at_111, at_113, at_115, at_117, at_119, at_120, at_121, at_122, at_123, at_125, at_127, at_129, at_131, at_132, at_133, at_134, at_135, at_136, at_138, at_139, at_142, at_143, at_145, at_148, at_149, at_151, at_152, at_155, at_156, at_158, at_161, at_162, at_164, at_165, at_168, at_169, at_171, at_174, at_175, at_177, at_178, at_181, at_182, at_184, at_187, at_188, at_190, at_192, at_194, at_195, at_196, at_198, at_201, at_202, at_204, at_205, at_208, at_210, at_212, at_213, at_214, at_215, at_216, at_218, at_221, at_222, at_224, at_225, at_228, at_230, at_232, at_233, at_234, at_235, at_236, at_238, at_241, at_242, at_244, at_245, at_248, at_250, at_252, at_253, at_254, at_255, at_256, at_258, at_261, at_262, at_264, at_265, at_268, at_270, at_272, at_273, at_274, at_275, at_276, at_278, at_281, at_282, at_284, at_286, at_289, at_290, at_293, at_294, at_297, at_298, List.cons.injEq, Slot.val.injEq, Value.int.injEq, Value.long.injEq]
/-! the contract oz readVarint -/
set_option maxRecDepth 65536 in
set_option maxHeartbeats 40000000 in
theorem own_loop {p : Program} {l : Launch} {e : Env} {s : State} {m : MethodId} {args : Array Value} {below : List Frame} {meth : Method} {c : Code} {T : State} {locs : List Loc} {Z : State} {fs : List Frame} (X : Stand p l e room0 s m args below meth c T locs 0 0) (hx : p.tables.exec = Jvm.exec) (hZ : Z.Warmed39 s.vm) (hby : c.code = prog_41_method_17_code) (hown : s.vm.findClass "com/example/riffle/riffle/RowFormat" = some m.cls) (hI : ∀ q ∈ ci2, (Jvm.Cond.constant "com/example/riffle/riffle/RowFormat" q.1 q.2).before args s = true) (hJ : ∀ q ∈ cj2, (Jvm.Cond.constantLong "com/example/riffle/riffle/RowFormat" q.1 q.2).before args s = true) (hret : meth.sig.returnType = some .int) (a : Addr) (G : Nat → Int32) (A : AI Z T.heap a .byte 12 G) (o b0 : Int32) :
    ∀ (bs : List Int32) (i : Nat) (r q sh : Int32) (v6 : Slot), Seq G i bs → i + bs.length ≤ 12 → q.toInt = i → one (some v6) = true → (∀ (f : JFrame) (acts : List Action), f.method = m → f.locked = none → f.entered = [] → (doReturn e (T.setTop f) acts (some (.int (own_rd bs sh r)))).1 = T.setFrames fs) →
      Steps p.tables e below (T.setTop (mkF m 18 #[.val (.ref a), .val (.int o), .val (.int b0), .val (.int r), .val (.int q), .val (.int sh), v6] [])) (T.setFrames fs)
  | [], _, _, _, _, _, hs, _, _, _, _ => hs.elim
  | [z], i, r, q, sh, v6, hs, hi, hq, h6, hr => by
    obtain ⟨h1, h2⟩ := hs
    refine sego X hx hby hown hI hJ (wr_3 a o b0 r q sh v6) _ ?_
    refine getB X hx hZ A (idx32 hq).1 (idx32 hq).2 (by simp at hi; omega) (hb hby d2_24) _ ?_
    rw [h1]
    exact endI X hx hby hown hI hJ (wr_4 a o b0 r q sh v6 z h6 h2) hret hr
  | z :: y :: t, i, r, q, sh, v6, hs, hi, hq, h6, hr => by
    obtain ⟨h1, h2, h3⟩ := hs
    have hi' : i + 1 + (y :: t).length ≤ 12 := by simp at hi ⊢; omega
    have hi2 : i < 12 := by simp at hi; omega
    refine sego X hx hby hown hI hJ (wr_3 a o b0 r q sh v6) _ ?_
    refine getB X hx hZ A (idx32 hq).1 (idx32 hq).2 hi2 (hb hby d2_24) _ ?_
    rw [h1]
    refine sego X hx hby hown hI hJ (wr_5 a o b0 r q sh v6 z h6 h2) _ ?_
    have t1 : (1 : Int32).toInt = 1 := by decide
    exact own_loop X hx hZ hby hown hI hJ hret a G A o b0 (y :: t) (i + 1) _ (q + 1) (sh + 7) (.val (.int z)) h3 hi' (by rw [Jvm.Kit.i32_add (by rw [t1]; omega) (by rw [t1]; omega), hq, t1]; omega) rfl hr
set_option maxRecDepth 65536 in
set_option maxHeartbeats 40000000 in
theorem rm2 (l : Launch) (Z : State) (a0 : Array Value) (hw : ∀ d ∈ tables_1, d.before a0 Z = true) (ws : List Jvm.Cond) (a : Addr) (o : Int32) (h0 : Heap) (G : Nat → Int32) (A : AI Z h0 a .byte 12 G) (i : Nat) (ho : o.toInt = i) (hi : i < 12) (V : Int32) (hV : (¬ G i < 0 ∧ V = G i) ∨ (G i < 0 ∧ ∃ bs : List Int32, Seq G i bs ∧ i + bs.length ≤ 12 ∧ V = own_rd bs 0 0)) :
    Pays l Z (⟨"com/example/riffle/riffle/RowFormat", "readVarint", "([BI)I"⟩ : MethodName) prog_41_method_17_code 7 (some .int) ws #[(.ref a), (.int o)] h0 (.int V) := by
  refine MetFree.of_bodySF (plainFor_of_name pn_2) hisR ?_
  intro p e s m args below meth c s₁ Bd hml0 hP hK
  obtain ⟨rfl, hZ, hh⟩ := hP
  have hx := Bd.exec
  have hby := Bd.bytes
  have hown : s.vm.findClass "com/example/riffle/riffle/RowFormat" = some m.cls := findClass_of_methodNamed Bd.named
  have X0 : Stand p l e room0 s m #[(.ref a), (.int o)] below meth c s₁ [] 0 0 := Stand.of_body Bd
  have e0 : s₁.heap = h0 := by rw [← hh, Bd.state]; rfl
  have A' : AI Z s₁.heap a .byte 12 G := by rw [e0]; exact A
  have hI := cI (args := #[(.ref a), (.int o)]) (s := s) (own := "com/example/riffle/riffle/RowFormat") (ci := ci2) hZ hw (by decide +kernel)
  have hJ := cJ (args := #[(.ref a), (.int o)]) (s := s) (own := "com/example/riffle/riffle/RowFormat") (cj := cj2) hZ hw (by decide +kernel)
  obtain ⟨fs, hr, hrun, hended, hW, hsame⟩ := X0.leave (v := some (.int V)) (fun h => by rw [Bd.returns] at h; cases h)
  refine ⟨_, _, castTop (ef_2 m a o) ?_, hrun, hended, _, _, rfl, ⟨rfl, rfl, e0⟩, ⟨_, rfl⟩, hW, hsame.mono (by decide) (by decide)⟩
  refine sego X0 hx hby hown hI hJ (wr_0 a o) _ ?_
  refine getB X0 hx hZ A' (idx32 ho).1 (idx32 ho).2 hi (hb hby d2_2) _ ?_
  rcases hV with ⟨h1, h2⟩ | ⟨h1, bs, h2, h3, h4⟩
  · rw [h2] at hr
    exact endI X0 hx hby hown hI hJ (wr_1 a o (G i) h1) Bd.returns hr
  · rw [h4] at hr
    refine sego X0 hx hby hown hI hJ (wr_2 a o (G i) h1) _ ?_
    exact own_loop X0 hx hZ hby hown hI hJ Bd.returns a G A' o (G i) bs i 0 o 0 .unset h2 h3 ho rfl hr
set_option maxRecDepth 65536 in
set_option maxHeartbeats 40000000 in
theorem rm0 (l : Launch) (Z : State) (a0 : Array Value) (hw : ∀ d ∈ tables_1, d.before a0 Z = true) (ws : List Jvm.Cond) (v oz : Int32) (j1 j2 : Int64) (h0 : Heap) (n0 : Nat) (Z0 : n0 ≤ h0.size) :
    MetFree l x (head1 (Jvm.Cond.code x code maxLocals ret :: ws) room_1) (fun a U => a = #[(.int v), (.int oz), (.long j1), (.long j2)] ∧ Z.Warmed39 U.vm ∧ U.heap = h0) (fun _ _ _ _ _ => True) (fun _ U o U' => ∃ v L, o = .returned v ∧ (v = some (.int (1 : Int32)) ∧ Fr n0 L) ∧ FrameEnd U o U' L room_1.cells room_1.slots) := by
  refine MetFree.of_bodySF (plainFor_of_name pn_0) hisR ?_
  intro p e s m args below meth c s₁ Bd hml0 hP hK
  obtain ⟨rfl, hZ, hh⟩ := hP
  have hx := Bd.exec
  have hby := Bd.bytes
  have hml : c.maxLocals = 9 := hml0
  have hown : s.vm.findClass "com/example/riffle/riffle/RowFormatReadVarintPinLaw" = some m.cls := findClass_of_methodNamed Bd.named
  have X0 : Stand p l e room_1 s m #[(.int v), (.int oz), (.long j1), (.long j2)] below meth c s₁ [] 0 0 := Stand.of_body Bd
  have e0 : s₁.heap = h0 := by rw [← hh, Bd.state]; rfl
  have Y0 : n0 ≤ s₁.heap.size := by rw [e0]; exact Z0
  have hI := cI (args := #[(.int v), (.int oz), (.long j1), (.long j2)]) (s := s) (own := "com/example/riffle/riffle/RowFormatReadVarintPinLaw") (ci := ci0) hZ hw (by decide +kernel)
  have hJ := cJ (args := #[(.int v), (.int oz), (.long j1), (.long j2)]) (s := s) (own := "com/example/riffle/riffle/RowFormatReadVarintPinLaw") (cj := cj0) hZ hw (by decide +kernel)
  have N0 := Fr.nil n0
  obtain ⟨F, bF, eF⟩ : ∃ F : Nat, F ≤ 3 ∧ (oz &&& 3).toInt = F := by
    have e : (oz &&& 3).toInt = oz.toInt % 2 ^ 2 := Jvm.Kit.i32_mask oz 3 (k := 2) (by decide) (by decide)
    exact ⟨(oz &&& 3).toInt.toNat, by omega, by omega⟩
  have eFi : ∀ (k : Int32) (K : Nat), k.toInt = K → K ≤ 4 → ((oz &&& 3) + k).toInt = (F + K : Nat) := fun k K h1 h2 => by
    rw [Jvm.Kit.i32_add (by omega) (by omega), eF, h1]; omega
  obtain ⟨TA, b, XA, gb, -, -, AA, -, tA⟩ := mkArr (rest := []) (Ls := #[.val (.int v), .val (.int oz), .val (.long j1), .second, .val (.long j2), .second, .val (.int (oz &&& 3)), .unset, .unset]) X0 hx hZ (hw _ (List.mem_of_getElem? (i := 0) rfl)) Y0 (hb hby at_7) (z := 12) (n := 12) (by decide) (by decide) (by decide) (by decide) (by decide)
  have A0 : AI Z TA.heap b .byte 12 (fun _ => 0) := AA
  obtain ⟨T1, l1, X1, N1, A1, -, t1⟩ := putB (rest := []) (Ls := #[.val (.int v), .val (.int oz), .val (.long j1), .second, .val (.long j2), .second, .val (.int (oz &&& 3)), .val (.ref b), .unset]) XA hx hZ A0 (j := 0) (i := 0) (by decide) (by decide) (by decide) N0 gb (j1.toInt32.toInt8.toInt32) (hb hby at_17)
  obtain ⟨T2, l2, X2, N2, A2, -, t2⟩ := putB (rest := []) (Ls := #[.val (.int v), .val (.int oz), .val (.long j1), .second, .val (.long j2), .second, .val (.int (oz &&& 3)), .val (.ref b), .unset]) X1 hx hZ A1 (j := 1) (i := 1) (by decide) (by decide) (by decide) N1 gb ((oushrL j1 8).toInt32.toInt8.toInt32) (hb hby at_27)
  obtain ⟨T3, l3, X3, N3, A3, -, t3⟩ := putB (rest := []) (Ls := #[.val (.int v), .val (.int oz), .val (.long j1), .second, .val (.long j2), .second, .val (.int (oz &&& 3)), .val (.ref b), .unset]) X2 hx hZ A2 (j := 2) (i := 2) (by decide) (by decide) (by decide) N2 gb ((oushrL j1 16).toInt32.toInt8.toInt32) (hb hby at_37)
  obtain ⟨T4, l4, X4, N4, A4, -, t4⟩ := putB (rest := []) (Ls := #[.val (.int v), .val (.int oz), .val (.long j1), .second, .val (.long j2), .second, .val (.int (oz &&& 3)), .val (.ref b), .unset]) X3 hx hZ A3 (j := 3) (i := 3) (by decide) (by decide) (by decide) N3 gb ((oushrL j1 24).toInt32.toInt8.toInt32) (hb hby at_47)
  obtain ⟨T5, l5, X5, N5, A5, -, t5⟩ := putB (rest := []) (Ls := #[.val (.int v), .val (.int oz), .val (.long j1), .second, .val (.long j2), .second, .val (.int (oz &&& 3)), .val (.ref b), .unset]) X4 hx hZ A4 (j := 4) (i := 4) (by decide) (by decide) (by decide) N4 gb ((oushrL j1 32).toInt32.toInt8.toInt32) (hb hby at_57)
  obtain ⟨T6, l6, X6, N6, A6, -, t6⟩ := putB (rest := []) (Ls := #[.val (.int v), .val (.int oz), .val (.long j1), .second, .val (.long j2), .second, .val (.int (oz &&& 3)), .val (.ref b), .unset]) X5 hx hZ A5 (j := 5) (i := 5) (by decide) (by decide) (by decide) N5 gb ((oushrL j1 40).toInt32.toInt8.toInt32) (hb hby at_67)
  obtain ⟨T7, l7, X7, N7, A7, -, t7⟩ := putB (rest := []) (Ls := #[.val (.int v), .val (.int oz), .val (.long j1), .second, .val (.long j2), .second, .val (.int (oz &&& 3)), .val (.ref b), .unset]) X6 hx hZ A6 (j := 6) (i := 6) (by decide) (by decide) (by decide) N6 gb ((oushrL j1 48).toInt32.toInt8.toInt32) (hb hby at_78)
  obtain ⟨T8, l8, X8, N8, A8, -, t8⟩ := putB (rest := []) (Ls := #[.val (.int v), .val (.int oz), .val (.long j1), .second, .val (.long j2), .second, .val (.int (oz &&& 3)), .val (.ref b), .unset]) X7 hx hZ A7 (j := 7) (i := 7) (by decide) (by decide) (by decide) N7 gb ((oushrL j1 56).toInt32.toInt8.toInt32) (hb hby at_89)
  obtain ⟨T9, l9, X9, N9, A9, -, t9⟩ := putB (rest := []) (Ls := #[.val (.int v), .val (.int oz), .val (.long j1), .second, .val (.long j2), .second, .val (.int (oz &&& 3)), .val (.ref b), .unset]) X8 hx hZ A8 (j := 8) (i := 8) (by decide) (by decide) (by decide) N8 gb (j2.toInt32.toInt8.toInt32) (hb hby at_98)
  obtain ⟨T10, l10, X10, N10, A10, -, t10⟩ := putB (rest := []) (Ls := #[.val (.int v), .val (.int oz), .val (.long j1), .second, .val (.long j2), .second, .val (.int (oz &&& 3)), .val (.ref b), .unset]) X9 hx hZ A9 (j := 9) (i := 9) (by decide) (by decide) (by decide) N9 gb ((oushrL j2 8).toInt32.toInt8.toInt32) (hb hby at_110)
  obtain ⟨T11, l11, X11, N11, A11, -, t11⟩ := putB (rest := []) (Ls := #[.val (.int v), .val (.int oz), .val (.long j1), .second, .val (.long j2), .second, .val (.int (oz &&& 3)), .val (.ref b), .unset]) X10 hx hZ A10 (j := 10) (i := 10) (by decide) (by decide) (by decide) N10 gb ((oushrL j2 16).toInt32.toInt8.toInt32) (hb hby at_122)
  obtain ⟨T12, l12, X12, N12, A12, -, t12⟩ := putB (rest := []) (Ls := #[.val (.int v), .val (.int oz), .val (.long j1), .second, .val (.long j2), .second, .val (.int (oz &&& 3)), .val (.ref b), .unset]) X11 hx hZ A11 (j := 11) (i := 11) (by decide) (by decide) (by decide) N11 gb ((oushrL j2 24).toInt32.toInt8.toInt32) (hb hby at_134)
  generalize hG : (oupd _ _ _ : Nat → Int32) = G at A12
  have pre : ∀ t, Steps p.tables e below (T12.setTop (mkF m 190 #[.val (.int v), .val (.int oz), .val (.long j1), .second, .val (.long j2), .second, .val (.int (oz &&& 3)), .val (.ref b), .val (.int (own_n v))] [])) t → Steps p.tables e below (s₁.setTop (mkF m 0 #[.val (.int v), .val (.int oz), .val (.long j1), .second, .val (.long j2), .second, .unset, .unset, .unset] [])) t := by
    intro t k
    refine sego X0 hx hby hown hI hJ (wl_0 v oz j1 j2 (oz &&& 3) 0 b) _ ?_
    refine tA _ ?_
    refine sego XA hx hby hown hI hJ (wl_1 v oz j1 j2 (oz &&& 3) 0 b) _ ?_
    refine sego XA hx hby hown hI hJ (wl_2 v oz j1 j2 (oz &&& 3) 0 b) _ ?_
    refine t1 _ ?_
    refine sego X1 hx hby hown hI hJ (wl_3 v oz j1 j2 (oz &&& 3) 0 b) _ ?_
    refine t2 _ ?_
    refine sego X2 hx hby hown hI hJ (wl_4 v oz j1 j2 (oz &&& 3) 0 b) _ ?_
    refine t3 _ ?_
    refine sego X3 hx hby hown hI hJ (wl_5 v oz j1 j2 (oz &&& 3) 0 b) _ ?_
    refine t4 _ ?_
    refine sego X4 hx hby hown hI hJ (wl_6 v oz j1 j2 (oz &&& 3) 0 b) _ ?_
    refine t5 _ ?_
    refine sego X5 hx hby hown hI hJ (wl_7 v oz j1 j2 (oz &&& 3) 0 b) _ ?_
    refine t6 _ ?_
    refine sego X6 hx hby hown hI hJ (wl_8 v oz j1 j2 (oz &&& 3) 0 b) _ ?_
    refine t7 _ ?_
    refine sego X7 hx hby hown hI hJ (wl_9 v oz j1 j2 (oz &&& 3) 0 b) _ ?_
    refine t8 _ ?_
    refine sego X8 hx hby hown hI hJ (wl_10 v oz j1 j2 (oz &&& 3) 0 b) _ ?_
    refine t9 _ ?_
    refine sego X9 hx hby hown hI hJ (wl_11 v oz j1 j2 (oz &&& 3) 0 b) _ ?_
    refine t10 _ ?_
    refine sego X10 hx hby hown hI hJ (wl_12 v oz j1 j2 (oz &&& 3) 0 b) _ ?_
    refine t11 _ ?_
    refine sego X11 hx hby hown hI hJ (wl_13 v oz j1 j2 (oz &&& 3) 0 b) _ ?_
    refine t12 _ ?_
    exact sego X12 hx hby hown hI hJ (wl_14 v oz j1 j2 (oz &&& 3) 0 b) _ k
  obtain ⟨N, hN1, hN5, hn, hv⟩ := own_nb v
  rw [hn] at pre
  have hN : N = 1 ∨ N = 2 ∨ N = 3 ∨ N = 4 ∨ N = 5 := by omega
  rcases hN with rfl | rfl | rfl | rfl | rfl
  · obtain ⟨law, s0⟩ := own_law1 v hv
    have pre : ∀ t, Steps p.tables e below (T12.setTop (mkF m 190 #[.val (.int v), .val (.int oz), .val (.long j1), .second, .val (.long j2), .second, .val (.int (oz &&& 3)), .val (.ref b), .val (.int 1)] [])) t → Steps p.tables e below (s₁.setTop (mkF m 0 #[.val (.int v), .val (.int oz), .val (.long j1), .second, .val (.long j2), .second, .unset, .unset, .unset] [])) t := pre
    obtain ⟨TC0, XC0, eC0, tC0⟩ := callPure X12 hx hZ hown (y := (⟨"com/example/riffle/riffle/RowFormatReadVarintPinLaw", "group", "(III)B"⟩ : MethodName)) (hw _ (List.mem_of_getElem? (i := 1) rfl)) (hw _ (List.mem_of_getElem? (i := 2) rfl)) (hw _ (List.mem_of_getElem? (i := 3) rfl)) (hw _ (List.mem_of_getElem? (i := 4) rfl)) (by decide) rfl (argsL := [.int v, .int 0, .int 1]) (rest := [.int (oz &&& 3), .ref b]) (pureN (t := .byte) (by simp) pn_1 hw (ci := ci1) (cj := cj1) (by decide +kernel) (by decide +kernel) (fun m => ef_1 m v 0 1) rfl (own_narg v 0 1) (wp_1 v 0 1)) (W := 2) (by decide) (by decide) (by decide) (by decide) (pc := 198) (Ls := #[.val (.int v), .val (.int oz), .val (.long j1), .second, .val (.long j2), .second, .val (.int (oz &&& 3)), .val (.ref b), .val (.int 1)]) (by rw [hml]; rfl) (lenOf pd_1 rfl) rfl (by show 1 + (1 + 0) ≤ 2; decide) (hb hby at_198)
    obtain ⟨TP0, lP0, XP0, NP0, AP0, -, tP0⟩ := putB (rest := []) (Ls := #[.val (.int v), .val (.int oz), .val (.long j1), .second, .val (.long j2), .second, .val (.int (oz &&& 3)), .val (.ref b), .val (.int 1)]) XC0 hx hZ (by rw [eC0]; exact A12) (idx32 eF).1 (idx32 eF).2 (by omega) N12 gb (own_g v 0 1) (hb hby at_201)
    rw [own_gby] at AP0
    have q0 : (oupd G F (own_g v 0 1)) F = own_g v 0 1 := by simp [oupd]
    obtain ⟨TR, XR, eR, tR⟩ := callPure XP0 hx hZ hown (y := (⟨"com/example/riffle/riffle/RowFormat", "readVarint", "([BI)I"⟩ : MethodName)) (hw _ (List.mem_of_getElem? (i := 5) rfl)) (hw _ (List.mem_of_getElem? (i := 6) rfl)) (hw _ (List.mem_of_getElem? (i := 7) rfl)) (hw _ (List.mem_of_getElem? (i := 8) rfl)) (by decide) rfl (argsL := [.ref b, .int (oz &&& 3)]) (rest := []) (rm2 l Z a0 hw [] b (oz &&& 3) TP0.heap _ AP0 F eF (by omega) v (Or.inl ⟨by rw [q0]; exact s0, by rw [q0]; exact law.symm⟩)) (W := 0) (by decide) (by decide) (by decide) (by decide) (pc := 286) (Ls := #[.val (.int v), .val (.int oz), .val (.long j1), .second, .val (.long j2), .second, .val (.int (oz &&& 3)), .val (.ref b), .val (.int 1)]) (by rw [hml]; rfl) (lenOf pd_2 rfl) rfl (by decide) (hb hby at_286)
    obtain ⟨fs, hr, hrun, hended, hW, hsame⟩ := XR.leave (v := some (.int (1 : Int32))) (fun h => by rw [Bd.returns] at h; cases h)
    refine ⟨_, _, castTop (ef_0 m v oz j1 j2) ?_, hrun, hended, _, _, rfl, ⟨rfl, NP0⟩, ⟨_, rfl⟩, hW, hsame.mono (by decide) (by decide)⟩
    refine pre _ ?_
    refine sego X12 hx hby hown hI hJ (wk_0 v oz j1 j2 (oz &&& 3) 1 b) _ ?_
    refine tC0 _ ?_
    refine tP0 _ ?_
    refine sego XP0 hx hby hown hI hJ (wz_1 v oz j1 j2 (oz &&& 3) 1 b (by decide)) _ ?_
    refine sego XP0 hx hby hown hI hJ (wz_2 v oz j1 j2 (oz &&& 3) 1 b (by decide)) _ ?_
    refine sego XP0 hx hby hown hI hJ (wz_3 v oz j1 j2 (oz &&& 3) 1 b (by decide)) _ ?_
    refine sego XP0 hx hby hown hI hJ (wz_4 v oz j1 j2 (oz &&& 3) 1 b (by decide)) _ ?_
    refine sego XP0 hx hby hown hI hJ (wf_0 v oz j1 j2 (oz &&& 3) 1 b) _ ?_
    refine tR _ ?_
    exact endN XR hx hby hown hI hJ (wf_1 v oz j1 j2 (oz &&& 3) 1 b) Bd.returns (by simp) hr
  · obtain ⟨law, s0, s1⟩ := own_law2 v hv
    have pre : ∀ t, Steps p.tables e below (T12.setTop (mkF m 190 #[.val (.int v), .val (.int oz), .val (.long j1), .second, .val (.long j2), .second, .val (.int (oz &&& 3)), .val (.ref b), .val (.int 2)] [])) t → Steps p.tables e below (s₁.setTop (mkF m 0 #[.val (.int v), .val (.int oz), .val (.long j1), .second, .val (.long j2), .second, .unset, .unset, .unset] [])) t := pre
    obtain ⟨TC0, XC0, eC0, tC0⟩ := callPure X12 hx hZ hown (y := (⟨"com/example/riffle/riffle/RowFormatReadVarintPinLaw", "group", "(III)B"⟩ : MethodName)) (hw _ (List.mem_of_getElem? (i := 1) rfl)) (hw _ (List.mem_of_getElem? (i := 2) rfl)) (hw _ (List.mem_of_getElem? (i := 3) rfl)) (hw _ (List.mem_of_getElem? (i := 4) rfl)) (by decide) rfl (argsL := [.int v, .int 0, .int 2]) (rest := [.int (oz &&& 3), .ref b]) (pureN (t := .byte) (by simp) pn_1 hw (ci := ci1) (cj := cj1) (by decide +kernel) (by decide +kernel) (fun m => ef_1 m v 0 2) rfl (own_narg v 0 2) (wp_1 v 0 2)) (W := 2) (by decide) (by decide) (by decide) (by decide) (pc := 198) (Ls := #[.val (.int v), .val (.int oz), .val (.long j1), .second, .val (.long j2), .second, .val (.int (oz &&& 3)), .val (.ref b), .val (.int 2)]) (by rw [hml]; rfl) (lenOf pd_1 rfl) rfl (by show 1 + (1 + 0) ≤ 2; decide) (hb hby at_198)
    obtain ⟨TP0, lP0, XP0, NP0, AP0, -, tP0⟩ := putB (rest := []) (Ls := #[.val (.int v), .val (.int oz), .val (.long j1), .second, .val (.long j2), .second, .val (.int (oz &&& 3)), .val (.ref b), .val (.int 2)]) XC0 hx hZ (by rw [eC0]; exact A12) (idx32 eF).1 (idx32 eF).2 (by omega) N12 gb (own_g v 0 2) (hb hby at_201)
    rw [own_gby] at AP0
    obtain ⟨TC1, XC1, eC1, tC1⟩ := callPure XP0 hx hZ hown (y := (⟨"com/example/riffle/riffle/RowFormatReadVarintPinLaw", "group", "(III)B"⟩ : MethodName)) (hw _ (List.mem_of_getElem? (i := 1) rfl)) (hw _ (List.mem_of_getElem? (i := 2) rfl)) (hw _ (List.mem_of_getElem? (i := 3) rfl)) (hw _ (List.mem_of_getElem? (i := 4) rfl)) (by decide) rfl (argsL := [.int v, .int 1, .int 2]) (rest := [.int ((oz &&& 3) + 1), .ref b]) (pureN (t := .byte) (by simp) pn_1 hw (ci := ci1) (cj := cj1) (by decide +kernel) (by decide +kernel) (fun m => ef_1 m v 1 2) rfl (own_narg v 1 2) (wp_1 v 1 2)) (W := 2) (by decide) (by decide) (by decide) (by decide) (pc := 218) (Ls := #[.val (.int v), .val (.int oz), .val (.long j1), .second, .val (.long j2), .second, .val (.int (oz &&& 3)), .val (.ref b), .val (.int 2)]) (by rw [hml]; rfl) (lenOf pd_1 rfl) rfl (by show 1 + (1 + 0) ≤ 2; decide) (hb hby at_218)
    obtain ⟨TP1, lP1, XP1, NP1, AP1, -, tP1⟩ := putB (rest := []) (Ls := #[.val (.int v), .val (.int oz), .val (.long j1), .second, .val (.long j2), .second, .val (.int (oz &&& 3)), .val (.ref b), .val (.int 2)]) XC1 hx hZ (by rw [eC1]; exact AP0) (idx32 (eFi 1 1 (by decide) (by decide))).1 (idx32 (eFi 1 1 (by decide) (by decide))).2 (by omega) NP0 gb (own_g v 1 2) (hb hby at_221)
    rw [own_gby] at AP1
    have q0 : (oupd (oupd G F (own_g v 0 2)) (F + 1) (own_g v 1 2)) F = own_g v 0 2 := by simp [oupd]
    have q1 : (oupd (oupd G F (own_g v 0 2)) (F + 1) (own_g v 1 2)) (F + 1) = own_g v 1 2 := by simp [oupd]
    obtain ⟨TR, XR, eR, tR⟩ := callPure XP1 hx hZ hown (y := (⟨"com/example/riffle/riffle/RowFormat", "readVarint", "([BI)I"⟩ : MethodName)) (hw _ (List.mem_of_getElem? (i := 5) rfl)) (hw _ (List.mem_of_getElem? (i := 6) rfl)) (hw _ (List.mem_of_getElem? (i := 7) rfl)) (hw _ (List.mem_of_getElem? (i := 8) rfl)) (by decide) rfl (argsL := [.ref b, .int (oz &&& 3)]) (rest := []) (rm2 l Z a0 hw [] b (oz &&& 3) TP1.heap _ AP1 F eF (by omega) v (Or.inr ⟨by rw [q0]; exact s0, [own_g v 0 2, own_g v 1 2], ⟨q0, s0, ⟨q1, s1⟩⟩, by show F + 2 ≤ 12; omega, law.symm⟩)) (W := 0) (by decide) (by decide) (by decide) (by decide) (pc := 286) (Ls := #[.val (.int v), .val (.int oz), .val (.long j1), .second, .val (.long j2), .second, .val (.int (oz &&& 3)), .val (.ref b), .val (.int 2)]) (by rw [hml]; rfl) (lenOf pd_2 rfl) rfl (by decide) (hb hby at_286)
    obtain ⟨fs, hr, hrun, hended, hW, hsame⟩ := XR.leave (v := some (.int (1 : Int32))) (fun h => by rw [Bd.returns] at h; cases h)
    refine ⟨_, _, castTop (ef_0 m v oz j1 j2) ?_, hrun, hended, _, _, rfl, ⟨rfl, NP1⟩, ⟨_, rfl⟩, hW, hsame.mono (by decide) (by decide)⟩
    refine pre _ ?_
    refine sego X12 hx hby hown hI hJ (wk_0 v oz j1 j2 (oz &&& 3) 2 b) _ ?_
    refine tC0 _ ?_
    refine tP0 _ ?_
    refine sego XP0 hx hby hown hI hJ (wk_1 v oz j1 j2 (oz &&& 3) 2 b (by decide)) _ ?_
    refine tC1 _ ?_
    refine tP1 _ ?_
    refine sego XP1 hx hby hown hI hJ (wz_2 v oz j1 j2 (oz &&& 3) 2 b (by decide)) _ ?_
    refine sego XP1 hx hby hown hI hJ (wz_3 v oz j1 j2 (oz &&& 3) 2 b (by decide)) _ ?_
    refine sego XP1 hx hby hown hI hJ (wz_4 v oz j1 j2 (oz &&& 3) 2 b (by decide)) _ ?_
    refine sego XP1 hx hby hown hI hJ (wf_0 v oz j1 j2 (oz &&& 3) 2 b) _ ?_
    refine tR _ ?_
    exact endN XR hx hby hown hI hJ (wf_1 v oz j1 j2 (oz &&& 3) 2 b) Bd.returns (by simp) hr
  · obtain ⟨law, s0, s1, s2⟩ := own_law3 v hv
    have pre : ∀ t, Steps p.tables e below (T12.setTop (mkF m 190 #[.val (.int v), .val (.int oz), .val (.long j1), .second, .val (.long j2), .second, .val (.int (oz &&& 3)), .val (.ref b), .val (.int 3)] [])) t → Steps p.tables e below (s₁.setTop (mkF m 0 #[.val (.int v), .val (.int oz), .val (.long j1), .second, .val (.long j2), .second, .unset, .unset, .unset] [])) t := pre
    obtain ⟨TC0, XC0, eC0, tC0⟩ := callPure X12 hx hZ hown (y := (⟨"com/example/riffle/riffle/RowFormatReadVarintPinLaw", "group", "(III)B"⟩ : MethodName)) (hw _ (List.mem_of_getElem? (i := 1) rfl)) (hw _ (List.mem_of_getElem? (i := 2) rfl)) (hw _ (List.mem_of_getElem? (i := 3) rfl)) (hw _ (List.mem_of_getElem? (i := 4) rfl)) (by decide) rfl (argsL := [.int v, .int 0, .int 3]) (rest := [.int (oz &&& 3), .ref b]) (pureN (t := .byte) (by simp) pn_1 hw (ci := ci1) (cj := cj1) (by decide +kernel) (by decide +kernel) (fun m => ef_1 m v 0 3) rfl (own_narg v 0 3) (wp_1 v 0 3)) (W := 2) (by decide) (by decide) (by decide) (by decide) (pc := 198) (Ls := #[.val (.int v), .val (.int oz), .val (.long j1), .second, .val (.long j2), .second, .val (.int (oz &&& 3)), .val (.ref b), .val (.int 3)]) (by rw [hml]; rfl) (lenOf pd_1 rfl) rfl (by show 1 + (1 + 0) ≤ 2; decide) (hb hby at_198)
    obtain ⟨TP0, lP0, XP0, NP0, AP0, -, tP0⟩ := putB (rest := []) (Ls := #[.val (.int v), .val (.int oz), .val (.long j1), .second, .val (.long j2), .second, .val (.int (oz &&& 3)), .val (.ref b), .val (.int 3)]) XC0 hx hZ (by rw [eC0]; exact A12) (idx32 eF).1 (idx32 eF).2 (by omega) N12 gb (own_g v 0 3) (hb hby at_201)
    rw [own_gby] at AP0
    obtain ⟨TC1, XC1, eC1, tC1⟩ := callPure XP0 hx hZ hown (y := (⟨"com/example/riffle/riffle/RowFormatReadVarintPinLaw", "group", "(III)B"⟩ : MethodName)) (hw _ (List.mem_of_getElem? (i := 1) rfl)) (hw _ (List.mem_of_getElem? (i := 2) rfl)) (hw _ (List.mem_of_getElem? (i := 3) rfl)) (hw _ (List.mem_of_getElem? (i := 4) rfl)) (by decide) rfl (argsL := [.int v, .int 1, .int 3]) (rest := [.int ((oz &&& 3) + 1), .ref b]) (pureN (t := .byte) (by simp) pn_1 hw (ci := ci1) (cj := cj1) (by decide +kernel) (by decide +kernel) (fun m => ef_1 m v 1 3) rfl (own_narg v 1 3) (wp_1 v 1 3)) (W := 2) (by decide) (by decide) (by decide) (by decide) (pc := 218) (Ls := #[.val (.int v), .val (.int oz), .val (.long j1), .second, .val (.long j2), .second, .val (.int (oz &&& 3)), .val (.ref b), .val (.int 3)]) (by rw [hml]; rfl) (lenOf pd_1 rfl) rfl (by show 1 + (1 + 0) ≤ 2; decide) (hb hby at_218)
    obtain ⟨TP1, lP1, XP1, NP1, AP1, -, tP1⟩ := putB (rest := []) (Ls := #[.val (.int v), .val (.int oz), .val (.long j1), .second, .val (.long j2), .second, .val (.int (oz &&& 3)), .val (.ref b), .val (.int 3)]) XC1 hx hZ (by rw [eC1]; exact AP0) (idx32 (eFi 1 1 (by decide) (by decide))).1 (idx32 (eFi 1 1 (by decide) (by decide))).2 (by omega) NP0 gb (own_g v 1 3) (hb hby at_221)
    rw [own_gby] at AP1
    obtain ⟨TC2, XC2, eC2, tC2⟩ := callPure XP1 hx hZ hown (y := (⟨"com/example/riffle/riffle/RowFormatReadVarintPinLaw", "group", "(III)B"⟩ : MethodName)) (hw _ (List.mem_of_getElem? (i := 1) rfl)) (hw _ (List.mem_of_getElem? (i := 2) rfl)) (hw _ (List.mem_of_getElem? (i := 3) rfl)) (hw _ (List.mem_of_getElem? (i := 4) rfl)) (by decide) rfl (argsL := [.int v, .int 2, .int 3]) (rest := [.int ((oz &&& 3) + 2), .ref b]) (pureN (t := .byte) (by simp) pn_1 hw (ci := ci1) (cj := cj1) (by decide +kernel) (by decide +kernel) (fun m => ef_1 m v 2 3) rfl (own_narg v 2 3) (wp_1 v 2 3)) (W := 2) (by decide) (by decide) (by decide) (by decide) (pc := 238) (Ls := #[.val (.int v), .val (.int oz), .val (.long j1), .second, .val (.long j2), .second, .val (.int (oz &&& 3)), .val (.ref b), .val (.int 3)]) (by rw [hml]; rfl) (lenOf pd_1 rfl) rfl (by show 1 + (1 + 0) ≤ 2; decide) (hb hby at_238)
    obtain ⟨TP2, lP2, XP2, NP2, AP2, -, tP2⟩ := putB (rest := []) (Ls := #[.val (.int v), .val (.int oz), .val (.long j1), .second, .val (.long j2), .second, .val (.int (oz &&& 3)), .val (.ref b), .val (.int 3)]) XC2 hx hZ (by rw [eC2]; exact AP1) (idx32 (eFi 2 2 (by decide) (by decide))).1 (idx32 (eFi 2 2 (by decide) (by decide))).2 (by omega) NP1 gb (own_g v 2 3) (hb hby at_241)
    rw [own_gby] at AP2
    have q0 : (oupd (oupd (oupd G F (own_g v 0 3)) (F + 1) (own_g v 1 3)) (F + 2) (own_g v 2 3)) F = own_g v 0 3 := by simp [oupd]
    have q1 : (oupd (oupd (oupd G F (own_g v 0 3)) (F + 1) (own_g v 1 3)) (F + 2) (own_g v 2 3)) (F + 1) = own_g v 1 3 := by simp [oupd]
    have q2 : (oupd (oupd (oupd G F (own_g v 0 3)) (F + 1) (own_g v 1 3)) (F + 2) (own_g v 2 3)) (F + 2) = own_g v 2 3 := by simp [oupd]
    obtain ⟨TR, XR, eR, tR⟩ := callPure XP2 hx hZ hown (y := (⟨"com/example/riffle/riffle/RowFormat", "readVarint", "([BI)I"⟩ : MethodName)) (hw _ (List.mem_of_getElem? (i := 5) rfl)) (hw _ (List.mem_of_getElem? (i := 6) rfl)) (hw _ (List.mem_of_getElem? (i := 7) rfl)) (hw _ (List.mem_of_getElem? (i := 8) rfl)) (by decide) rfl (argsL := [.ref b, .int (oz &&& 3)]) (rest := []) (rm2 l Z a0 hw [] b (oz &&& 3) TP2.heap _ AP2 F eF (by omega) v (Or.inr ⟨by rw [q0]; exact s0, [own_g v 0 3, own_g v 1 3, own_g v 2 3], ⟨q0, s0, ⟨q1, s1, ⟨q2, s2⟩⟩⟩, by show F + 3 ≤ 12; omega, law.symm⟩)) (W := 0) (by decide) (by decide) (by decide) (by decide) (pc := 286) (Ls := #[.val (.int v), .val (.int oz), .val (.long j1), .second, .val (.long j2), .second, .val (.int (oz &&& 3)), .val (.ref b), .val (.int 3)]) (by rw [hml]; rfl) (lenOf pd_2 rfl) rfl (by decide) (hb hby at_286)
    obtain ⟨fs, hr, hrun, hended, hW, hsame⟩ := XR.leave (v := some (.int (1 : Int32))) (fun h => by rw [Bd.returns] at h; cases h)
    refine ⟨_, _, castTop (ef_0 m v oz j1 j2) ?_, hrun, hended, _, _, rfl, ⟨rfl, NP2⟩, ⟨_, rfl⟩, hW, hsame.mono (by decide) (by decide)⟩
    refine pre _ ?_
    refine sego X12 hx hby hown hI hJ (wk_0 v oz j1 j2 (oz &&& 3) 3 b) _ ?_
    refine tC0 _ ?_
    refine tP0 _ ?_
    refine sego XP0 hx hby hown hI hJ (wk_1 v oz j1 j2 (oz &&& 3) 3 b (by decide)) _ ?_
    refine tC1 _ ?_
    refine tP1 _ ?_
    refine sego XP1 hx hby hown hI hJ (wk_2 v oz j1 j2 (oz &&& 3) 3 b (by decide)) _ ?_
    refine tC2 _ ?_
    refine tP2 _ ?_
    refine sego XP2 hx hby hown hI hJ (wz_3 v oz j1 j2 (oz &&& 3) 3 b (by decide)) _ ?_
    refine sego XP2 hx hby hown hI hJ (wz_4 v oz j1 j2 (oz &&& 3) 3 b (by decide)) _ ?_
    refine sego XP2 hx hby hown hI hJ (wf_0 v oz j1 j2 (oz &&& 3) 3 b) _ ?_
    refine tR _ ?_
    exact endN XR hx hby hown hI hJ (wf_1 v oz j1 j2 (oz &&& 3) 3 b) Bd.returns (by simp) hr
  · obtain ⟨law, s0, s1, s2, s3⟩ := own_law4 v hv
    have pre : ∀ t, Steps p.tables e below (T12.setTop (mkF m 190 #[.val (.int v), .val (.int oz), .val (.long j1), .second, .val (.long j2), .second, .val (.int (oz &&& 3)), .val (.ref b), .val (.int 4)] [])) t → Steps p.tables e below (s₁.setTop (mkF m 0 #[.val (.int v), .val (.int oz), .val (.long j1), .second, .val (.long j2), .second, .unset, .unset, .unset] [])) t := pre
    obtain ⟨TC0, XC0, eC0, tC0⟩ := callPure X12 hx hZ hown (y := (⟨"com/example/riffle/riffle/RowFormatReadVarintPinLaw", "group", "(III)B"⟩ : MethodName)) (hw _ (List.mem_of_getElem? (i := 1) rfl)) (hw _ (List.mem_of_getElem? (i := 2) rfl)) (hw _ (List.mem_of_getElem? (i := 3) rfl)) (hw _ (List.mem_of_getElem? (i := 4) rfl)) (by decide) rfl (argsL := [.int v, .int 0, .int 4]) (rest := [.int (oz &&& 3), .ref b]) (pureN (t := .byte) (by simp) pn_1 hw (ci := ci1) (cj := cj1) (by decide +kernel) (by decide +kernel) (fun m => ef_1 m v 0 4) rfl (own_narg v 0 4) (wp_1 v 0 4)) (W := 2) (by decide) (by decide) (by decide) (by decide) (pc := 198) (Ls := #[.val (.int v), .val (.int oz), .val (.long j1), .second, .val (.long j2), .second, .val (.int (oz &&& 3)), .val (.ref b), .val (.int 4)]) (by rw [hml]; rfl) (lenOf pd_1 rfl) rfl (by show 1 + (1 + 0) ≤ 2; decide) (hb hby at_198)
    obtain ⟨TP0, lP0, XP0, NP0, AP0, -, tP0⟩ := putB (rest := []) (Ls := #[.val (.int v), .val (.int oz), .val (.long j1), .second, .val (.long j2), .second, .val (.int (oz &&& 3)), .val (.ref b), .val (.int 4)]) XC0 hx hZ (by rw [eC0]; exact A12) (idx32 eF).1 (idx32 eF).2 (by omega) N12 gb (own_g v 0 4) (hb hby at_201)
    rw [own_gby] at AP0
    obtain ⟨TC1, XC1, eC1, tC1⟩ := callPure XP0 hx hZ hown (y := (⟨"com/example/riffle/riffle/RowFormatReadVarintPinLaw", "group", "(III)B"⟩ : MethodName)) (hw _ (List.mem_of_getElem? (i := 1) rfl)) (hw _ (List.mem_of_getElem? (i := 2) rfl)) (hw _ (List.mem_of_getElem? (i := 3) rfl)) (hw _ (List.mem_of_getElem? (i := 4) rfl)) (by decide) rfl (argsL := [.int v, .int 1, .int 4]) (rest := [.int ((oz &&& 3) + 1), .ref b]) (pureN (t := .byte) (by simp) pn_1 hw (ci := ci1) (cj := cj1) (by decide +kernel) (by decide +kernel) (fun m => ef_1 m v 1 4) rfl (own_narg v 1 4) (wp_1 v 1 4)) (W := 2) (by decide) (by decide) (by decide) (by decide) (pc := 218) (Ls := #[.val (.int v), .val (.int oz), .val (.long j1), .second, .val (.long j2), .second, .val (.int (oz &&& 3)), .val (.ref b), .val (.int 4)]) (by rw [hml]; rfl) (lenOf pd_1 rfl) rfl (by show 1 + (1 + 0) ≤ 2; decide) (hb hby at_218)
    obtain ⟨TP1, lP1, XP1, NP1, AP1, -, tP1⟩ := putB (rest := []) (Ls := #[.val (.int v), .val (.int oz), .val (.long j1), .second, .val (.long j2), .second, .val (.int (oz &&& 3)), .val (.ref b), .val (.int 4)]) XC1 hx hZ (by rw [eC1]; exact AP0) (idx32 (eFi 1 1 (by decide) (by decide))).1 (idx32 (eFi 1 1 (by decide) (by decide))).2 (by omega) NP0 gb (own_g v 1 4) (hb hby at_221)
    rw [own_gby] at AP1
    obtain ⟨TC2, XC2, eC2, tC2⟩ := callPure XP1 hx hZ hown (y := (⟨"com/example/riffle/riffle/RowFormatReadVarintPinLaw", "group", "(III)B"⟩ : MethodName)) (hw _ (List.mem_of_getElem? (i := 1) rfl)) (hw _ (List.mem_of_getElem? (i := 2) rfl)) (hw _ (List.mem_of_getElem? (i := 3) rfl)) (hw _ (List.mem_of_getElem? (i := 4) rfl)) (by decide) rfl (argsL := [.int v, .int 2, .int 4]) (rest := [.int ((oz &&& 3) + 2), .ref b]) (pureN (t := .byte) (by simp) pn_1 hw (ci := ci1) (cj := cj1) (by decide +kernel) (by decide +kernel) (fun m => ef_1 m v 2 4) rfl (own_narg v 2 4) (wp_1 v 2 4)) (W := 2) (by decide) (by decide) (by decide) (by decide) (pc := 238) (Ls := #[.val (.int v), .val (.int oz), .val (.long j1), .second, .val (.long j2), .second, .val (.int (oz &&& 3)), .val (.ref b), .val (.int 4)]) (by rw [hml]; rfl) (lenOf pd_1 rfl) rfl (by show 1 + (1 + 0) ≤ 2; decide) (hb hby at_238)
    obtain ⟨TP2, lP2, XP2, NP2, AP2, -, tP2⟩ := putB (rest := []) (Ls := #[.val (.int v), .val (.int oz), .val (.long j1), .second, .val (.long j2), .second, .val (.int (oz &&& 3)), .val (.ref b), .val (.int 4)]) XC2 hx hZ (by rw [eC2]; exact AP1) (idx32 (eFi 2 2 (by decide) (by decide))).1 (idx32 (eFi 2 2 (by decide) (by decide))).2 (by omega) NP1 gb (own_g v 2 4) (hb hby at_241)
    rw [own_gby] at AP2
    obtain ⟨TC3, XC3, eC3, tC3⟩ := callPure XP2 hx hZ hown (y := (⟨"com/example/riffle/riffle/RowFormatReadVarintPinLaw", "group", "(III)B"⟩ : MethodName)) (hw _ (List.mem_of_getElem? (i := 1) rfl)) (hw _ (List.mem_of_getElem? (i := 2) rfl)) (hw _ (List.mem_of_getElem? (i := 3) rfl)) (hw _ (List.mem_of_getElem? (i := 4) rfl)) (by decide) rfl (argsL := [.int v, .int 3, .int 4]) (rest := [.int ((oz &&& 3) + 3), .ref b]) (pureN (t := .byte) (by simp) pn_1 hw (ci := ci1) (cj := cj1) (by decide +kernel) (by decide +kernel) (fun m => ef_1 m v 3 4) rfl (own_narg v 3 4) (wp_1 v 3 4)) (W := 2) (by decide) (by decide) (by decide) (by decide) (pc := 258) (Ls := #[.val (.int v), .val (.int oz), .val (.long j1), .second, .val (.long j2), .second, .val (.int (oz &&& 3)), .val (.ref b), .val (.int 4)]) (by rw [hml]; rfl) (lenOf pd_1 rfl) rfl (by show 1 + (1 + 0) ≤ 2; decide) (hb hby at_258)
    obtain ⟨TP3, lP3, XP3, NP3, AP3, -, tP3⟩ := putB (rest := []) (Ls := #[.val (.int v), .val (.int oz), .val (.long j1), .second, .val (.long j2), .second, .val (.int (oz &&& 3)), .val (.ref b), .val (.int 4)]) XC3 hx hZ (by rw [eC3]; exact AP2) (idx32 (eFi 3 3 (by decide) (by decide))).1 (idx32 (eFi 3 3 (by decide) (by decide))).2 (by omega) NP2 gb (own_g v 3 4) (hb hby at_261)
    rw [own_gby] at AP3
    have q0 : (oupd (oupd (oupd (oupd G F (own_g v 0 4)) (F + 1) (own_g v 1 4)) (F + 2) (own_g v 2 4)) (F + 3) (own_g v 3 4)) F = own_g v 0 4 := by simp [oupd]
    have q1 : (oupd (oupd (oupd (oupd G F (own_g v 0 4)) (F + 1) (own_g v 1 4)) (F + 2) (own_g v 2 4)) (F + 3) (own_g v 3 4)) (F + 1) = own_g v 1 4 := by simp [oupd]
    have q2 : (oupd (oupd (oupd (oupd G F (own_g v 0 4)) (F + 1) (own_g v 1 4)) (F + 2) (own_g v 2 4)) (F + 3) (own_g v 3 4)) (F + 2) = own_g v 2 4 := by simp [oupd]
    have q3 : (oupd (oupd (oupd (oupd G F (own_g v 0 4)) (F + 1) (own_g v 1 4)) (F + 2) (own_g v 2 4)) (F + 3) (own_g v 3 4)) (F + 3) = own_g v 3 4 := by simp [oupd]
    obtain ⟨TR, XR, eR, tR⟩ := callPure XP3 hx hZ hown (y := (⟨"com/example/riffle/riffle/RowFormat", "readVarint", "([BI)I"⟩ : MethodName)) (hw _ (List.mem_of_getElem? (i := 5) rfl)) (hw _ (List.mem_of_getElem? (i := 6) rfl)) (hw _ (List.mem_of_getElem? (i := 7) rfl)) (hw _ (List.mem_of_getElem? (i := 8) rfl)) (by decide) rfl (argsL := [.ref b, .int (oz &&& 3)]) (rest := []) (rm2 l Z a0 hw [] b (oz &&& 3) TP3.heap _ AP3 F eF (by omega) v (Or.inr ⟨by rw [q0]; exact s0, [own_g v 0 4, own_g v 1 4, own_g v 2 4, own_g v 3 4], ⟨q0, s0, ⟨q1, s1, ⟨q2, s2, ⟨q3, s3⟩⟩⟩⟩, by show F + 4 ≤ 12; omega, law.symm⟩)) (W := 0) (by decide) (by decide) (by decide) (by decide) (pc := 286) (Ls := #[.val (.int v), .val (.int oz), .val (.long j1), .second, .val (.long j2), .second, .val (.int (oz &&& 3)), .val (.ref b), .val (.int 4)]) (by rw [hml]; rfl) (lenOf pd_2 rfl) rfl (by decide) (hb hby at_286)
    obtain ⟨fs, hr, hrun, hended, hW, hsame⟩ := XR.leave (v := some (.int (1 : Int32))) (fun h => by rw [Bd.returns] at h; cases h)
    refine ⟨_, _, castTop (ef_0 m v oz j1 j2) ?_, hrun, hended, _, _, rfl, ⟨rfl, NP3⟩, ⟨_, rfl⟩, hW, hsame.mono (by decide) (by decide)⟩
    refine pre _ ?_
    refine sego X12 hx hby hown hI hJ (wk_0 v oz j1 j2 (oz &&& 3) 4 b) _ ?_
    refine tC0 _ ?_
    refine tP0 _ ?_
    refine sego XP0 hx hby hown hI hJ (wk_1 v oz j1 j2 (oz &&& 3) 4 b (by decide)) _ ?_
    refine tC1 _ ?_
    refine tP1 _ ?_
    refine sego XP1 hx hby hown hI hJ (wk_2 v oz j1 j2 (oz &&& 3) 4 b (by decide)) _ ?_
    refine tC2 _ ?_
    refine tP2 _ ?_
    refine sego XP2 hx hby hown hI hJ (wk_3 v oz j1 j2 (oz &&& 3) 4 b (by decide)) _ ?_
    refine tC3 _ ?_
    refine tP3 _ ?_
    refine sego XP3 hx hby hown hI hJ (wz_4 v oz j1 j2 (oz &&& 3) 4 b (by decide)) _ ?_
    refine sego XP3 hx hby hown hI hJ (wf_0 v oz j1 j2 (oz &&& 3) 4 b) _ ?_
    refine tR _ ?_
    exact endN XR hx hby hown hI hJ (wf_1 v oz j1 j2 (oz &&& 3) 4 b) Bd.returns (by simp) hr
  · obtain ⟨law, s0, s1, s2, s3, s4⟩ := own_law5 v hv
    have pre : ∀ t, Steps p.tables e below (T12.setTop (mkF m 190 #[.val (.int v), .val (.int oz), .val (.long j1), .second, .val (.long j2), .second, .val (.int (oz &&& 3)), .val (.ref b), .val (.int 5)] [])) t → Steps p.tables e below (s₁.setTop (mkF m 0 #[.val (.int v), .val (.int oz), .val (.long j1), .second, .val (.long j2), .second, .unset, .unset, .unset] [])) t := pre
    obtain ⟨TC0, XC0, eC0, tC0⟩ := callPure X12 hx hZ hown (y := (⟨"com/example/riffle/riffle/RowFormatReadVarintPinLaw", "group", "(III)B"⟩ : MethodName)) (hw _ (List.mem_of_getElem? (i := 1) rfl)) (hw _ (List.mem_of_getElem? (i := 2) rfl)) (hw _ (List.mem_of_getElem? (i := 3) rfl)) (hw _ (List.mem_of_getElem? (i := 4) rfl)) (by decide) rfl (argsL := [.int v, .int 0, .int 5]) (rest := [.int (oz &&& 3), .ref b]) (pureN (t := .byte) (by simp) pn_1 hw (ci := ci1) (cj := cj1) (by decide +kernel) (by decide +kernel) (fun m => ef_1 m v 0 5) rfl (own_narg v 0 5) (wp_1 v 0 5)) (W := 2) (by decide) (by decide) (by decide) (by decide) (pc := 198) (Ls := #[.val (.int v), .val (.int oz), .val (.long j1), .second, .val (.long j2), .second, .val (.int (oz &&& 3)), .val (.ref b), .val (.int 5)]) (by rw [hml]; rfl) (lenOf pd_1 rfl) rfl (by show 1 + (1 + 0) ≤ 2; decide) (hb hby at_198)
    obtain ⟨TP0, lP0, XP0, NP0, AP0, -, tP0⟩ := putB (rest := []) (Ls := #[.val (.int v), .val (.int oz), .val (.long j1), .second, .val (.long j2), .second, .val (.int (oz &&& 3)), .val (.ref b), .val (.int 5)]) XC0 hx hZ (by rw [eC0]; exact A12) (idx32 eF).1 (idx32 eF).2 (by omega) N12 gb (own_g v 0 5) (hb hby at_201)
    rw [own_gby] at AP0
    obtain ⟨TC1, XC1, eC1, tC1⟩ := callPure XP0 hx hZ hown (y := (⟨"com/example/riffle/riffle/RowFormatReadVarintPinLaw", "group", "(III)B"⟩ : MethodName)) (hw _ (List.mem_of_getElem? (i := 1) rfl)) (hw _ (List.mem_of_getElem? (i := 2) rfl)) (hw _ (List.mem_of_getElem? (i := 3) rfl)) (hw _ (List.mem_of_getElem? (i := 4) rfl)) (by decide) rfl (argsL := [.int v, .int 1, .int 5]) (rest := [.int ((oz &&& 3) + 1), .ref b]) (pureN (t := .byte) (by simp) pn_1 hw (ci := ci1) (cj := cj1) (by decide +kernel) (by decide +kernel) (fun m => ef_1 m v 1 5) rfl (own_narg v 1 5) (wp_1 v 1 5)) (W := 2) (by decide) (by decide) (by decide) (by decide) (pc := 218) (Ls := #[.val (.int v), .val (.int oz), .val (.long j1), .second, .val (.long j2), .second, .val (.int (oz &&& 3)), .val (.ref b), .val (.int 5)]) (by rw [hml]; rfl) (lenOf pd_1 rfl) rfl (by show 1 + (1 + 0) ≤ 2; decide) (hb hby at_218)
    obtain ⟨TP1, lP1, XP1, NP1, AP1, -, tP1⟩ := putB (rest := []) (Ls := #[.val (.int v), .val (.int oz), .val (.long j1), .second, .val (.long j2), .second, .val (.int (oz &&& 3)), .val (.ref b), .val (.int 5)]) XC1 hx hZ (by rw [eC1]; exact AP0) (idx32 (eFi 1 1 (by decide) (by decide))).1 (idx32 (eFi 1 1 (by decide) (by decide))).2 (by omega) NP0 gb (own_g v 1 5) (hb hby at_221)
    rw [own_gby] at AP1
    obtain ⟨TC2, XC2, eC2, tC2⟩ := callPure XP1 hx hZ hown (y := (⟨"com/example/riffle/riffle/RowFormatReadVarintPinLaw", "group", "(III)B"⟩ : MethodName)) (hw _ (List.mem_of_getElem? (i := 1) rfl)) (hw _ (List.mem_of_getElem? (i := 2) rfl)) (hw _ (List.mem_of_getElem? (i := 3) rfl)) (hw _ (List.mem_of_getElem? (i := 4) rfl)) (by decide) rfl (argsL := [.int v, .int 2, .int 5]) (rest := [.int ((oz &&& 3) + 2), .ref b]) (pureN (t := .byte) (by simp) pn_1 hw (ci := ci1) (cj := cj1) (by decide +kernel) (by decide +kernel) (fun m => ef_1 m v 2 5) rfl (own_narg v 2 5) (wp_1 v 2 5)) (W := 2) (by decide) (by decide) (by decide) (by decide) (pc := 238) (Ls := #[.val (.int v), .val (.int oz), .val (.long j1), .second, .val (.long j2), .second, .val (.int (oz &&& 3)), .val (.ref b), .val (.int 5)]) (by rw [hml]; rfl) (lenOf pd_1 rfl) rfl (by show 1 + (1 + 0) ≤ 2; decide) (hb hby at_238)
    obtain ⟨TP2, lP2, XP2, NP2, AP2, -, tP2⟩ := putB (rest := []) (Ls := #[.val (.int v), .val (.int oz), .val (.long j1), .second, .val (.long j2), .second, .val (.int (oz &&& 3)), .val (.ref b), .val (.int 5)]) XC2 hx hZ (by rw [eC2]; exact AP1) (idx32 (eFi 2 2 (by decide) (by decide))).1 (idx32 (eFi 2 2 (by decide) (by decide))).2 (by omega) NP1 gb (own_g v 2 5) (hb hby at_241)
    rw [own_gby] at AP2
    obtain ⟨TC3, XC3, eC3, tC3⟩ := callPure XP2 hx hZ hown (y := (⟨"com/example/riffle/riffle/RowFormatReadVarintPinLaw", "group", "(III)B"⟩ : MethodName)) (hw _ (List.mem_of_getElem? (i := 1) rfl)) (hw _ (List.mem_of_getElem? (i := 2) rfl)) (hw _ (List.mem_of_getElem? (i := 3) rfl)) (hw _ (List.mem_of_getElem? (i := 4) rfl)) (by decide) rfl (argsL := [.int v, .int 3, .int 5]) (rest := [.int ((oz &&& 3) + 3), .ref b]) (pureN (t := .byte) (by simp) pn_1 hw (ci := ci1) (cj := cj1) (by decide +kernel) (by decide +kernel) (fun m => ef_1 m v 3 5) rfl (own_narg v 3 5) (wp_1 v 3 5)) (W := 2) (by decide) (by decide) (by decide) (by decide) (pc := 258) (Ls := #[.val (.int v), .val (.int oz), .val (.long j1), .second, .val (.long j2), .second, .val (.int (oz &&& 3)), .val (.ref b), .val (.int 5)]) (by rw [hml]; rfl) (lenOf pd_1 rfl) rfl (by show 1 + (1 + 0) ≤ 2; decide) (hb hby at_258)
    obtain ⟨TP3, lP3, XP3, NP3, AP3, -, tP3⟩ := putB (rest := []) (Ls := #[.val (.int v), .val (.int oz), .val (.long j1), .second, .val (.long j2), .second, .val (.int (oz &&& 3)), .val (.ref b), .val (.int 5)]) XC3 hx hZ (by rw [eC3]; exact AP2) (idx32 (eFi 3 3 (by decide) (by decide))).1 (idx32 (eFi 3 3 (by decide) (by decide))).2 (by omega) NP2 gb (own_g v 3 5) (hb hby at_261)
    rw [own_gby] at AP3
    obtain ⟨TC4, XC4, eC4, tC4⟩ := callPure XP3 hx hZ hown (y := (⟨"com/example/riffle/riffle/RowFormatReadVarintPinLaw", "group", "(III)B"⟩ : MethodName)) (hw _ (List.mem_of_getElem? (i := 1) rfl)) (hw _ (List.mem_of_getElem? (i := 2) rfl)) (hw _ (List.mem_of_getElem? (i := 3) rfl)) (hw _ (List.mem_of_getElem? (i := 4) rfl)) (by decide) rfl (argsL := [.int v, .int 4, .int 5]) (rest := [.int ((oz &&& 3) + 4), .ref b]) (pureN (t := .byte) (by simp) pn_1 hw (ci := ci1) (cj := cj1) (by decide +kernel) (by decide +kernel) (fun m => ef_1 m v 4 5) rfl (own_narg v 4 5) (wp_1 v 4 5)) (W := 2) (by decide) (by decide) (by decide) (by decide) (pc := 278) (Ls := #[.val (.int v), .val (.int oz), .val (.long j1), .second, .val (.long j2), .second, .val (.int (oz &&& 3)), .val (.ref b), .val (.int 5)]) (by rw [hml]; rfl) (lenOf pd_1 rfl) rfl (by show 1 + (1 + 0) ≤ 2; decide) (hb hby at_278)
    obtain ⟨TP4, lP4, XP4, NP4, AP4, -, tP4⟩ := putB (rest := []) (Ls := #[.val (.int v), .val (.int oz), .val (.long j1), .second, .val (.long j2), .second, .val (.int (oz &&& 3)), .val (.ref b), .val (.int 5)]) XC4 hx hZ (by rw [eC4]; exact AP3) (idx32 (eFi 4 4 (by decide) (by decide))).1 (idx32 (eFi 4 4 (by decide) (by decide))).2 (by omega) NP3 gb (own_g v 4 5) (hb hby at_281)
    rw [own_gby] at AP4
    have q0 : (oupd (oupd (oupd (oupd (oupd G F (own_g v 0 5)) (F + 1) (own_g v 1 5)) (F + 2) (own_g v 2 5)) (F + 3) (own_g v 3 5)) (F + 4) (own_g v 4 5)) F = own_g v 0 5 := by simp [oupd]
    have q1 : (oupd (oupd (oupd (oupd (oupd G F (own_g v 0 5)) (F + 1) (own_g v 1 5)) (F + 2) (own_g v 2 5)) (F + 3) (own_g v 3 5)) (F + 4) (own_g v 4 5)) (F + 1) = own_g v 1 5 := by simp [oupd]
    have q2 : (oupd (oupd (oupd (oupd (oupd G F (own_g v 0 5)) (F + 1) (own_g v 1 5)) (F + 2) (own_g v 2 5)) (F + 3) (own_g v 3 5)) (F + 4) (own_g v 4 5)) (F + 2) = own_g v 2 5 := by simp [oupd]
    have q3 : (oupd (oupd (oupd (oupd (oupd G F (own_g v 0 5)) (F + 1) (own_g v 1 5)) (F + 2) (own_g v 2 5)) (F + 3) (own_g v 3 5)) (F + 4) (own_g v 4 5)) (F + 3) = own_g v 3 5 := by simp [oupd]
    have q4 : (oupd (oupd (oupd (oupd (oupd G F (own_g v 0 5)) (F + 1) (own_g v 1 5)) (F + 2) (own_g v 2 5)) (F + 3) (own_g v 3 5)) (F + 4) (own_g v 4 5)) (F + 4) = own_g v 4 5 := by simp [oupd]
    obtain ⟨TR, XR, eR, tR⟩ := callPure XP4 hx hZ hown (y := (⟨"com/example/riffle/riffle/RowFormat", "readVarint", "([BI)I"⟩ : MethodName)) (hw _ (List.mem_of_getElem? (i := 5) rfl)) (hw _ (List.mem_of_getElem? (i := 6) rfl)) (hw _ (List.mem_of_getElem? (i := 7) rfl)) (hw _ (List.mem_of_getElem? (i := 8) rfl)) (by decide) rfl (argsL := [.ref b, .int (oz &&& 3)]) (rest := []) (rm2 l Z a0 hw [] b (oz &&& 3) TP4.heap _ AP4 F eF (by omega) v (Or.inr ⟨by rw [q0]; exact s0, [own_g v 0 5, own_g v 1 5, own_g v 2 5, own_g v 3 5, own_g v 4 5], ⟨q0, s0, ⟨q1, s1, ⟨q2, s2, ⟨q3, s3, ⟨q4, s4⟩⟩⟩⟩⟩, by show F + 5 ≤ 12; omega, law.symm⟩)) (W := 0) (by decide) (by decide) (by decide) (by decide) (pc := 286) (Ls := #[.val (.int v), .val (.int oz), .val (.long j1), .second, .val (.long j2), .second, .val (.int (oz &&& 3)), .val (.ref b), .val (.int 5)]) (by rw [hml]; rfl) (lenOf pd_2 rfl) rfl (by decide) (hb hby at_286)
    obtain ⟨fs, hr, hrun, hended, hW, hsame⟩ := XR.leave (v := some (.int (1 : Int32))) (fun h => by rw [Bd.returns] at h; cases h)
    refine ⟨_, _, castTop (ef_0 m v oz j1 j2) ?_, hrun, hended, _, _, rfl, ⟨rfl, NP4⟩, ⟨_, rfl⟩, hW, hsame.mono (by decide) (by decide)⟩
    refine pre _ ?_
    refine sego X12 hx hby hown hI hJ (wk_0 v oz j1 j2 (oz &&& 3) 5 b) _ ?_
    refine tC0 _ ?_
    refine tP0 _ ?_
    refine sego XP0 hx hby hown hI hJ (wk_1 v oz j1 j2 (oz &&& 3) 5 b (by decide)) _ ?_
    refine tC1 _ ?_
    refine tP1 _ ?_
    refine sego XP1 hx hby hown hI hJ (wk_2 v oz j1 j2 (oz &&& 3) 5 b (by decide)) _ ?_
    refine tC2 _ ?_
    refine tP2 _ ?_
    refine sego XP2 hx hby hown hI hJ (wk_3 v oz j1 j2 (oz &&& 3) 5 b (by decide)) _ ?_
    refine tC3 _ ?_
    refine tP3 _ ?_
    refine sego XP3 hx hby hown hI hJ (wk_4 v oz j1 j2 (oz &&& 3) 5 b (by decide)) _ ?_
    refine tC4 _ ?_
    refine tP4 _ ?_
    refine sego XP4 hx hby hown hI hJ (wf_0 v oz j1 j2 (oz &&& 3) 5 b) _ ?_
    refine tR _ ?_
    exact endN XR hx hby hown hI hJ (wf_1 v oz j1 j2 (oz &&& 3) 5 b) Bd.returns (by simp) hr
set_option maxRecDepth 65536 in
set_option maxHeartbeats 40000000 in
theorem comes_1 {Post : Tables → Env → Array Value → State → Outcome → State → Prop} (hpost : ∀ tb e args s v u, (limb_1_1.after args s (.returned v) u = true ∧ limb_1_2.after args s (.returned v) u = true ∧ True) → FrameEnd s (.returned v) u (Jvm.fieldLocs frame_1_writes args s ++ Jvm.arrayLocs frame_1_arrays args s ++ Jvm.staticLocs frame_1_statics s) 16 128 → Post tb e args s (.returned v) u) :
    ArmFor flags0 classFile x code maxLocals ret World_1 tables_1 room_1 Calls_1 rest_1 Pre_1 Post := by
  intro l hfl _ _ p e ha hc hk s m args below hf hA hF happ hP
  obtain ⟨hcalls, hrest, hpre⟩ := hP
  obtain ⟨-, -, -, hnamed, -, -, -, hat⟩ := (Spec.applies_iff hf).mp happ
  obtain ⟨hg, hn⟩ := and_e (Cond.before_iff.mp (show (Jvm.Cond.and given_1 narrow_1).before args s = true from hpre))
  obtain ⟨c0, g0⟩ := and_e hg
  obtain ⟨k0, g1⟩ := and_e g0
  obtain ⟨k1, g2⟩ := and_e g1
  obtain ⟨k2, g3⟩ := and_e g2
  obtain ⟨w0, w1, w2, w3, rfl⟩ : ∃ w0 w1 w2 w3 : Value, args = #[w0, w1, w2, w3] := by
    have hs : args.size = 4 := by simpa [Cond.value, given_1] using c0
    obtain ⟨L⟩ := args
    match L, hs with
    | [w0, w1, w2, w3], _ => exact ⟨w0, w1, w2, w3, rfl⟩
  have hw := fun d (hd : d ∈ tables_1) => atoms_spec (ws := Jvm.Cond.code x code maxLocals ret :: tables_1) hat d (List.mem_cons_of_mem _ hd)
  obtain ⟨i0, ei0⟩ := is_v k0
  obtain rfl : w0 = (.int i0) := Option.some.inj ei0
  obtain ⟨i1, ei1⟩ := is_v k1
  obtain rfl : w1 = (.int i1) := Option.some.inj ei1
  obtain ⟨i2, ei2⟩ := isL_v k2
  obtain rfl : w2 = (.long i2) := Option.some.inj ei2
  obtain ⟨i3, ei3⟩ := isL_v g3
  obtain rfl : w3 = (.long i3) := Option.some.inj ei3
  obtain ⟨n, o, h1, h2, h3, _, L, rfl, ⟨rfl, N⟩, hq⟩ := rm0 l s _ hw tables_1 i0 i1 i2 i3 s.heap s.heap.size (Nat.le_refl _) p e ha hc hk s m _ below hf ((Spec.applies_iff_loose hf).mp happ).1 ⟨rfl, State.Warmed39.refl s, rfl⟩ trivial
  refine ⟨n, _, h1, h2, h3, hpost _ _ _ _ _ _ ⟨Cond.after_iff.mpr rfl, Cond.after_iff.mpr (eq_i res_at (Term.int_eval (1)) rfl), trivial⟩ ⟨hq.1, hq.2.1, (hq.2.2.sift fun y hy => Or.inr (N y hy)).mono (by decide) (by decide)⟩⟩
theorem main_1_1 : Claimed_1_1 := comes_1 fun _ _ _ _ _ _ h hF => ⟨h.1, hF⟩
theorem main_1_2 : Claimed_1_2 := comes_1 fun _ _ _ _ _ _ h hF => ⟨h.2.1, hF⟩

end Jvm.Pilot.@@N@@
namespace Jvm.Pilot.@@N@@
open Jvm Jvm.ClassFile Sem Op Lib Jvm.Free Jvm.Stand Jvm.Pilot.@@N@@.Jvm.D
/-! MADE BY PROGRAM (witnessworld.py) out of the Statement's table words and the real class files: 9 classes; the members and pool entries that the words name. The judged class is class 1, her method 2. -/
namespace start1
open Jvm.ClassFile
def u (s : String) : CpInfo := .utf8 (stringToUtf16 s)
/-- a pool by its gaps: so many unusable entries, then the entry; so many at the end -/
def gap : Nat → List CpInfo → List CpInfo
  | 0, r => r
  | n + 1, r => .unusable :: gap n r
def poolList (es : List (Nat × CpInfo)) (last : Nat) : List CpInfo := es.foldr (fun e r => gap e.1 (e.2 :: r)) (gap last [])
def pool (es : List (Nat × CpInfo)) (last : Nat) : Array CpInfo := ⟨poolList es last⟩
def fileOf (pool : Array CpInfo) (this : Nat) (attrs : Array Attribute := #[]) (ms : Array MethodInfo := #[]) (fl : Nat := 33) (sup : Nat := 0) (ifs : Array Nat := #[]) (fds : Array FieldInfo := #[]) : ClassFile where
  minorVersion := 0
  majorVersion := 65
  constantPool := pool
  accessFlags := fl
  thisClass := this
  superClass := sup
  interfaces := ifs
  fields := fds
  methods := ms
  attributes := attrs
def plain (name : String) (sup : Option ClassId) : Class where
  name := name
  kind := .ordinary
  loader := none
  accessFlags := 33
  super := sup
  interfaces := #[]
  cf := none
  fields := #[]
  methods := #[]
  instanceTypes := #[]
  staticTypes := #[]
  resolved := #[]
  callSites := []
  init := .initialized
  statics := none
  mirror := none

def pool0 : Array CpInfo := pool [(5, u "<init>"), (0, u "()V"), (1, .class_ 10), (1, u "java/lang/Object")] 113

def k0m0 : Method := { name := "<init>", desc := "()V", sig := { parameters := [], returnType := none }, accessFlags := 1, code := none }
/-- java/lang/Object -/
def k0 : Class := { plain "java/lang/Object" none with
  accessFlags := 33
  interfaces := #[]
  cf := some (fileOf pool0 8 #[] #[{ accessFlags := 1, nameIndex := 5, descriptorIndex := 6, attributes := #[] }] 33 0 #[] #[])
  fields := #[]
  methods := #[k0m0]
  instanceTypes := #[]
  staticTypes := #[]
  resolved := Array.replicate 124 none
  statics := none }

def pool1 : Array CpInfo := pool [(2, .class_ 4), (1, u "java/lang/Object"), (0, u "<init>"), (0, u "()V"), (0, .methodref 8 9), (0, .class_ 10), (0, .nameAndType 11 12), (0, u "com/example/riffle/riffle/RowFormatReadVarintPinLaw"), (0, u "group"), (0, u "(III)B"), (0, .methodref 14 15), (0, .class_ 16), (0, .nameAndType 17 18), (0, u "com/example/riffle/riffle/RowFormat"), (0, u "readVarint"), (0, u "([BI)I"), (3, u "law"), (0, u "(IIJJ)Z")] 4

def k1m0 : Method := { name := "<init>", desc := "()V", sig := { parameters := [], returnType := none }, accessFlags := 2, code := none }
def k1c1 : Code := { maxStack := 3, maxLocals := 4, code := method_2_code, exceptionTable := #[], attributes := #[] }
def k1m1 : Method := { name := "group", desc := "(III)B", sig := { parameters := [.int, .int, .int], returnType := some .byte }, accessFlags := 10, code := some k1c1 }
def k1c2 : Code := { maxStack := 5, maxLocals := 9, code := code, exceptionTable := #[], attributes := #[] }
def k1m2 : Method := { name := "law", desc := "(IIJJ)Z", sig := { parameters := [.int, .int, .long, .long], returnType := some .boolean }, accessFlags := 9, code := some k1c2 }
/-- com/example/riffle/riffle/RowFormatReadVarintPinLaw -/
def k1 : Class := { plain "com/example/riffle/riffle/RowFormatReadVarintPinLaw" (some 0) with
  accessFlags := 49
  interfaces := #[]
  cf := some (fileOf pool1 8 #[] #[{ accessFlags := 2, nameIndex := 5, descriptorIndex := 6, attributes := #[] }, { accessFlags := 10, nameIndex := 11, descriptorIndex := 12, attributes := #[] }, { accessFlags := 9, nameIndex := 22, descriptorIndex := 23, attributes := #[] }] 49 2 #[] #[])
  fields := #[]
  methods := #[k1m0, k1m1, k1m2]
  instanceTypes := #[]
  staticTypes := #[]
  resolved := Array.replicate 28 none
  statics := none }

def pool2 : Array CpInfo := pool [(2, .class_ 4), (1, u "java/lang/Object"), (2, .class_ 8), (0, u "com/example/riffle/riffle/RowFormat"), (2, u "record"), (0, u "[B"), (2, u "key"), (0, u "Lcom/example/riffle/riffle/KeyColumns;"), (2, u "width"), (0, u "I"), (7, u "given"), (0, u "Lcom/example/riffle/riffle/RowFields;"), (67, .class_ 98), (0, u "com/example/riffle/riffle/RowFormat$1"), (9, u "texts"), (0, u "Lcom/example/riffle/riffle/CsvReader;"), (60, u "readVarint"), (0, u "([BI)I"), (8, u "BIG_ENDIAN_LONG"), (0, u "Ljava/lang/invoke/VarHandle;"), (38, u "MAX_VARINT_SIZE"), (2, u "END"), (0, u "B"), (1, u "ESCAPE"), (1, u "RECORD_SIZE"), (1, u "KEPT_RECORD_SIZE")] 39

def k2c0 : Code := { maxStack := 3, maxLocals := 7, code := prog_41_method_17_code, exceptionTable := #[], attributes := #[] }
def k2m0 : Method := { name := "readVarint", desc := "([BI)I", sig := { parameters := [(.array .byte), .int], returnType := some .int }, accessFlags := 8, code := some k2c0 }
/-- com/example/riffle/riffle/RowFormat -/
def k2 : Class := { plain "com/example/riffle/riffle/RowFormat" (some 0) with
  accessFlags := 48
  interfaces := #[]
  cf := some (fileOf pool2 7 #[.nestMembers #[97]] #[{ accessFlags := 8, nameIndex := 170, descriptorIndex := 171, attributes := #[] }] 48 2 #[] #[{ accessFlags := 24, nameIndex := 220, descriptorIndex := 20, attributes := #[] }, { accessFlags := 26, nameIndex := 223, descriptorIndex := 224, attributes := #[] }, { accessFlags := 26, nameIndex := 226, descriptorIndex := 224, attributes := #[] }, { accessFlags := 26, nameIndex := 180, descriptorIndex := 181, attributes := #[] }, { accessFlags := 26, nameIndex := 228, descriptorIndex := 20, attributes := #[] }, { accessFlags := 26, nameIndex := 230, descriptorIndex := 20, attributes := #[] }, { accessFlags := 18, nameIndex := 15, descriptorIndex := 16, attributes := #[] }, { accessFlags := 18, nameIndex := 19, descriptorIndex := 20, attributes := #[] }, { accessFlags := 2, nameIndex := 11, descriptorIndex := 12, attributes := #[] }, { accessFlags := 18, nameIndex := 28, descriptorIndex := 29, attributes := #[] }, { accessFlags := 2, nameIndex := 108, descriptorIndex := 109, attributes := #[] }])
  fields := #[{ name := "MAX_VARINT_SIZE", type := .int, accessFlags := 24, slot := 0, constantValue := 0 }, { name := "END", type := .byte, accessFlags := 26, slot := 1, constantValue := 0 }, { name := "ESCAPE", type := .byte, accessFlags := 26, slot := 2, constantValue := 0 }, { name := "BIG_ENDIAN_LONG", type := (.object "java/lang/invoke/VarHandle"), accessFlags := 26, slot := 3, constantValue := 0 }, { name := "RECORD_SIZE", type := .int, accessFlags := 26, slot := 4, constantValue := 0 }, { name := "KEPT_RECORD_SIZE", type := .int, accessFlags := 26, slot := 5, constantValue := 0 }, { name := "key", type := (.object "com/example/riffle/riffle/KeyColumns"), accessFlags := 18, slot := 0, constantValue := 0 }, { name := "width", type := .int, accessFlags := 18, slot := 1, constantValue := 0 }, { name := "record", type := (.array .byte), accessFlags := 2, slot := 2, constantValue := 0 }, { name := "given", type := (.object "com/example/riffle/riffle/RowFields"), accessFlags := 18, slot := 3, constantValue := 0 }, { name := "texts", type := (.object "com/example/riffle/riffle/CsvReader"), accessFlags := 2, slot := 4, constantValue := 0 }]
  methods := #[k2m0]
  instanceTypes := #[(.object "com/example/riffle/riffle/KeyColumns"), .int, (.array .byte), (.object "com/example/riffle/riffle/RowFields"), (.object "com/example/riffle/riffle/CsvReader")]
  staticTypes := #[.int, .byte, .byte, (.object "java/lang/invoke/VarHandle"), .int, .int]
  resolved := Array.replicate 270 none
  statics := none }

def pool3 : Array CpInfo := pool [(1, u "java/lang/Cloneable"), (0, .class_ 1), (0, u "java/lang/Object"), (0, .class_ 3)] 3

/-- java/lang/Cloneable -/
def k3 : Class := { plain "java/lang/Cloneable" (some 0) with
  accessFlags := 1537
  interfaces := #[]
  cf := some (fileOf pool3 2 #[] #[] 1537 4 #[] #[])
  fields := #[]
  methods := #[]
  instanceTypes := #[]
  staticTypes := #[]
  resolved := Array.replicate 8 none
  statics := none }

def pool4 : Array CpInfo := pool [(1, u "java/io/Serializable"), (0, .class_ 1), (0, u "java/lang/Object"), (0, .class_ 3)] 3

/-- java/io/Serializable -/
def k4 : Class := { plain "java/io/Serializable" (some 0) with
  accessFlags := 1537
  interfaces := #[]
  cf := some (fileOf pool4 2 #[] #[] 1537 4 #[] #[])
  fields := #[]
  methods := #[]
  instanceTypes := #[]
  staticTypes := #[]
  resolved := Array.replicate 8 none
  statics := none }

/-- the primitive byte -/
def k5 : Class := { plain "byte" none with kind := .primitive 'B', accessFlags := 0x411 }
/-- [B -/
def k6 : Class := { plain "[B" (some 0) with kind := .array 5 .byte, interfaces := #[3, 4], accessFlags := 1041 }

/-- the primitive int -/
def k7 : Class := { plain "int" none with kind := .primitive 'I', accessFlags := 0x411 }
/-- [I -/
def k8 : Class := { plain "[I" (some 0) with kind := .array 7 .int, interfaces := #[3, 4], accessFlags := 1041 }

def heap : Heap := #[]
def classes : Array Class := #[k0, k1, k2, k3, k4, k5, k6, k7, k8]
def interned : List (Array UInt16 × Addr) := []
def slotsUsed : Nat := 0
def theMethod : MethodId := ⟨1, 2⟩
def args0 : Array Value := #[.int 5, .int 6, .long 7, .long 8]
def aboutOver (below : List Frame) : State where
  vm := { classes := classes, interned := interned.toArray }
  heap := heap
  slotsUsed := slotsUsed
  threads := #[{ frames := .invoking theMethod args0 :: below }]
def below0 : List Frame := [.native { method := ⟨0, 0⟩, args := #[] }]
def about1 : State := aboutOver below0
def p0 : Program := .bare "" "" ""
def e0 : Env := launch0.env 0 0 0
theorem w_frames : about1.frames = Frame.invoking theMethod args0 :: below0 := rfl
set_option maxRecDepth 65536 in
theorem w_args : argsFit about1.vm theMethod args0 = true := by decide +kernel
set_option maxRecDepth 65536 in
theorem w_heap : heapFits about1 = true := by decide +kernel
set_option maxRecDepth 65536 in
theorem w_runnable : about1.curStatus? = some .runnable := by decide +kernel
set_option maxRecDepth 65536 in
theorem w_alone : about1.alone = true := by decide +kernel
set_option maxRecDepth 65536 in
theorem w_named : about1.methodNamed? x = some theMethod := by decide +kernel
set_option maxRecDepth 65536 in
theorem w_hears : about1.hears theMethod below0 = true := by decide +kernel
set_option maxRecDepth 65536 in
theorem w_ripe : about1.ripe theMethod args0 below0 = true := by decide +kernel
theorem w_running : about1.status = .running := rfl
set_option maxRecDepth 65536 in
theorem w_room : about1.hasRoom e0.platform room_1 = true :=
  launch0.hasRoom_least _ room_1 (by decide +kernel) (by decide +kernel) (by decide +kernel) (by decide +kernel) (by decide +kernel) (by decide +kernel)
theorem allAtoms_all (ts : List Jvm.Cond) (a : Array Jvm.Value) (st : Jvm.State) : (allAtoms ts).before a st = ts.all (fun c => c.before a st) := by
  induction ts with
  | nil => rfl
  | cons c t ih =>
    show (Jvm.Cond.and c (allAtoms t)).before a st = _
    rw [Jvm.Cond.before_and, ih, List.all_cons]
def words1 : List Jvm.Cond := Jvm.Cond.code x code maxLocals ret :: tables_1
/-- a 'code' word, met by the world's own term for the bytes: nothing is compared byte by byte -/
theorem code_word {y : MethodName} {bytes : ByteArray} {mx : Nat} {rt : Option FieldType} {a : Array Value} {s : State} {m : MethodId} {meth : Method} {c : Code} (h1 : s.methodNamed? y = some m) (h2 : s.vm.method? m = some meth) (h3 : meth.code = some c) (h4 : c.code = bytes)
    (h5 : (c.maxLocals == mx && c.exceptionTable.isEmpty && decide (c.maxStack ≤ mostOperands) && decide (meth.sig.returnType = rt) && !meth.locks && decide (parseMethodDescriptor y.desc = some meth.sig)) = true) : (Jvm.Cond.code y bytes mx rt).before a s = true := by
  simp only [Bool.and_eq_true, beq_iff_eq, Bool.not_eq_true', decide_eq_true_eq] at h5
  obtain ⟨⟨⟨⟨⟨g1, g2⟩, g3⟩, g4⟩, g5⟩, g6⟩ := h5
  simp [Cond.before, Cond.holds, Cond.value, h1, h2, h3, h4, g1, g2, g3, g4, g5, g6]
def isCode : Jvm.Cond → Bool
  | .code _ _ _ _ => true
  | _ => false
theorem all_split {L : List Jvm.Cond} {P : Jvm.Cond → Bool} (h1 : L.all (fun c => isCode c || P c) = true) (h2 : ∀ c ∈ L.filter isCode, P c = true) : L.all P = true := by
  refine List.all_eq_true.mpr fun c hc => ?_
  have h := List.all_eq_true.mp h1 c hc
  rcases Bool.eq_false_or_eq_true (isCode c) with hi | hi
  · exact h2 c (List.mem_filter.mpr ⟨hc, hi⟩)
  · simpa [hi] using h
set_option maxRecDepth 65536 in
theorem w_c0 : (Jvm.Cond.code x code maxLocals ret).before args0 about1 = true := code_word (m := ⟨1, 2⟩) (meth := k1m2) (c := k1c2) (by decide +kernel) rfl rfl rfl (by decide +kernel)
set_option maxRecDepth 65536 in
theorem w_c1 : (Jvm.Cond.code ({ cls := "com/example/riffle/riffle/RowFormatReadVarintPinLaw", name := "group", desc := "(III)B" } : Jvm.MethodName) method_2_code (4 : Nat) (Option.some Jvm.ClassFile.FieldType.byte)).before args0 about1 = true := code_word (m := ⟨1, 1⟩) (meth := k1m1) (c := k1c1) (by decide +kernel) rfl rfl rfl (by decide +kernel)
set_option maxRecDepth 65536 in
theorem w_c2 : (Jvm.Cond.code ({ cls := "com/example/riffle/riffle/RowFormat", name := "readVarint", desc := "([BI)I" } : Jvm.MethodName) prog_41_method_17_code (7 : Nat) (Option.some Jvm.ClassFile.FieldType.int)).before args0 about1 = true := code_word (m := ⟨2, 0⟩) (meth := k2m0) (c := k2c0) (by decide +kernel) rfl rfl rfl (by decide +kernel)
def codes1 : List Jvm.Cond := [Jvm.Cond.code x code maxLocals ret, Jvm.Cond.code ({ cls := "com/example/riffle/riffle/RowFormatReadVarintPinLaw", name := "group", desc := "(III)B" } : Jvm.MethodName) method_2_code (4 : Nat) (Option.some Jvm.ClassFile.FieldType.byte), Jvm.Cond.code ({ cls := "com/example/riffle/riffle/RowFormat", name := "readVarint", desc := "([BI)I" } : Jvm.MethodName) prog_41_method_17_code (7 : Nat) (Option.some Jvm.ClassFile.FieldType.int)]
set_option maxRecDepth 65536 in
theorem codes_eq : words1.filter isCode = codes1 := rfl
theorem w_codes : ∀ c ∈ words1.filter isCode, c.before args0 about1 = true := by
  rw [codes_eq]
  intro c hc
  simp only [codes1, List.mem_cons, List.not_mem_nil, or_false] at hc
  rcases hc with rfl | rfl | rfl
  · exact w_c0
  · exact w_c1
  · exact w_c2
set_option maxRecDepth 65536 in
theorem w_t1 : words1.all (fun c => isCode c || c.before args0 about1) = true := by decide +kernel
theorem w_tables : (allAtoms (Jvm.Cond.code x code maxLocals ret :: tables_1)).before args0 about1 = true := by
  rw [allAtoms_all]
  show words1.all (fun c => c.before args0 about1) = true
  refine all_split ?_ w_codes
  rw [w_t1]
set_option maxRecDepth 65536 in
theorem w_case : (Jvm.Cond.and given_1 narrow_1).before args0 about1 = true := by decide +kernel
theorem w_applies : (headSpec (Jvm.Cond.code x code maxLocals ret :: tables_1) room_1).applies x e0.platform about1 = true :=
  (Spec.applies_iff w_frames).mpr ⟨w_running, w_runnable, w_alone, w_named, w_hears, w_ripe, w_room, w_tables⟩
theorem atStart : AtStart classFile x code maxLocals ret World_1 tables_1 room_1 Calls_1 rest_1 Pre_1 launch0 p0 e0 about1 theMethod args0 below0 :=
  ⟨lists_1, trivial, launch0.admits_env _ _ _, launch0.least_env, fairChoices_fair.cas, fairChoices_fair.clock, w_frames, w_args, w_heap, w_applies, trivial, trivial, w_case⟩
end start1
theorem witness_1 : WitnessClaimed_1 := ⟨start1.p0, start1.e0, start1.about1, start1.theMethod, start1.args0, start1.below0, start1.atStart⟩
end Jvm.Pilot.@@N@@
