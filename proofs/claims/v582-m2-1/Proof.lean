import JvmDerived
import JvmDerived.Pilot.@@N@@Statement
import JvmDerived.Pilot.@@N@@Code
set_option linter.unusedVariables false
set_option linter.unusedSimpArgs false
@@BLOCK:NumsL.lean.txt@@
namespace Jvm.RoadKit
open Sem ClassFile Op Lib Jvm.Stand Jvm.Free Jvm.LawKit
section New
variable {p : Program} {l : Launch} {e : Env} {R : Room} {s : State} {m : MethodId} {args : Array Value} {below : List Frame} {meth : Method} {c : Code} {T : State} {locs : List Loc} {cells slots : Nat}
theorem retI (X : Stand p l e R s m args below meth c T locs cells slots) (hx : p.tables.exec = Jvm.exec) {pc : Nat} {Ls : Array Slot} {z : Int32} {rest : List Value} (hret : meth.sig.returnType = some .int) (hd : decode c.code pc = .ok (.ireturn, 1)) {fs : List Frame}
    (hl : ∀ (f : JFrame) (acts : List Action), f.method = m → f.locked = none → f.entered = [] → (doReturn e (T.setTop f) acts (some (.int z))).1 = T.setFrames fs) : Steps p.tables e below (T.setTop (mkF m pc Ls (.int z :: rest))) (T.setFrames fs) := by
  have hm' : T.vm.method? m = some meth := X.method'
  have hn : narrow .int (.int z) = .int z := rfl
  show Steps p.tables e below (T.setTop { method := m, pc := pc, locals := Ls, stack := _ :: rest, locked := none }) _
  jvm_step X.here [X.here.top, hx, hd, hm', hret, hn]
  first | (intro acts; rw [hl _ acts rfl rfl rfl]) | rw [hl _ _ rfl rfl rfl]
  exact Steps.refl _
end New
end Jvm.RoadKit
/-! OwnRun: plain steps by evaluation. 'wpo' runs the plain instructions (loads, stores of locals, arithmetic, branches) of a body as a word on what it reaches; 'runo' says that the machine follows. -/
namespace Jvm.OwnRun
open Sem ClassFile Op Lib Jvm.Stand Jvm.Free Jvm.LawKit Jvm.RoadKit
def lget : List Slot → Nat → Option Slot
  | [], _ => none
  | a :: _, 0 => some a
  | _ :: t, n + 1 => lget t n
def lput : List Slot → Nat → Slot → List Slot
  | [], _, _ => []
  | _ :: t, 0, v => v :: t
  | a :: t, n + 1, v => a :: lput t n v
theorem lget_z (a : Slot) (t : List Slot) : lget (a :: t) 0 = some a := rfl
theorem lget_s (a : Slot) (t : List Slot) (n : Nat) : lget (a :: t) (n + 1) = lget t n := rfl
theorem lput_z (a : Slot) (t : List Slot) (v : Slot) : lput (a :: t) 0 v = v :: t := rfl
theorem lput_s (a : Slot) (t : List Slot) (n : Nat) (v : Slot) : lput (a :: t) (n + 1) v = a :: lput t n v := rfl
theorem lget_eq : ∀ (L : List Slot) (k : Nat), lget L k = L[k]?
  | [], _ => by simp [lget]
  | _ :: _, 0 => rfl
  | a :: t, n + 1 => by rw [lget_s, lget_eq t n, List.getElem?_cons_succ]
theorem lput_eq : ∀ (L : List Slot) (k : Nat) (v : Slot), lput L k v = L.set k v
  | [], _, _ => by simp [lput]
  | _ :: _, 0, _ => rfl
  | a :: t, n + 1, v => by rw [lput_s, lput_eq t n v, List.set_cons_succ]
theorem arr_get {L : List Slot} {k : Nat} {o : Slot} (h : lget L k = some o) : L.toArray[k]? = some o := by
  rw [lget_eq] at h; simpa using h
theorem arr_put (L : List Slot) (k : Nat) (v : Slot) : L.toArray.setIfInBounds k v = (lput L k v).toArray := by
  rw [lput_eq]; simp
/-- a store of one word, over nothing or over one word -/
def one : Option Slot → Bool
  | some .unset => true
  | some (.val (.int _)) => true
  | some (.val (.ref _)) => true
  | some (.val .null) => true
  | _ => false
def st1 (L : List Slot) (k : Nat) (v : Value) (F : List Slot → α) (d : α) : α := bif one (lget L k) then F (lput L k (.val v)) else d
/-- a store of two words, over nothing or over a long -/
def two : Option Slot → Option Slot → Bool
  | some .unset, some .unset => true
  | some (.val (.long _)), some .second => true
  | _, _ => false
def st2 (L : List Slot) (k : Nat) (v : Int64) (F : List Slot → α) (d : α) : α := bif two (lget L k) (lget L (k + 1)) then F (lput (lput L k (.val (.long v))) (k + 1) .second) else d
theorem one_unset : one (some .unset) = true := rfl
theorem one_int (v : Int32) : one (some (.val (.int v))) = true := rfl
theorem one_ref (v : Addr) : one (some (.val (.ref v))) = true := rfl
theorem two_unset : two (some .unset) (some .unset) = true := rfl
theorem two_long (v : Int64) : two (some (.val (.long v))) (some .second) = true := rfl
theorem one_e {o : Option Slot} (h : one o = true) : ∃ w, o = some w ∧ (w = .unset ∨ ∃ v, w = .val v ∧ v.category = 1) := by
  match o, h with
  | some .unset, _ => exact ⟨_, rfl, Or.inl rfl⟩
  | some (.val (.int v)), _ => exact ⟨_, rfl, Or.inr ⟨_, rfl, rfl⟩⟩
  | some (.val (.ref v)), _ => exact ⟨_, rfl, Or.inr ⟨_, rfl, rfl⟩⟩
  | some (.val .null), _ => exact ⟨_, rfl, Or.inr ⟨_, rfl, rfl⟩⟩
theorem store_one {L : List Slot} {k : Nat} {v : Value} (h : one (lget L k) = true) (hv : v.category = 1) : storeLocals L.toArray k v = some (lput L k (.val v)).toArray := by
  obtain ⟨w, hw, ho⟩ := one_e h
  rw [XS.store1 (arr_get hw) ho hv, arr_put]
theorem store_two {L : List Slot} {k : Nat} {v : Int64} (h : two (lget L k) (lget L (k + 1)) = true) : storeLocals L.toArray k (.long v) = some (lput (lput L k (.val (.long v))) (k + 1) .second).toArray := by
  match h0 : lget L k, h1 : lget L (k + 1), h with
  | some .unset, some .unset, _ => rw [Fl.storeLocals_cat2 (arr_get h0) (arr_get h1) rfl (Or.inl ⟨trivial, trivial⟩), arr_put, arr_put]
  | some (.val (.long w)), some .second, _ => rw [Fl.storeLocals_cat2 (arr_get h0) (arr_get h1) rfl (Or.inr ⟨⟨_, rfl, rfl⟩, rfl⟩), arr_put, arr_put]
/-- Java's x >>> y on ints and longs -/
def oushr (x y : Int32) : Int32 := (x.toUInt32 >>> (y &&& 31).toUInt32).toInt32
def oushrL (x : Int64) (y : Int32) : Int64 := (x.toUInt64 >>> (y &&& 0x3f).toInt64.toUInt64).toInt64
def oshlL (x : Int64) (y : Int32) : Int64 := x <<< (y &&& 0x3f).toInt64
def oshl (x y : Int32) : Int32 := x <<< (y &&& 31)
def oshr (x y : Int32) : Int32 := x >>> (y &&& 31)
/-- what a comparison asks -/
def cnd : ClassFile.Cond → Int32 → Int32 → Prop
  | .eq, x, y => x = y
  | .ne, x, y => ¬ x = y
  | .lt, x, y => x < y
  | .ge, x, y => ¬ x < y
  | .gt, x, y => y < x
  | .le, x, y => ¬ y < x
def cndL : ClassFile.Cond → Int64 → Int64 → Prop
  | .eq, x, y => x = y
  | .ne, x, y => ¬ x = y
  | .lt, x, y => x < y
  | .ge, x, y => ¬ x < y
  | .gt, x, y => y < x
  | .le, x, y => ¬ y < x
theorem cnd_t {cd : ClassFile.Cond} {x y : Int32} (h : cnd cd x y) : if_icmp.holds cd x y = true := by
  cases cd
  · exact (teq h).1
  · exact (feq h).2
  · exact (tlt h).1
  · exact (flt h).2.1
  · exact (tlt h).2.2.1
  · exact (flt h).2.2.2
theorem cnd_f {cd : ClassFile.Cond} {x y : Int32} (h : ¬ cnd cd x y) : if_icmp.holds cd x y = false := by
  cases cd
  · exact (feq h).1
  · exact (teq (Decidable.of_not_not h)).2
  · exact (flt h).1
  · exact (tlt (Decidable.of_not_not h)).2.1
  · exact (flt h).2.2.1
  · exact (tlt (Decidable.of_not_not h)).2.2.2
theorem cndL_t {cd : ClassFile.Cond} {x y : Int64} (h : cndL cd x y) : ifCond.holds cd (XT.cmpL x y) = true := by
  cases cd
  · exact XT.ll_eq_t h
  · exact XT.ll_ne_t h
  · exact XT.ll_lt_t h
  · exact XT.ll_ge_t h
  · exact XT.ll_gt_t h
  · exact XT.ll_le_t h
theorem cndL_f {cd : ClassFile.Cond} {x y : Int64} (h : ¬ cndL cd x y) : ifCond.holds cd (XT.cmpL x y) = false := by
  cases cd
  · exact XT.ll_eq_f h
  · exact XT.ll_ne_f (Decidable.of_not_not h)
  · exact XT.ll_lt_f h
  · exact XT.ll_ge_f (Decidable.of_not_not h)
  · exact XT.ll_gt_f h
  · exact XT.ll_le_f (Decidable.of_not_not h)
/-- where one step leads: on, under a condition; or two ways -/
abbrev Rs := Option (Sum (Prop × Nat × List Slot × List Value) (Prop × Nat × Nat × List Slot × List Value))
def go (pc : Nat) (L : List Slot) (st : List Value) : Rs := some (.inl (True, pc, L, st))
def goIf (ob : Prop) (pc : Nat) (L : List Slot) (st : List Value) : Rs := some (.inl (ob, pc, L, st))
def fork (c : Prop) (a b : Nat) (L : List Slot) (st : List Value) : Rs := some (.inr (c, a, b, L, st))
def chk (a b : Nat) (r : Rs) : Rs := bif a == b then r else none
def tgt (pc : Nat) (o : Int) : Nat := ((pc : Int) + o).toNat
def okO (pc : Nat) (o : Int) (r : Rs) : Rs := if 0 ≤ (pc : Int) + o then r else none
def gI (o : Option Slot) (F : Int32 → Rs) : Rs := match o with | some (.val (.int v)) => F v | _ => none
def gJ (o : Option Slot) (F : Int64 → Rs) : Rs := match o with | some (.val (.long v)) => F v | _ => none
def gA (o : Option Slot) (F : Value → Rs) : Rs := match o with | some (.val (.ref v)) => F (.ref v) | some (.val .null) => F .null | _ => none
def pI (st : List Value) (F : Int32 → List Value → Rs) : Rs := match st with | .int x :: r => F x r | _ => none
def pJ (st : List Value) (F : Int64 → List Value → Rs) : Rs := match st with | .long x :: r => F x r | _ => none
def pA (st : List Value) (F : Value → List Value → Rs) : Rs := match st with | .ref x :: r => F (.ref x) r | .null :: r => F .null r | _ => none
def p1 (st : List Value) (F : Value → List Value → Rs) : Rs := match st with | .ref x :: r => F (.ref x) r | .null :: r => F .null r | .int x :: r => F (.int x) r | _ => none
def pII (st : List Value) (F : Int32 → Int32 → List Value → Rs) : Rs := match st with | .int y :: .int x :: r => F x y r | _ => none
def pJJ (st : List Value) (F : Int64 → Int64 → List Value → Rs) : Rs := match st with | .long y :: .long x :: r => F x y r | _ => none
def pJI (st : List Value) (F : Int64 → Int32 → List Value → Rs) : Rs := match st with | .int y :: .long x :: r => F x y r | _ => none
def fnd : List (Nat × α) → Nat → Option α
  | [], _ => none
  | q :: t, k => bif q.1 == k then some q.2 else fnd t k
def gC (o : Option α) (F : α → Rs) : Rs := match o with | some v => F v | none => none
def gB (d : Except ClassFile.DecodeError (Instr × Nat)) (F : ClassFile.Cond → Int → Rs) : Rs := match d with | .ok (.ifCond cd o, 3) => F cd o | _ => none
def nx (code : ByteArray) (ci : List (Nat × Int32)) (cj : List (Nat × Int64)) (i : Instr) (len pc : Nat) (L : List Slot) (st : List Value) : Rs :=
  match i with
  | .iload k => chk len 2 (gI (lget L k) fun v => go (pc + 2) L (.int v :: st))
  | .iload_n k => chk len 1 (gI (lget L k.val) fun v => go (pc + 1) L (.int v :: st))
  | .lload k => chk len 2 (gJ (lget L k) fun v => go (pc + 2) L (.long v :: st))
  | .lload_n k => chk len 1 (gJ (lget L k.val) fun v => go (pc + 1) L (.long v :: st))
  | .aload k => chk len 2 (gA (lget L k) fun v => go (pc + 2) L (v :: st))
  | .aload_n k => chk len 1 (gA (lget L k.val) fun v => go (pc + 1) L (v :: st))
  | .istore k => chk len 2 (pI st fun x r => st1 L k (.int x) (fun L' => go (pc + 2) L' r) none)
  | .istore_n k => chk len 1 (pI st fun x r => st1 L k.val (.int x) (fun L' => go (pc + 1) L' r) none)
  | .lstore k => chk len 2 (pJ st fun x r => st2 L k x (fun L' => go (pc + 2) L' r) none)
  | .lstore_n k => chk len 1 (pJ st fun x r => st2 L k.val x (fun L' => go (pc + 1) L' r) none)
  | .astore k => chk len 2 (pA st fun x r => st1 L k x (fun L' => go (pc + 2) L' r) none)
  | .astore_n k => chk len 1 (pA st fun x r => st1 L k.val x (fun L' => go (pc + 1) L' r) none)
  | .iconst i => chk len 1 (go (pc + 1) L (.int (Int32.ofInt i) :: st))
  | .lconst k => chk len 1 (go (pc + 1) L (.long (Int64.ofNat k) :: st))
  | .bipush i => chk len 2 (go (pc + 2) L (.int (Int8.ofInt i).toInt32 :: st))
  | .sipush i => chk len 3 (go (pc + 3) L (.int (Int16.ofInt i).toInt32 :: st))
  | .ldc k => chk len 2 (gC (fnd ci k) fun v => go (pc + 2) L (.int v :: st))
  | .ldc2_w k => chk len 3 (gC (fnd cj k) fun v => go (pc + 3) L (.long v :: st))
  | .iadd => chk len 1 (pII st fun x y r => go (pc + 1) L (.int (x + y) :: r))
  | .isub => chk len 1 (pII st fun x y r => go (pc + 1) L (.int (x - y) :: r))
  | .imul => chk len 1 (pII st fun x y r => go (pc + 1) L (.int (x * y) :: r))
  | .idiv => chk len 1 (pII st fun x y r => goIf (y ≠ 0) (pc + 1) L (.int (x / y) :: r))
  | .irem => chk len 1 (pII st fun x y r => goIf (y ≠ 0) (pc + 1) L (.int (x - (x / y) * y) :: r))
  | .iand => chk len 1 (pII st fun x y r => go (pc + 1) L (.int (x &&& y) :: r))
  | .ior => chk len 1 (pII st fun x y r => go (pc + 1) L (.int (x ||| y) :: r))
  | .ixor => chk len 1 (pII st fun x y r => go (pc + 1) L (.int (x ^^^ y) :: r))
  | .ishl => chk len 1 (pII st fun x y r => go (pc + 1) L (.int (oshl x y) :: r))
  | .ishr => chk len 1 (pII st fun x y r => go (pc + 1) L (.int (oshr x y) :: r))
  | .iushr => chk len 1 (pII st fun x y r => go (pc + 1) L (.int (oushr x y) :: r))
  | .ladd => chk len 1 (pJJ st fun x y r => go (pc + 1) L (.long (x + y) :: r))
  | .lsub => chk len 1 (pJJ st fun x y r => go (pc + 1) L (.long (x - y) :: r))
  | .lmul => chk len 1 (pJJ st fun x y r => go (pc + 1) L (.long (x * y) :: r))
  | .ldiv => chk len 1 (pJJ st fun x y r => goIf (y ≠ 0) (pc + 1) L (.long (x / y) :: r))
  | .lrem => chk len 1 (pJJ st fun x y r => goIf (y ≠ 0) (pc + 1) L (.long (x - (x / y) * y) :: r))
  | .land => chk len 1 (pJJ st fun x y r => go (pc + 1) L (.long (x &&& y) :: r))
  | .lor => chk len 1 (pJJ st fun x y r => go (pc + 1) L (.long (x ||| y) :: r))
  | .lxor => chk len 1 (pJJ st fun x y r => go (pc + 1) L (.long (x ^^^ y) :: r))
  | .lshl => chk len 1 (pJI st fun x y r => go (pc + 1) L (.long (oshlL x y) :: r))
  | .lushr => chk len 1 (pJI st fun x y r => go (pc + 1) L (.long (oushrL x y) :: r))
  | .i2l => chk len 1 (pI st fun x r => go (pc + 1) L (.long x.toInt64 :: r))
  | .l2i => chk len 1 (pJ st fun x r => go (pc + 1) L (.int x.toInt32 :: r))
  | .i2b => chk len 1 (pI st fun x r => go (pc + 1) L (.int x.toInt8.toInt32 :: r))
  | .i2c => chk len 1 (pI st fun x r => go (pc + 1) L (.int x.toUInt32.toUInt16.toUInt32.toInt32 :: r))
  | .iinc k cst => chk len 3 (gI (lget L k) fun x => st1 L k (.int (x + Int32.ofInt cst)) (fun L' => go (pc + 3) L' st) none)
  | .goto o => chk len 3 (okO pc o (go (tgt pc o) L st))
  | .ifCond cd o => chk len 3 (okO pc o (pI st fun x r => fork (cnd cd x 0) (tgt pc o) (pc + 3) L r))
  | .if_icmp cd o => chk len 3 (okO pc o (pII st fun x y r => fork (cnd cd x y) (tgt pc o) (pc + 3) L r))
  | .lcmp => chk len 1 (pJJ st fun x y r => gB (decode code (pc + 1)) fun cd o => okO (pc + 1) o (fork (cndL cd x y) (tgt (pc + 1) o) (pc + 4) L r))
  | .dup => chk len 1 (p1 st fun x r => go (pc + 1) L (x :: x :: r))
  | .pop => chk len 1 (p1 st fun _ r => go (pc + 1) L r)
  | _ => none
def nxt (code : ByteArray) (ci : List (Nat × Int32)) (cj : List (Nat × Int64)) (pc : Nat) (L : List Slot) (st : List Value) : Rs :=
  match decode code pc with
  | .ok r => nx code ci cj r.1 r.2 pc L st
  | .error _ => none
def stopAt : List Nat → Nat → Prop → Prop → Prop
  | [], _, _, B => B
  | k :: t, pc, A, B => bif k == pc then A else stopAt t pc A B
def wpo (code : ByteArray) (ci : List (Nat × Int32)) (cj : List (Nat × Int64)) (stops : List Nat) : Nat → Nat → List Slot → List Value → (Nat → List Slot → List Value → Prop) → Prop
  | 0, pc, L, st, K => K pc L st
  | n + 1, pc, L, st, K =>
    match nxt code ci cj pc L st with
    | none => K pc L st
    | some (.inl (ob, a, L', st')) => ob ∧ stopAt stops a (K a L' st') (wpo code ci cj stops n a L' st' K)
    | some (.inr (c, a, b, L', st')) => (c → stopAt stops a (K a L' st') (wpo code ci cj stops n a L' st' K)) ∧ (¬ c → stopAt stops b (K b L' st') (wpo code ci cj stops n b L' st' K))
/-! what a step's answer means -/
def Snd (P : Nat → List Slot → List Value → Prop) (pc : Nat) (L : List Slot) (st : List Value) : Rs → Prop
  | none => True
  | some (.inl (ob, a, L', st')) => ob → P a L' st' → P pc L st
  | some (.inr (c, a, b, L', st')) => (c → P a L' st' → P pc L st) ∧ (¬ c → P b L' st' → P pc L st)
section
variable {P : Nat → List Slot → List Value → Prop} {pc : Nat} {L : List Slot} {st : List Value}
theorem s_chk {a b : Nat} {r : Rs} (h : a = b → Snd P pc L st r) : Snd P pc L st (chk a b r) := by
  unfold chk
  cases e : (a == b)
  · exact trivial
  · exact h (eq_of_beq e)
theorem s_okO {o : Int} {q : Nat} {r : Rs} (h : 0 ≤ (q : Int) + o → Snd P pc L st r) : Snd P pc L st (okO q o r) := by
  unfold okO
  by_cases e : 0 ≤ (q : Int) + o
  · rw [if_pos e]; exact h e
  · rw [if_neg e]; exact trivial
theorem s_gI {o : Option Slot} {F : Int32 → Rs} (h : ∀ v, o = some (.val (.int v)) → Snd P pc L st (F v)) : Snd P pc L st (gI o F) := by
  unfold gI; split
  · exact h _ rfl
  · exact trivial
theorem s_gJ {o : Option Slot} {F : Int64 → Rs} (h : ∀ v, o = some (.val (.long v)) → Snd P pc L st (F v)) : Snd P pc L st (gJ o F) := by
  unfold gJ; split
  · exact h _ rfl
  · exact trivial
theorem s_gA {o : Option Slot} {F : Value → Rs} (h : ∀ v, o = some (.val v) → v.isRef = true → Snd P pc L st (F v)) : Snd P pc L st (gA o F) := by
  unfold gA; split
  · exact h _ rfl rfl
  · exact h _ rfl rfl
  · exact trivial
theorem s_pI {F : Int32 → List Value → Rs} (h : ∀ x r, st = .int x :: r → Snd P pc L st (F x r)) : Snd P pc L st (pI st F) := by
  unfold pI; split
  · exact h _ _ rfl
  · exact trivial
theorem s_pJ {F : Int64 → List Value → Rs} (h : ∀ x r, st = .long x :: r → Snd P pc L st (F x r)) : Snd P pc L st (pJ st F) := by
  unfold pJ; split
  · exact h _ _ rfl
  · exact trivial
theorem s_pA {F : Value → List Value → Rs} (h : ∀ x r, st = x :: r → x.isRef = true → x.category = 1 → Snd P pc L st (F x r)) : Snd P pc L st (pA st F) := by
  unfold pA; split
  · exact h _ _ rfl rfl rfl
  · exact h _ _ rfl rfl rfl
  · exact trivial
theorem s_p1 {F : Value → List Value → Rs} (h : ∀ x r, st = x :: r → x.category = 1 → Snd P pc L st (F x r)) : Snd P pc L st (p1 st F) := by
  unfold p1; split
  · exact h _ _ rfl rfl
  · exact h _ _ rfl rfl
  · exact h _ _ rfl rfl
  · exact trivial
theorem s_pII {F : Int32 → Int32 → List Value → Rs} (h : ∀ x y r, st = .int y :: .int x :: r → Snd P pc L st (F x y r)) : Snd P pc L st (pII st F) := by
  unfold pII; split
  · exact h _ _ _ rfl
  · exact trivial
theorem s_pJJ {F : Int64 → Int64 → List Value → Rs} (h : ∀ x y r, st = .long y :: .long x :: r → Snd P pc L st (F x y r)) : Snd P pc L st (pJJ st F) := by
  unfold pJJ; split
  · exact h _ _ _ rfl
  · exact trivial
theorem s_pJI {F : Int64 → Int32 → List Value → Rs} (h : ∀ x y r, st = .int y :: .long x :: r → Snd P pc L st (F x y r)) : Snd P pc L st (pJI st F) := by
  unfold pJI; split
  · exact h _ _ _ rfl
  · exact trivial
theorem s_st1 {L0 : List Slot} {k : Nat} {v : Value} {F : List Slot → Rs} (hv : v.category = 1) (h : ∀ L', storeLocals L0.toArray k v = some L'.toArray → Snd P pc L st (F L')) : Snd P pc L st (st1 L0 k v F none) := by
  unfold st1
  cases e : one (lget L0 k)
  · exact trivial
  · exact h _ (store_one e hv)
theorem s_st2 {L0 : List Slot} {k : Nat} {v : Int64} {F : List Slot → Rs} (h : ∀ L', storeLocals L0.toArray k (.long v) = some L'.toArray → Snd P pc L st (F L')) : Snd P pc L st (st2 L0 k v F none) := by
  unfold st2
  cases e : two (lget L0 k) (lget L0 (k + 1))
  · exact trivial
  · exact h _ (store_two e)
theorem s_gC {o : Option α} {F : α → Rs} (h : ∀ v, o = some v → Snd P pc L st (F v)) : Snd P pc L st (gC o F) := by
  unfold gC; split
  · exact h _ rfl
  · exact trivial
theorem s_gB {d : Except ClassFile.DecodeError (Instr × Nat)} {F : ClassFile.Cond → Int → Rs} (h : ∀ cd o, d = .ok (.ifCond cd o, 3) → Snd P pc L st (F cd o)) : Snd P pc L st (gB d F) := by
  unfold gB; split
  · exact h _ _ rfl
  · exact trivial
end
theorem fnd_mem : ∀ {l : List (Nat × α)} {k : Nat} {v : α}, fnd l k = some v → (k, v) ∈ l
  | [], _, _, h => nomatch h
  | (j, w) :: t, k, v, h => by
    unfold fnd at h
    cases e : (j == k)
    · rw [e] at h; exact List.mem_cons_of_mem _ (fnd_mem h)
    · rw [e] at h
      cases Option.some.inj h
      cases eq_of_beq e
      exact List.mem_cons_self ..
section
variable {p : Program} {l : Launch} {e : Env} {R : Room} {s : State} {m : MethodId} {args : Array Value} {below : List Frame} {meth : Method} {c : Code} {T : State} {locs : List Loc} {cells slots : Nat} {code : ByteArray} {ci : List (Nat × Int32)} {cj : List (Nat × Int64)} {own : String}
theorem nx_ok (X : Stand p l e R s m args below meth c T locs cells slots) (hx : p.tables.exec = Jvm.exec) (hby : c.code = code) (hown : s.vm.findClass own = some m.cls) (hci : ∀ q ∈ ci, (Jvm.Cond.constant own q.1 q.2).before args s = true) (hcj : ∀ q ∈ cj, (Jvm.Cond.constantLong own q.1 q.2).before args s = true)
    (target : State) (i : Instr) (len pc : Nat) (L : List Slot) (st : List Value) (hd : decode c.code pc = .ok (i, len)) :
    Snd (fun pc L st => Steps p.tables e below (T.setTop (mkF m pc L.toArray st)) target) pc L st (nx code ci cj i len pc L st) := by
  cases i
  case iload k => exact s_chk fun q => s_gI fun v hv => fun _ h => XS.iload X.here hx rfl (q ▸ hd) (arr_get hv) h
  case iload_n k => exact s_chk fun q => s_gI fun v hv => fun _ h => XS.iloadN X.here hx rfl (q ▸ hd) (arr_get hv) h
  case lload k => exact s_chk fun q => s_gJ fun v hv => fun _ h => XS.lload X.here hx rfl (q ▸ hd) (arr_get hv) h
  case lload_n k => exact s_chk fun q => s_gJ fun v hv => fun _ h => XS.lloadN X.here hx rfl (q ▸ hd) (arr_get hv) h
  case aload k => exact s_chk fun q => s_gA fun v hv hr => fun _ h => XS.aload X.here hx rfl (q ▸ hd) (arr_get hv) hr h
  case aload_n k => exact s_chk fun q => s_gA fun v hv hr => fun _ h => XS.aloadN X.here hx rfl (q ▸ hd) (arr_get hv) hr h
  case istore k => exact s_chk fun q => s_pI fun x r hs => s_st1 rfl fun L' hl => fun _ h => XS.istore X.here hx rfl (q ▸ hd) hs hl h
  case istore_n k => exact s_chk fun q => s_pI fun x r hs => s_st1 rfl fun L' hl => fun _ h => XS.istoreN X.here hx rfl (q ▸ hd) hs hl h
  case lstore k => exact s_chk fun q => s_pJ fun x r hs => s_st2 fun L' hl => fun _ h => XS.lstore X.here hx rfl (q ▸ hd) hs hl h
  case lstore_n k => exact s_chk fun q => s_pJ fun x r hs => s_st2 fun L' hl => fun _ h => XS.lstoreN X.here hx rfl (q ▸ hd) hs hl h
  case astore k => exact s_chk fun q => s_pA fun x r hs hr hc => s_st1 hc fun L' hl => fun _ h => XS.astore X.here hx rfl (q ▸ hd) hs hr hl h
  case astore_n k => exact s_chk fun q => s_pA fun x r hs hr hc => s_st1 hc fun L' hl => fun _ h => XS.astoreN X.here hx rfl (q ▸ hd) hs hr hl h
  case iconst i => exact s_chk fun q => fun _ h => XS.iconst X.here hx rfl (q ▸ hd) h
  case lconst k => exact s_chk fun q => fun _ h => XS.lconst X.here hx rfl (q ▸ hd) h
  case bipush i => exact s_chk fun q => fun _ h => XS.bipush X.here hx rfl (q ▸ hd) h
  case sipush i => exact s_chk fun q => fun _ h => XS.sipush X.here hx rfl (q ▸ hd) h
  case ldc k => exact s_chk fun q => s_gC fun v hv => fun _ h => X.ldcI hx hown (hci _ (fnd_mem hv)) rfl (q ▸ hd) h
  case ldc2_w k => exact s_chk fun q => s_gC fun v hv => fun _ h => X.ldc2J hx hown (hcj _ (fnd_mem hv)) rfl (q ▸ hd) h
  case iadd => exact s_chk fun q => s_pII fun x y r hs => fun _ h => XS.iadd X.here hx rfl (q ▸ hd) hs h
  case isub => exact s_chk fun q => s_pII fun x y r hs => fun _ h => XS.isub X.here hx rfl (q ▸ hd) hs h
  case imul => exact s_chk fun q => s_pII fun x y r hs => fun _ h => XS.imul X.here hx rfl (q ▸ hd) hs h
  case idiv => exact s_chk fun q => s_pII fun x y r hs => fun hy h => XS.idiv X.here hx rfl (q ▸ hd) hs hy h
  case irem => exact s_chk fun q => s_pII fun x y r hs => fun hy h => XS.irem X.here hx rfl (q ▸ hd) hs hy h
  case iand => exact s_chk fun q => s_pII fun x y r hs => fun _ h => XS.iand X.here hx rfl (q ▸ hd) hs h
  case ior => exact s_chk fun q => s_pII fun x y r hs => fun _ h => XS.ior X.here hx rfl (q ▸ hd) hs h
  case ixor => exact s_chk fun q => s_pII fun x y r hs => fun _ h => XS.ixor X.here hx rfl (q ▸ hd) hs h
  case ishl => exact s_chk fun q => s_pII fun x y r hs => fun _ h => XS.ishl X.here hx rfl (q ▸ hd) hs h
  case ishr => exact s_chk fun q => s_pII fun x y r hs => fun _ h => XS.ishr X.here hx rfl (q ▸ hd) hs h
  case iushr => exact s_chk fun q => s_pII fun x y r hs => fun _ h => XS.iushr X.here hx rfl (q ▸ hd) hs h
  case ladd => exact s_chk fun q => s_pJJ fun x y r hs => fun _ h => XS.ladd X.here hx rfl (q ▸ hd) hs h
  case lsub => exact s_chk fun q => s_pJJ fun x y r hs => fun _ h => XS.lsub X.here hx rfl (q ▸ hd) hs h
  case lmul => exact s_chk fun q => s_pJJ fun x y r hs => fun _ h => XS.lmul X.here hx rfl (q ▸ hd) hs h
  case ldiv => exact s_chk fun q => s_pJJ fun x y r hs => fun hy h => XS.ldiv X.here hx rfl (q ▸ hd) hs hy h
  case lrem => exact s_chk fun q => s_pJJ fun x y r hs => fun hy h => XS.lrem X.here hx rfl (q ▸ hd) hs hy h
  case land => exact s_chk fun q => s_pJJ fun x y r hs => fun _ h => XS.land X.here hx rfl (q ▸ hd) hs h
  case lor => exact s_chk fun q => s_pJJ fun x y r hs => fun _ h => XS.lor X.here hx rfl (q ▸ hd) hs h
  case lxor => exact s_chk fun q => s_pJJ fun x y r hs => fun _ h => XS.lxor X.here hx rfl (q ▸ hd) hs h
  case lshl => exact s_chk fun q => s_pJI fun x y r hs => fun _ h => XS.lshl X.here hx rfl (q ▸ hd) hs h
  case lushr => exact s_chk fun q => s_pJI fun x y r hs => fun _ h => XS.lushr X.here hx rfl (q ▸ hd) hs h
  case i2l => exact s_chk fun q => s_pI fun x r hs => fun _ h => XS.i2l X.here hx rfl (q ▸ hd) hs h
  case l2i => exact s_chk fun q => s_pJ fun x r hs => fun _ h => XS.l2i X.here hx rfl (q ▸ hd) hs h
  case i2b => exact s_chk fun q => s_pI fun x r hs => fun _ h => XS.i2b X.here hx rfl (q ▸ hd) hs h
  case i2c => exact s_chk fun q => s_pI fun x r hs => fun _ h => XS.i2c X.here hx rfl (q ▸ hd) hs h
  case iinc k cst => exact s_chk fun q => s_gI fun x hv => s_st1 rfl fun L' hl => fun _ h => XS.iinc X.here hx rfl (q ▸ hd) (arr_get hv) hl h
  case goto o => exact s_chk fun q => s_okO fun ho => fun _ h => XS.goto X.here hx rfl (pc0 := pc) rfl (q ▸ hd) ho rfl h
  case ifCond cd o => exact s_chk fun q => s_okO fun ho => s_pI fun x r hs => ⟨fun hc h => XS.ifYes X.here hx rfl (pc0 := pc) rfl (q ▸ hd) hs ((if0 _ _).trans (cnd_t hc)) ho rfl h, fun hc h => XS.ifNo X.here hx rfl (q ▸ hd) hs ((if0 _ _).trans (cnd_f hc)) h⟩
  case if_icmp cd o => exact s_chk fun q => s_okO fun ho => s_pII fun x y r hs => ⟨fun hc h => XS.icmpYes X.here hx rfl (pc0 := pc) rfl (q ▸ hd) hs (cnd_t hc) ho rfl h, fun hc h => XS.icmpNo X.here hx rfl (q ▸ hd) hs (cnd_f hc) h⟩
  case lcmp => exact s_chk fun q => s_pJJ fun x y r hs => s_gB fun cd o hd2 => s_okO fun ho => ⟨fun hc h => XS.lcmp X.here hx rfl (q ▸ hd) hs (XS.ifYes (g := mkF m (pc + 1) L.toArray (.int (XT.cmpL x y) :: r)) X.here hx rfl (pc0 := pc + 1) rfl (hby ▸ hd2) rfl (cndL_t hc) ho rfl h), fun hc h => XS.lcmp X.here hx rfl (q ▸ hd) hs (XS.ifNo (g := mkF m (pc + 1) L.toArray (.int (XT.cmpL x y) :: r)) X.here hx rfl (hby ▸ hd2) rfl (cndL_f hc) h)⟩
  case dup => exact s_chk fun q => s_p1 fun x r hs hc => fun _ h => XS.dup X.here hx rfl (q ▸ hd) hs hc h
  case pop => exact s_chk fun q => s_p1 fun x r hs hc => fun _ h => XS.pop X.here hx rfl (q ▸ hd) hs hc h
  all_goals exact trivial
theorem stop_ok {P : Prop} : ∀ {stops : List Nat} {pc : Nat} {A B : Prop}, (A → P) → (B → P) → stopAt stops pc A B → P
  | [], _, _, _, _, hB, h => hB h
  | k :: t, pc, A, B, hA, hB, h => by
    unfold stopAt at h
    cases q : (k == pc)
    · rw [q] at h; exact stop_ok hA hB h
    · rw [q] at h; exact hA h
theorem runo (X : Stand p l e R s m args below meth c T locs cells slots) (hx : p.tables.exec = Jvm.exec) (hby : c.code = code) (hown : s.vm.findClass own = some m.cls) (hci : ∀ q ∈ ci, (Jvm.Cond.constant own q.1 q.2).before args s = true) (hcj : ∀ q ∈ cj, (Jvm.Cond.constantLong own q.1 q.2).before args s = true)
    {stops : List Nat} (target : State) {K : Nat → List Slot → List Value → Prop} (hK : ∀ pc L st, K pc L st → Steps p.tables e below (T.setTop (mkF m pc L.toArray st)) target) :
    ∀ (n pc : Nat) (L : List Slot) (st : List Value), wpo code ci cj stops n pc L st K → Steps p.tables e below (T.setTop (mkF m pc L.toArray st)) target
  | 0, pc, L, st, h => hK pc L st h
  | n + 1, pc, L, st, h => by
    have ih := runo X hx hby hown hci hcj (stops := stops) target hK n
    unfold wpo at h
    cases hd : decode code pc with
    | error er =>
      have q : nxt code ci cj pc L st = none := by unfold nxt; rw [hd]
      rw [q] at h
      exact hK _ _ _ h
    | ok r =>
      obtain ⟨i, len⟩ := r
      have q : nxt code ci cj pc L st = nx code ci cj i len pc L st := by unfold nxt; rw [hd]
      rw [q] at h
      have hs := nx_ok X hx hby hown hci hcj target i len pc L st (hby ▸ hd)
      match hr : nx code ci cj i len pc L st, h, hs with
      | none, h, _ => exact hK _ _ _ h
      | some (.inl (ob, a, L', st')), h, hs => exact hs h.1 (stop_ok (hK _ _ _) (ih _ _ _) h.2)
      | some (.inr (cc, a, b, L', st')), h, hs =>
        by_cases hc : cc
        · exact hs.1 hc (stop_ok (hK _ _ _) (ih _ _ _) (h.1 hc))
        · exact hs.2 hc (stop_ok (hK _ _ _) (ih _ _ _) (h.2 hc))
/-- a stretch of plain steps with one end -/
theorem sego (X : Stand p l e R s m args below meth c T locs cells slots) (hx : p.tables.exec = Jvm.exec) (hby : c.code = code) (hown : s.vm.findClass own = some m.cls) (hci : ∀ q ∈ ci, (Jvm.Cond.constant own q.1 q.2).before args s = true) (hcj : ∀ q ∈ cj, (Jvm.Cond.constantLong own q.1 q.2).before args s = true)
    {stops : List Nat} {n pc pc' : Nat} {L L' : List Slot} {st st' : List Value} (h : wpo code ci cj stops n pc L st (fun a M u => a = pc' ∧ M = L' ∧ u = st')) (target : State) (hr : Steps p.tables e below (T.setTop (mkF m pc' L'.toArray st')) target) : Steps p.tables e below (T.setTop (mkF m pc L.toArray st)) target :=
  runo X hx hby hown hci hcj target (fun a M u q => by obtain ⟨rfl, rfl, rfl⟩ := q; exact hr) n pc L st h
/-- plain steps up to the return of an int, a narrow one, a long -/
theorem endI (X : Stand p l e R s m args below meth c T locs cells slots) (hx : p.tables.exec = Jvm.exec) (hby : c.code = code) (hown : s.vm.findClass own = some m.cls) (hci : ∀ q ∈ ci, (Jvm.Cond.constant own q.1 q.2).before args s = true) (hcj : ∀ q ∈ cj, (Jvm.Cond.constantLong own q.1 q.2).before args s = true)
    {stops : List Nat} {n pc : Nat} {L : List Slot} {st : List Value} {z : Int32} (h : wpo code ci cj stops n pc L st (fun a _ u => decode code a = .ok (.ireturn, 1) ∧ u = [.int z])) (hret : meth.sig.returnType = some .int) {fs : List Frame}
    (hl : ∀ (f : JFrame) (acts : List Action), f.method = m → f.locked = none → f.entered = [] → (doReturn e (T.setTop f) acts (some (.int z))).1 = T.setFrames fs) : Steps p.tables e below (T.setTop (mkF m pc L.toArray st)) (T.setFrames fs) :=
  runo X hx hby hown hci hcj _ (fun a M u q => by obtain ⟨q1, rfl⟩ := q; exact retI X hx hret (hb hby q1) hl) n pc L st h
theorem endN (X : Stand p l e R s m args below meth c T locs cells slots) (hx : p.tables.exec = Jvm.exec) (hby : c.code = code) (hown : s.vm.findClass own = some m.cls) (hci : ∀ q ∈ ci, (Jvm.Cond.constant own q.1 q.2).before args s = true) (hcj : ∀ q ∈ cj, (Jvm.Cond.constantLong own q.1 q.2).before args s = true)
    {stops : List Nat} {n pc : Nat} {L : List Slot} {st : List Value} {z : Int32} {t : FieldType} (h : wpo code ci cj stops n pc L st (fun a _ u => decode code a = .ok (.ireturn, 1) ∧ u = [.int z])) (hret : meth.sig.returnType = some t) (ht : t = .boolean ∨ t = .byte ∨ t = .char ∨ t = .short) {fs : List Frame}
    (hl : ∀ (f : JFrame) (acts : List Action), f.method = m → f.locked = none → f.entered = [] → (doReturn e (T.setTop f) acts (some (.int (nar t z)))).1 = T.setFrames fs) : Steps p.tables e below (T.setTop (mkF m pc L.toArray st)) (T.setFrames fs) :=
  runo X hx hby hown hci hcj _ (fun a M u q => by obtain ⟨q1, rfl⟩ := q; exact retN X hx hret ht (hb hby q1) hl) n pc L st h
theorem endJ (X : Stand p l e R s m args below meth c T locs cells slots) (hx : p.tables.exec = Jvm.exec) (hby : c.code = code) (hown : s.vm.findClass own = some m.cls) (hci : ∀ q ∈ ci, (Jvm.Cond.constant own q.1 q.2).before args s = true) (hcj : ∀ q ∈ cj, (Jvm.Cond.constantLong own q.1 q.2).before args s = true)
    {stops : List Nat} {n pc : Nat} {L : List Slot} {st : List Value} {z : Int64} (h : wpo code ci cj stops n pc L st (fun a _ u => decode code a = .ok (.lreturn, 1) ∧ u = [.long z])) (hret : meth.sig.returnType = some .long) {fs : List Frame}
    (hl : ∀ (f : JFrame) (acts : List Action), f.method = m → f.locked = none → f.entered = [] → (doReturn e (T.setTop f) acts (some (.long z))).1 = T.setFrames fs) : Steps p.tables e below (T.setTop (mkF m pc L.toArray st)) (T.setFrames fs) :=
  runo X hx hby hown hci hcj _ (fun a M u q => by obtain ⟨q1, rfl⟩ := q; exact X.lreturnOut hx hret (hb hby q1) hl) n pc L st h
end
theorem cI {Z s : State} {a0 args : Array Value} {tb : List Jvm.Cond} {own : String} {ci : List (Nat × Int32)} (hZ : Z.Warmed39 s.vm) (hw : ∀ d ∈ tb, d.before a0 Z = true) (h : ∀ q ∈ ci, Jvm.Cond.constant own q.1 q.2 ∈ tb) : ∀ q ∈ ci, (Jvm.Cond.constant own q.1 q.2).before args s = true := fun q hq => mvT hZ (hw _ (h q hq))
theorem cJ {Z s : State} {a0 args : Array Value} {tb : List Jvm.Cond} {own : String} {cj : List (Nat × Int64)} (hZ : Z.Warmed39 s.vm) (hw : ∀ d ∈ tb, d.before a0 Z = true) (h : ∀ q ∈ cj, Jvm.Cond.constantLong own q.1 q.2 ∈ tb) : ∀ q ∈ cj, (Jvm.Cond.constantLong own q.1 q.2).before args s = true := fun q hq => mvT hZ (hw _ (h q hq))
section
theorem n_iload (code : ByteArray) (ci : List (Nat × Int32)) (cj : List (Nat × Int64)) (pc : Nat) (L : List Slot) (st : List Value) (k : Nat) : nx code ci cj (.iload k) 2 pc L st = gI (lget L k) fun v => go (pc + 2) L (.int v :: st) := rfl
theorem n_iload_n (code : ByteArray) (ci : List (Nat × Int32)) (cj : List (Nat × Int64)) (pc : Nat) (L : List Slot) (st : List Value) (k : Fin 4) : nx code ci cj (.iload_n k) 1 pc L st = gI (lget L k.val) fun v => go (pc + 1) L (.int v :: st) := rfl
theorem n_lload (code : ByteArray) (ci : List (Nat × Int32)) (cj : List (Nat × Int64)) (pc : Nat) (L : List Slot) (st : List Value) (k : Nat) : nx code ci cj (.lload k) 2 pc L st = gJ (lget L k) fun v => go (pc + 2) L (.long v :: st) := rfl
theorem n_lload_n (code : ByteArray) (ci : List (Nat × Int32)) (cj : List (Nat × Int64)) (pc : Nat) (L : List Slot) (st : List Value) (k : Fin 4) : nx code ci cj (.lload_n k) 1 pc L st = gJ (lget L k.val) fun v => go (pc + 1) L (.long v :: st) := rfl
theorem n_aload (code : ByteArray) (ci : List (Nat × Int32)) (cj : List (Nat × Int64)) (pc : Nat) (L : List Slot) (st : List Value) (k : Nat) : nx code ci cj (.aload k) 2 pc L st = gA (lget L k) fun v => go (pc + 2) L (v :: st) := rfl
theorem n_aload_n (code : ByteArray) (ci : List (Nat × Int32)) (cj : List (Nat × Int64)) (pc : Nat) (L : List Slot) (st : List Value) (k : Fin 4) : nx code ci cj (.aload_n k) 1 pc L st = gA (lget L k.val) fun v => go (pc + 1) L (v :: st) := rfl
theorem n_istore (code : ByteArray) (ci : List (Nat × Int32)) (cj : List (Nat × Int64)) (pc : Nat) (L : List Slot) (st : List Value) (k : Nat) : nx code ci cj (.istore k) 2 pc L st = pI st fun x r => st1 L k (.int x) (fun L' => go (pc + 2) L' r) none := rfl
theorem n_istore_n (code : ByteArray) (ci : List (Nat × Int32)) (cj : List (Nat × Int64)) (pc : Nat) (L : List Slot) (st : List Value) (k : Fin 4) : nx code ci cj (.istore_n k) 1 pc L st = pI st fun x r => st1 L k.val (.int x) (fun L' => go (pc + 1) L' r) none := rfl
theorem n_lstore (code : ByteArray) (ci : List (Nat × Int32)) (cj : List (Nat × Int64)) (pc : Nat) (L : List Slot) (st : List Value) (k : Nat) : nx code ci cj (.lstore k) 2 pc L st = pJ st fun x r => st2 L k x (fun L' => go (pc + 2) L' r) none := rfl
theorem n_lstore_n (code : ByteArray) (ci : List (Nat × Int32)) (cj : List (Nat × Int64)) (pc : Nat) (L : List Slot) (st : List Value) (k : Fin 4) : nx code ci cj (.lstore_n k) 1 pc L st = pJ st fun x r => st2 L k.val x (fun L' => go (pc + 1) L' r) none := rfl
theorem n_astore (code : ByteArray) (ci : List (Nat × Int32)) (cj : List (Nat × Int64)) (pc : Nat) (L : List Slot) (st : List Value) (k : Nat) : nx code ci cj (.astore k) 2 pc L st = pA st fun x r => st1 L k x (fun L' => go (pc + 2) L' r) none := rfl
theorem n_astore_n (code : ByteArray) (ci : List (Nat × Int32)) (cj : List (Nat × Int64)) (pc : Nat) (L : List Slot) (st : List Value) (k : Fin 4) : nx code ci cj (.astore_n k) 1 pc L st = pA st fun x r => st1 L k.val x (fun L' => go (pc + 1) L' r) none := rfl
theorem n_iconst (code : ByteArray) (ci : List (Nat × Int32)) (cj : List (Nat × Int64)) (pc : Nat) (L : List Slot) (st : List Value) (i : Int) : nx code ci cj (.iconst i) 1 pc L st = go (pc + 1) L (.int (Int32.ofInt i) :: st) := rfl
theorem n_lconst (code : ByteArray) (ci : List (Nat × Int32)) (cj : List (Nat × Int64)) (pc : Nat) (L : List Slot) (st : List Value) (k : Fin 2) : nx code ci cj (.lconst k) 1 pc L st = go (pc + 1) L (.long (Int64.ofNat k) :: st) := rfl
theorem n_bipush (code : ByteArray) (ci : List (Nat × Int32)) (cj : List (Nat × Int64)) (pc : Nat) (L : List Slot) (st : List Value) (i : Int) : nx code ci cj (.bipush i) 2 pc L st = go (pc + 2) L (.int (Int8.ofInt i).toInt32 :: st) := rfl
theorem n_sipush (code : ByteArray) (ci : List (Nat × Int32)) (cj : List (Nat × Int64)) (pc : Nat) (L : List Slot) (st : List Value) (i : Int) : nx code ci cj (.sipush i) 3 pc L st = go (pc + 3) L (.int (Int16.ofInt i).toInt32 :: st) := rfl
theorem n_ldc (code : ByteArray) (ci : List (Nat × Int32)) (cj : List (Nat × Int64)) (pc : Nat) (L : List Slot) (st : List Value) (k : Nat) : nx code ci cj (.ldc k) 2 pc L st = gC (fnd ci k) fun v => go (pc + 2) L (.int v :: st) := rfl
theorem n_ldc2_w (code : ByteArray) (ci : List (Nat × Int32)) (cj : List (Nat × Int64)) (pc : Nat) (L : List Slot) (st : List Value) (k : Nat) : nx code ci cj (.ldc2_w k) 3 pc L st = gC (fnd cj k) fun v => go (pc + 3) L (.long v :: st) := rfl
theorem n_iadd (code : ByteArray) (ci : List (Nat × Int32)) (cj : List (Nat × Int64)) (pc : Nat) (L : List Slot) (st : List Value)  : nx code ci cj (.iadd) 1 pc L st = pII st fun x y r => go (pc + 1) L (.int (x + y) :: r) := rfl
theorem n_isub (code : ByteArray) (ci : List (Nat × Int32)) (cj : List (Nat × Int64)) (pc : Nat) (L : List Slot) (st : List Value)  : nx code ci cj (.isub) 1 pc L st = pII st fun x y r => go (pc + 1) L (.int (x - y) :: r) := rfl
theorem n_imul (code : ByteArray) (ci : List (Nat × Int32)) (cj : List (Nat × Int64)) (pc : Nat) (L : List Slot) (st : List Value)  : nx code ci cj (.imul) 1 pc L st = pII st fun x y r => go (pc + 1) L (.int (x * y) :: r) := rfl
theorem n_idiv (code : ByteArray) (ci : List (Nat × Int32)) (cj : List (Nat × Int64)) (pc : Nat) (L : List Slot) (st : List Value)  : nx code ci cj (.idiv) 1 pc L st = pII st fun x y r => goIf (y ≠ 0) (pc + 1) L (.int (x / y) :: r) := rfl
theorem n_irem (code : ByteArray) (ci : List (Nat × Int32)) (cj : List (Nat × Int64)) (pc : Nat) (L : List Slot) (st : List Value)  : nx code ci cj (.irem) 1 pc L st = pII st fun x y r => goIf (y ≠ 0) (pc + 1) L (.int (x - (x / y) * y) :: r) := rfl
theorem n_iand (code : ByteArray) (ci : List (Nat × Int32)) (cj : List (Nat × Int64)) (pc : Nat) (L : List Slot) (st : List Value)  : nx code ci cj (.iand) 1 pc L st = pII st fun x y r => go (pc + 1) L (.int (x &&& y) :: r) := rfl
theorem n_ior (code : ByteArray) (ci : List (Nat × Int32)) (cj : List (Nat × Int64)) (pc : Nat) (L : List Slot) (st : List Value)  : nx code ci cj (.ior) 1 pc L st = pII st fun x y r => go (pc + 1) L (.int (x ||| y) :: r) := rfl
theorem n_ixor (code : ByteArray) (ci : List (Nat × Int32)) (cj : List (Nat × Int64)) (pc : Nat) (L : List Slot) (st : List Value)  : nx code ci cj (.ixor) 1 pc L st = pII st fun x y r => go (pc + 1) L (.int (x ^^^ y) :: r) := rfl
theorem n_ishl (code : ByteArray) (ci : List (Nat × Int32)) (cj : List (Nat × Int64)) (pc : Nat) (L : List Slot) (st : List Value)  : nx code ci cj (.ishl) 1 pc L st = pII st fun x y r => go (pc + 1) L (.int (oshl x y) :: r) := rfl
theorem n_ishr (code : ByteArray) (ci : List (Nat × Int32)) (cj : List (Nat × Int64)) (pc : Nat) (L : List Slot) (st : List Value)  : nx code ci cj (.ishr) 1 pc L st = pII st fun x y r => go (pc + 1) L (.int (oshr x y) :: r) := rfl
theorem n_iushr (code : ByteArray) (ci : List (Nat × Int32)) (cj : List (Nat × Int64)) (pc : Nat) (L : List Slot) (st : List Value)  : nx code ci cj (.iushr) 1 pc L st = pII st fun x y r => go (pc + 1) L (.int (oushr x y) :: r) := rfl
theorem n_ladd (code : ByteArray) (ci : List (Nat × Int32)) (cj : List (Nat × Int64)) (pc : Nat) (L : List Slot) (st : List Value)  : nx code ci cj (.ladd) 1 pc L st = pJJ st fun x y r => go (pc + 1) L (.long (x + y) :: r) := rfl
theorem n_lsub (code : ByteArray) (ci : List (Nat × Int32)) (cj : List (Nat × Int64)) (pc : Nat) (L : List Slot) (st : List Value)  : nx code ci cj (.lsub) 1 pc L st = pJJ st fun x y r => go (pc + 1) L (.long (x - y) :: r) := rfl
theorem n_lmul (code : ByteArray) (ci : List (Nat × Int32)) (cj : List (Nat × Int64)) (pc : Nat) (L : List Slot) (st : List Value)  : nx code ci cj (.lmul) 1 pc L st = pJJ st fun x y r => go (pc + 1) L (.long (x * y) :: r) := rfl
theorem n_ldiv (code : ByteArray) (ci : List (Nat × Int32)) (cj : List (Nat × Int64)) (pc : Nat) (L : List Slot) (st : List Value)  : nx code ci cj (.ldiv) 1 pc L st = pJJ st fun x y r => goIf (y ≠ 0) (pc + 1) L (.long (x / y) :: r) := rfl
theorem n_lrem (code : ByteArray) (ci : List (Nat × Int32)) (cj : List (Nat × Int64)) (pc : Nat) (L : List Slot) (st : List Value)  : nx code ci cj (.lrem) 1 pc L st = pJJ st fun x y r => goIf (y ≠ 0) (pc + 1) L (.long (x - (x / y) * y) :: r) := rfl
theorem n_land (code : ByteArray) (ci : List (Nat × Int32)) (cj : List (Nat × Int64)) (pc : Nat) (L : List Slot) (st : List Value)  : nx code ci cj (.land) 1 pc L st = pJJ st fun x y r => go (pc + 1) L (.long (x &&& y) :: r) := rfl
theorem n_lor (code : ByteArray) (ci : List (Nat × Int32)) (cj : List (Nat × Int64)) (pc : Nat) (L : List Slot) (st : List Value)  : nx code ci cj (.lor) 1 pc L st = pJJ st fun x y r => go (pc + 1) L (.long (x ||| y) :: r) := rfl
theorem n_lxor (code : ByteArray) (ci : List (Nat × Int32)) (cj : List (Nat × Int64)) (pc : Nat) (L : List Slot) (st : List Value)  : nx code ci cj (.lxor) 1 pc L st = pJJ st fun x y r => go (pc + 1) L (.long (x ^^^ y) :: r) := rfl
theorem n_lshl (code : ByteArray) (ci : List (Nat × Int32)) (cj : List (Nat × Int64)) (pc : Nat) (L : List Slot) (st : List Value)  : nx code ci cj (.lshl) 1 pc L st = pJI st fun x y r => go (pc + 1) L (.long (oshlL x y) :: r) := rfl
theorem n_lushr (code : ByteArray) (ci : List (Nat × Int32)) (cj : List (Nat × Int64)) (pc : Nat) (L : List Slot) (st : List Value)  : nx code ci cj (.lushr) 1 pc L st = pJI st fun x y r => go (pc + 1) L (.long (oushrL x y) :: r) := rfl
theorem n_i2l (code : ByteArray) (ci : List (Nat × Int32)) (cj : List (Nat × Int64)) (pc : Nat) (L : List Slot) (st : List Value)  : nx code ci cj (.i2l) 1 pc L st = pI st fun x r => go (pc + 1) L (.long x.toInt64 :: r) := rfl
theorem n_l2i (code : ByteArray) (ci : List (Nat × Int32)) (cj : List (Nat × Int64)) (pc : Nat) (L : List Slot) (st : List Value)  : nx code ci cj (.l2i) 1 pc L st = pJ st fun x r => go (pc + 1) L (.int x.toInt32 :: r) := rfl
theorem n_i2b (code : ByteArray) (ci : List (Nat × Int32)) (cj : List (Nat × Int64)) (pc : Nat) (L : List Slot) (st : List Value)  : nx code ci cj (.i2b) 1 pc L st = pI st fun x r => go (pc + 1) L (.int x.toInt8.toInt32 :: r) := rfl
theorem n_i2c (code : ByteArray) (ci : List (Nat × Int32)) (cj : List (Nat × Int64)) (pc : Nat) (L : List Slot) (st : List Value)  : nx code ci cj (.i2c) 1 pc L st = pI st fun x r => go (pc + 1) L (.int x.toUInt32.toUInt16.toUInt32.toInt32 :: r) := rfl
theorem n_iinc (code : ByteArray) (ci : List (Nat × Int32)) (cj : List (Nat × Int64)) (pc : Nat) (L : List Slot) (st : List Value) (k : Nat) (cst : Int) : nx code ci cj (.iinc k cst) 3 pc L st = gI (lget L k) fun x => st1 L k (.int (x + Int32.ofInt cst)) (fun L' => go (pc + 3) L' st) none := rfl
theorem n_goto (code : ByteArray) (ci : List (Nat × Int32)) (cj : List (Nat × Int64)) (pc : Nat) (L : List Slot) (st : List Value) (o : Int) : nx code ci cj (.goto o) 3 pc L st = okO pc o (go (tgt pc o) L st) := rfl
theorem n_ifCond (code : ByteArray) (ci : List (Nat × Int32)) (cj : List (Nat × Int64)) (pc : Nat) (L : List Slot) (st : List Value) (cd : ClassFile.Cond) (o : Int) : nx code ci cj (.ifCond cd o) 3 pc L st = okO pc o (pI st fun x r => fork (cnd cd x 0) (tgt pc o) (pc + 3) L r) := rfl
theorem n_if_icmp (code : ByteArray) (ci : List (Nat × Int32)) (cj : List (Nat × Int64)) (pc : Nat) (L : List Slot) (st : List Value) (cd : ClassFile.Cond) (o : Int) : nx code ci cj (.if_icmp cd o) 3 pc L st = okO pc o (pII st fun x y r => fork (cnd cd x y) (tgt pc o) (pc + 3) L r) := rfl
theorem n_lcmp (code : ByteArray) (ci : List (Nat × Int32)) (cj : List (Nat × Int64)) (pc : Nat) (L : List Slot) (st : List Value)  : nx code ci cj (.lcmp) 1 pc L st = pJJ st fun x y r => gB (decode code (pc + 1)) fun cd o => okO (pc + 1) o (fork (cndL cd x y) (tgt (pc + 1) o) (pc + 4) L r) := rfl
theorem n_dup (code : ByteArray) (ci : List (Nat × Int32)) (cj : List (Nat × Int64)) (pc : Nat) (L : List Slot) (st : List Value)  : nx code ci cj (.dup) 1 pc L st = p1 st fun x r => go (pc + 1) L (x :: x :: r) := rfl
theorem n_pop (code : ByteArray) (ci : List (Nat × Int32)) (cj : List (Nat × Int64)) (pc : Nat) (L : List Slot) (st : List Value)  : nx code ci cj (.pop) 1 pc L st = p1 st fun _ r => go (pc + 1) L r := rfl
theorem n_invokestatic (code : ByteArray) (ci : List (Nat × Int32)) (cj : List (Nat × Int64)) (pc : Nat) (L : List Slot) (st : List Value) (k : Nat) (len : Nat) : nx code ci cj (.invokestatic k) len pc L st = none := rfl
theorem n_invokespecial (code : ByteArray) (ci : List (Nat × Int32)) (cj : List (Nat × Int64)) (pc : Nat) (L : List Slot) (st : List Value) (k : Nat) (len : Nat) : nx code ci cj (.invokespecial k) len pc L st = none := rfl
theorem n_invokevirtual (code : ByteArray) (ci : List (Nat × Int32)) (cj : List (Nat × Int64)) (pc : Nat) (L : List Slot) (st : List Value) (k : Nat) (len : Nat) : nx code ci cj (.invokevirtual k) len pc L st = none := rfl
theorem n_new (code : ByteArray) (ci : List (Nat × Int32)) (cj : List (Nat × Int64)) (pc : Nat) (L : List Slot) (st : List Value) (k : Nat) (len : Nat) : nx code ci cj (.new k) len pc L st = none := rfl
theorem n_newarray (code : ByteArray) (ci : List (Nat × Int32)) (cj : List (Nat × Int64)) (pc : Nat) (L : List Slot) (st : List Value) (k : ArrayType) (len : Nat) : nx code ci cj (.newarray k) len pc L st = none := rfl
theorem n_getfield (code : ByteArray) (ci : List (Nat × Int32)) (cj : List (Nat × Int64)) (pc : Nat) (L : List Slot) (st : List Value) (k : Nat) (len : Nat) : nx code ci cj (.getfield k) len pc L st = none := rfl
theorem n_getstatic (code : ByteArray) (ci : List (Nat × Int32)) (cj : List (Nat × Int64)) (pc : Nat) (L : List Slot) (st : List Value) (k : Nat) (len : Nat) : nx code ci cj (.getstatic k) len pc L st = none := rfl
theorem n_putstatic (code : ByteArray) (ci : List (Nat × Int32)) (cj : List (Nat × Int64)) (pc : Nat) (L : List Slot) (st : List Value) (k : Nat) (len : Nat) : nx code ci cj (.putstatic k) len pc L st = none := rfl
theorem n_putfield (code : ByteArray) (ci : List (Nat × Int32)) (cj : List (Nat × Int64)) (pc : Nat) (L : List Slot) (st : List Value) (k : Nat) (len : Nat) : nx code ci cj (.putfield k) len pc L st = none := rfl
theorem n_iaload (code : ByteArray) (ci : List (Nat × Int32)) (cj : List (Nat × Int64)) (pc : Nat) (L : List Slot) (st : List Value)  (len : Nat) : nx code ci cj (.iaload) len pc L st = none := rfl
theorem n_laload (code : ByteArray) (ci : List (Nat × Int32)) (cj : List (Nat × Int64)) (pc : Nat) (L : List Slot) (st : List Value)  (len : Nat) : nx code ci cj (.laload) len pc L st = none := rfl
theorem n_baload (code : ByteArray) (ci : List (Nat × Int32)) (cj : List (Nat × Int64)) (pc : Nat) (L : List Slot) (st : List Value)  (len : Nat) : nx code ci cj (.baload) len pc L st = none := rfl
theorem n_iastore (code : ByteArray) (ci : List (Nat × Int32)) (cj : List (Nat × Int64)) (pc : Nat) (L : List Slot) (st : List Value)  (len : Nat) : nx code ci cj (.iastore) len pc L st = none := rfl
theorem n_lastore (code : ByteArray) (ci : List (Nat × Int32)) (cj : List (Nat × Int64)) (pc : Nat) (L : List Slot) (st : List Value)  (len : Nat) : nx code ci cj (.lastore) len pc L st = none := rfl
theorem n_bastore (code : ByteArray) (ci : List (Nat × Int32)) (cj : List (Nat × Int64)) (pc : Nat) (L : List Slot) (st : List Value)  (len : Nat) : nx code ci cj (.bastore) len pc L st = none := rfl
theorem n_arraylength (code : ByteArray) (ci : List (Nat × Int32)) (cj : List (Nat × Int64)) (pc : Nat) (L : List Slot) (st : List Value)  (len : Nat) : nx code ci cj (.arraylength) len pc L st = none := rfl
theorem n_ireturn (code : ByteArray) (ci : List (Nat × Int32)) (cj : List (Nat × Int64)) (pc : Nat) (L : List Slot) (st : List Value)  (len : Nat) : nx code ci cj (.ireturn) len pc L st = none := rfl
theorem n_lreturn (code : ByteArray) (ci : List (Nat × Int32)) (cj : List (Nat × Int64)) (pc : Nat) (L : List Slot) (st : List Value)  (len : Nat) : nx code ci cj (.lreturn) len pc L st = none := rfl
theorem n_return_ (code : ByteArray) (ci : List (Nat × Int32)) (cj : List (Nat × Int64)) (pc : Nat) (L : List Slot) (st : List Value)  (len : Nat) : nx code ci cj (.return_) len pc L st = none := rfl
end
theorem r_wp0 (code : ByteArray) (ci : List (Nat × Int32)) (cj : List (Nat × Int64)) (stops : List Nat) (pc : Nat) (L : List Slot) (st : List Value) (K : Nat → List Slot → List Value → Prop) : wpo code ci cj stops 0 pc L st K = K pc L st := rfl
theorem r_wpS (code : ByteArray) (ci : List (Nat × Int32)) (cj : List (Nat × Int64)) (stops : List Nat) (n pc : Nat) (L : List Slot) (st : List Value) (K : Nat → List Slot → List Value → Prop) : wpo code ci cj stops (n + 1) pc L st K =
    match nxt code ci cj pc L st with
    | none => K pc L st
    | some (.inl (ob, a, L', st')) => ob ∧ stopAt stops a (K a L' st') (wpo code ci cj stops n a L' st' K)
    | some (.inr (c, a, b, L', st')) => (c → stopAt stops a (K a L' st') (wpo code ci cj stops n a L' st' K)) ∧ (¬ c → stopAt stops b (K b L' st') (wpo code ci cj stops n b L' st' K)) := rfl
theorem r_nxt (code : ByteArray) (ci : List (Nat × Int32)) (cj : List (Nat × Int64)) (pc : Nat) (L : List Slot) (st : List Value) : nxt code ci cj pc L st = match decode code pc with | .ok r => nx code ci cj r.1 r.2 pc L st | .error _ => none := rfl
theorem r_stop0 (pc : Nat) (A B : Prop) : stopAt [] pc A B = B := rfl
theorem r_stopS (k : Nat) (t : List Nat) (pc : Nat) (A B : Prop) : stopAt (k :: t) pc A B = bif k == pc then A else stopAt t pc A B := rfl
theorem r_go (pc : Nat) (L : List Slot) (st : List Value) : go pc L st = some (.inl (True, pc, L, st)) := rfl
theorem r_goIf (ob : Prop) (pc : Nat) (L : List Slot) (st : List Value) : goIf ob pc L st = some (.inl (ob, pc, L, st)) := rfl
theorem r_fork (c : Prop) (a b : Nat) (L : List Slot) (st : List Value) : fork c a b L st = some (.inr (c, a, b, L, st)) := rfl
theorem r_tgt (pc : Nat) (o : Int) : tgt pc o = ((pc : Int) + o).toNat := rfl
theorem r_okO (pc : Nat) (o : Int) (r : Rs) : okO pc o r = if 0 ≤ (pc : Int) + o then r else none := rfl
theorem r_gI (v : Int32) (F : Int32 → Rs) : gI (some (.val (.int v))) F = F v := rfl
theorem r_gJ (v : Int64) (F : Int64 → Rs) : gJ (some (.val (.long v))) F = F v := rfl
theorem r_gA (v : Addr) (F : Value → Rs) : gA (some (.val (.ref v))) F = F (.ref v) := rfl
theorem r_pI (x : Int32) (r : List Value) (F : Int32 → List Value → Rs) : pI (.int x :: r) F = F x r := rfl
theorem r_pJ (x : Int64) (r : List Value) (F : Int64 → List Value → Rs) : pJ (.long x :: r) F = F x r := rfl
theorem r_pA (x : Addr) (r : List Value) (F : Value → List Value → Rs) : pA (.ref x :: r) F = F (.ref x) r := rfl
theorem r_p1r (x : Addr) (r : List Value) (F : Value → List Value → Rs) : p1 (.ref x :: r) F = F (.ref x) r := rfl
theorem r_p1i (x : Int32) (r : List Value) (F : Value → List Value → Rs) : p1 (.int x :: r) F = F (.int x) r := rfl
theorem r_pII (x y : Int32) (r : List Value) (F : Int32 → Int32 → List Value → Rs) : pII (.int y :: .int x :: r) F = F x y r := rfl
theorem r_pJJ (x y : Int64) (r : List Value) (F : Int64 → Int64 → List Value → Rs) : pJJ (.long y :: .long x :: r) F = F x y r := rfl
theorem r_pJI (x : Int64) (y : Int32) (r : List Value) (F : Int64 → Int32 → List Value → Rs) : pJI (.int y :: .long x :: r) F = F x y r := rfl
theorem r_fnd0 (k : Nat) : fnd ([] : List (Nat × α)) k = none := rfl
theorem r_fndS (j : Nat) (v : α) (t : List (Nat × α)) (k : Nat) : fnd ((j, v) :: t) k = bif j == k then some v else fnd t k := rfl
theorem r_gC (v : α) (F : α → Rs) : gC (some v) F = F v := rfl
theorem r_gC0 (F : α → Rs) : gC none F = none := rfl
theorem r_gB (cd : ClassFile.Cond) (o : Int) (F : ClassFile.Cond → Int → Rs) : gB (.ok (.ifCond cd o, 3)) F = F cd o := rfl
theorem r_st1 (L : List Slot) (k : Nat) (v : Value) (F : List Slot → Rs) (d : Rs) : st1 L k v F d = bif one (lget L k) then F (lput L k (.val v)) else d := rfl
theorem r_st2 (L : List Slot) (k : Nat) (v : Int64) (F : List Slot → Rs) (d : Rs) : st2 L k v F d = bif two (lget L k) (lget L (k + 1)) then F (lput (lput L k (.val (.long v))) (k + 1) .second) else d := rfl
theorem r_eq (x y : Int32) : cnd .eq x y = (x = y) := rfl
theorem r_ne (x y : Int32) : cnd .ne x y = (¬ x = y) := rfl
theorem r_lt (x y : Int32) : cnd .lt x y = (x < y) := rfl
theorem r_ge (x y : Int32) : cnd .ge x y = (¬ x < y) := rfl
theorem r_gt (x y : Int32) : cnd .gt x y = (y < x) := rfl
theorem r_le (x y : Int32) : cnd .le x y = (¬ y < x) := rfl
theorem r_eqL (x y : Int64) : cndL .eq x y = (x = y) := rfl
theorem r_neL (x y : Int64) : cndL .ne x y = (¬ x = y) := rfl
theorem r_ltL (x y : Int64) : cndL .lt x y = (x < y) := rfl
theorem r_geL (x y : Int64) : cndL .ge x y = (¬ x < y) := rfl
theorem r_gtL (x y : Int64) : cndL .gt x y = (y < x) := rfl
theorem r_leL (x y : Int64) : cndL .le x y = (¬ y < x) := rfl
theorem r_f0 : ((0 : Fin 4).val) = 0 := rfl
theorem r_f1 : ((1 : Fin 4).val) = 1 := rfl
theorem r_f2 : ((2 : Fin 4).val) = 2 := rfl
theorem r_f3 : ((3 : Fin 4).val) = 3 := rfl
theorem r_im1 : Int32.ofInt (-1) = -1 := rfl
theorem r_i0 : Int32.ofInt 0 = 0 := rfl
theorem r_i1 : Int32.ofInt 1 = 1 := rfl
theorem r_i2 : Int32.ofInt 2 = 2 := rfl
theorem r_i3 : Int32.ofInt 3 = 3 := rfl
theorem r_i4 : Int32.ofInt 4 = 4 := rfl
theorem r_i5 : Int32.ofInt 5 = 5 := rfl
theorem r_i7 : Int32.ofInt 7 = 7 := rfl
theorem r_l0 : Int64.ofNat ((0 : Fin 2).val) = 0 := rfl
theorem r_l1 : Int64.ofNat ((1 : Fin 2).val) = 1 := rfl
/-! contracts of bodies that only reckon, and the call of one -/
section
variable {l : Launch} {Z : State} {a0 : Array Value} {tb : List Jvm.Cond} {y : MethodName} {bytes : ByteArray} {maxL : Nat} {ret : Option FieldType} {ws : List Jvm.Cond} {as' : Array Value} {h0 : Heap} {ci : List (Nat × Int32)} {cj : List (Nat × Int64)} {L0 : List Slot} {stops : List Nat} {n : Nat}
def room0 : Room := { frames := 0, cells := 0, slots := 0, locals := 0 }
def PureQ (V : Value) (h0 : Heap) (v : Option Value) (h : Heap) (L : List Loc) : Prop := v = some V ∧ L = [] ∧ h = h0
abbrev Pays (l : Launch) (Z : State) (y : MethodName) (bytes : ByteArray) (maxL : Nat) (ret : Option FieldType) (ws : List Jvm.Cond) (as' : Array Value) (h0 : Heap) (V : Value) : Prop :=
  MetFree l y (head1 (Jvm.Cond.code y bytes maxL ret :: ws) room0) (fun a U => a = as' ∧ Z.Warmed39 U.vm ∧ U.heap = h0) (fun _ _ _ _ _ => True) (fun _ U o U' => ∃ v L, o = .returned v ∧ PureQ V h0 v U'.heap L ∧ FrameEnd U o U' L room0.cells room0.slots)
theorem pureI (hpn : plainName y.cls = true) (hw : ∀ d ∈ tb, d.before a0 Z = true) (hci : ∀ q ∈ ci, Jvm.Cond.constant y.cls q.1 q.2 ∈ tb) (hcj : ∀ q ∈ cj, Jvm.Cond.constantLong y.cls q.1 q.2 ∈ tb) (hef : ∀ m, entryFrame m as' maxL = mkF m 0 L0.toArray []) (hret : ret = some .int) {z : Int32}
    (h : wpo bytes ci cj stops n 0 L0 [] (fun a _ u => decode bytes a = .ok (.ireturn, 1) ∧ u = [.int z])) : Pays l Z y bytes maxL ret ws as' h0 (.int z) := by
  refine MetFree.of_bodySF (plainFor_of_name hpn) hisR ?_
  intro p e s m args below meth c s₁ Bd hml0 hP hK
  obtain ⟨rfl, hZ, hh⟩ := hP
  have hown : s.vm.findClass y.cls = some m.cls := findClass_of_methodNamed Bd.named
  have X0 : Stand p l e room0 s m args below meth c s₁ [] 0 0 := Stand.of_body Bd
  have e0 : s₁.heap = h0 := by rw [← hh, Bd.state]; rfl
  obtain ⟨fs, hr, hrun, hended, hW, hsame⟩ := X0.leave (v := some (.int z)) (fun h => by rw [Bd.returns, hret] at h; cases h)
  refine ⟨_, _, castTop (hef m) ?_, hrun, hended, _, _, rfl, ?_, ⟨_, rfl⟩, hW, hsame.mono (by decide) (by decide)⟩
  · exact endI X0 Bd.exec Bd.bytes hown (cI hZ hw hci) (cJ hZ hw hcj) h (Bd.returns.trans hret) hr
  · exact ⟨rfl, rfl, e0⟩
theorem pureN {t : FieldType} (ht : t = .boolean ∨ t = .byte ∨ t = .char ∨ t = .short) (hpn : plainName y.cls = true) (hw : ∀ d ∈ tb, d.before a0 Z = true) (hci : ∀ q ∈ ci, Jvm.Cond.constant y.cls q.1 q.2 ∈ tb) (hcj : ∀ q ∈ cj, Jvm.Cond.constantLong y.cls q.1 q.2 ∈ tb) (hef : ∀ m, entryFrame m as' maxL = mkF m 0 L0.toArray []) (hret : ret = some t) {z : Int32} (hz : nar t z = z)
    (h : wpo bytes ci cj stops n 0 L0 [] (fun a _ u => decode bytes a = .ok (.ireturn, 1) ∧ u = [.int z])) : Pays l Z y bytes maxL ret ws as' h0 (.int z) := by
  refine MetFree.of_bodySF (plainFor_of_name hpn) hisR ?_
  intro p e s m args below meth c s₁ Bd hml0 hP hK
  obtain ⟨rfl, hZ, hh⟩ := hP
  have hown : s.vm.findClass y.cls = some m.cls := findClass_of_methodNamed Bd.named
  have X0 : Stand p l e room0 s m args below meth c s₁ [] 0 0 := Stand.of_body Bd
  have e0 : s₁.heap = h0 := by rw [← hh, Bd.state]; rfl
  obtain ⟨fs, hr, hrun, hended, hW, hsame⟩ := X0.leave (v := some (.int z)) (fun h => by rw [Bd.returns, hret] at h; cases h)
  refine ⟨_, _, castTop (hef m) ?_, hrun, hended, _, _, rfl, ?_, ⟨_, rfl⟩, hW, hsame.mono (by decide) (by decide)⟩
  · exact endN X0 Bd.exec Bd.bytes hown (cI hZ hw hci) (cJ hZ hw hcj) h (Bd.returns.trans hret) ht (by rw [hz]; exact hr)
  · exact ⟨rfl, rfl, e0⟩
theorem pureJ (hpn : plainName y.cls = true) (hw : ∀ d ∈ tb, d.before a0 Z = true) (hci : ∀ q ∈ ci, Jvm.Cond.constant y.cls q.1 q.2 ∈ tb) (hcj : ∀ q ∈ cj, Jvm.Cond.constantLong y.cls q.1 q.2 ∈ tb) (hef : ∀ m, entryFrame m as' maxL = mkF m 0 L0.toArray []) (hret : ret = some .long) {z : Int64}
    (h : wpo bytes ci cj stops n 0 L0 [] (fun a _ u => decode bytes a = .ok (.lreturn, 1) ∧ u = [.long z])) : Pays l Z y bytes maxL ret ws as' h0 (.long z) := by
  refine MetFree.of_bodySF (plainFor_of_name hpn) hisR ?_
  intro p e s m args below meth c s₁ Bd hml0 hP hK
  obtain ⟨rfl, hZ, hh⟩ := hP
  have hown : s.vm.findClass y.cls = some m.cls := findClass_of_methodNamed Bd.named
  have X0 : Stand p l e room0 s m args below meth c s₁ [] 0 0 := Stand.of_body Bd
  have e0 : s₁.heap = h0 := by rw [← hh, Bd.state]; rfl
  obtain ⟨fs, hr, hrun, hended, hW, hsame⟩ := X0.leave (v := some (.long z)) (fun h => by rw [Bd.returns, hret] at h; cases h)
  refine ⟨_, _, castTop (hef m) ?_, hrun, hended, _, _, rfl, ?_, ⟨_, rfl⟩, hW, hsame.mono (by decide) (by decide)⟩
  · exact endJ X0 Bd.exec Bd.bytes hown (cI hZ hw hci) (cJ hZ hw hcj) h (Bd.returns.trans hret) hr
  · exact ⟨rfl, rfl, e0⟩
variable {p : Program} {e : Env} {R : Room} {s : State} {m : MethodId} {args : Array Value} {below : List Frame} {meth : Method} {c : Code} {T : State} {locs : List Loc} {cells slots : Nat} {own : String} {V : Value}
/-- the call of a static body that only reckons: the state moves, its heap doesn't -/
theorem callPure (X : Stand p l e R s m args below meth c T locs cells slots) (hx : p.tables.exec = Jvm.exec) (hZ : Z.Warmed39 s.vm) (hown : s.vm.findClass own = some m.cls) {index : Nat}
    (w1 : (Jvm.Cond.methodLink own index y).before a0 Z = true) (w2 : (Jvm.Cond.static y).before a0 Z = true) (w3 : (Jvm.Cond.initialized y.cls).before a0 Z = true) (w4 : (Jvm.Cond.code y bytes maxL ret).before a0 Z = true) (hy : y.cls ≠ "java/lang/invoke/MethodHandle" ∧ y.cls ≠ "java/lang/invoke/VarHandle")
    {h : Heap} (eT : T.heap = h) {argsL rest : List Value} (hM : Pays l Z y bytes maxL ret [] argsL.toArray h V) {W : Nat} (hf : 1 ≤ R.frames) (hl : W + (maxL + 11) ≤ R.locals) (hcl : cells ≤ R.cells) (hsl : slots ≤ R.slots)
    {pc : Nat} {Ls : Array Slot} {st : List Value} (hsize : Ls.size = c.maxLocals) (hlen : ∀ sig, parseMethodDescriptor y.desc = some sig → argsL.length = sig.parameters.length) (hst : st = argsL.reverse ++ rest) (hW : (rest.map fun v => v.category).sum ≤ W) (hd : decode c.code pc = .ok (.invokestatic index, 3)) :
    ∃ T', Stand p l e R s m args below meth c T' locs cells slots ∧ T'.heap = h ∧ ∀ target, Steps p.tables e below (T'.setTop (mkF m (pc + 3) Ls (V :: rest))) target → Steps p.tables e below (T.setTop (mkF m pc Ls st)) target := by
  obtain ⟨v, _, ⟨T5, L5, k5, n5⟩, -, X5, ⟨Lc5, hQ5, l5, y5, z5⟩, st5⟩ := Jvm.LawKit.callS X hx (y := y) hown (mvT hZ w1) (mvT hZ w2) (mvT hZ w3) (mvT hZ w4) hy (backOf (W := W) hM hZ w4 w3 hf hl) (g := mkF m pc Ls st) rfl hsize (argsL := argsL) (rest := rest) hlen hst (by show 2 * 0 + _ ≤ _; rw [Nat.mul_zero, Nat.zero_add]; exact hW) hd (fun _ _ => ⟨rfl, eT, hcl, hsl⟩)
  dsimp only [Pt.U, Pt.locs, Pt.cells, Pt.slots] at X5 l5 y5 z5 st5 hQ5
  obtain ⟨rfl, rfl, hq⟩ := hQ5
  subst y5 z5
  rw [List.append_nil] at l5
  subst l5
  exact ⟨T5, X5, hq, st5⟩
end
end Jvm.OwnRun
/-! OwnNum: shifts and remainders as integers -/
namespace Jvm.OwnRun
theorem nat32 (x : Int32) : (x.toBitVec.toNat : Int) = x.toInt % 4294967296 := by
  have h : x.toBitVec = BitVec.ofInt 32 x.toInt := (BitVec.ofInt_toInt (x := x.toBitVec)).symm
  have h2 := congrArg BitVec.toNat h
  rw [BitVec.toNat_ofInt] at h2
  omega
theorem nat64 (x : Int64) : (x.toBitVec.toNat : Int) = x.toInt % 18446744073709551616 := by
  have h : x.toBitVec = BitVec.ofInt 64 x.toInt := (BitVec.ofInt_toInt (x := x.toBitVec)).symm
  have h2 := congrArg BitVec.toNat h
  rw [BitVec.toNat_ofInt] at h2
  omega
theorem small32 (x : Int32) (h : x.toBitVec.toNat < 2147483648) : x.toInt = (x.toBitVec.toNat : Int) := by
  have h1 := nat32 x
  have h2 := x.toInt_lt
  have h3 := x.le_toInt
  omega
theorem small64 (x : Int64) (h : x.toBitVec.toNat < 9223372036854775808) : x.toInt = (x.toBitVec.toNat : Int) := by
  have h1 := nat64 x
  have h2 := x.toInt_lt
  have h3 := x.le_toInt
  omega
theorem bv_ushr (x y : Int32) {k : Nat} (hk : (y &&& 31).toBitVec.toNat = k) (h2 : k < 32) : (oushr x y).toBitVec = x.toBitVec >>> k := by
  have e : (oushr x y).toBitVec = x.toBitVec >>> ((y &&& 31).toBitVec % 32#32) := rfl
  rw [e, BitVec.ushiftRight_eq', BitVec.toNat_umod, hk]
  rw [show (32#32).toNat = 32 from rfl, Nat.mod_eq_of_lt h2]
theorem num_ushr (x y : Int32) {k : Nat} (hk : (y &&& 31).toBitVec.toNat = k) (h1 : 0 < k) (h2 : k < 32) : (oushr x y).toInt = x.toInt % 4294967296 / 2 ^ k := by
  have e := congrArg BitVec.toNat (bv_ushr x y hk h2)
  rw [BitVec.toNat_ushiftRight, Nat.shiftRight_eq_div_pow] at e
  have hp : 2 ≤ 2 ^ k := by
    obtain ⟨j, rfl⟩ : ∃ j, k = j + 1 := ⟨k - 1, by omega⟩
    have := Nat.one_le_two_pow (n := j)
    rw [Nat.pow_succ]; omega
  have hl : x.toBitVec.toNat / 2 ^ k ≤ x.toBitVec.toNat / 2 := Nat.div_le_div_left hp (by decide)
  have hx := x.toBitVec.isLt
  rw [small32 _ (by rw [e]; omega), e, ← nat32 x]
  simp
theorem bv_ushrL (x : Int64) (y : Int32) {k : Nat} (hk : (y &&& 0x3f).toInt64.toBitVec.toNat = k) (h2 : k < 64) : (oushrL x y).toBitVec = x.toBitVec >>> k := by
  have e : (oushrL x y).toBitVec = x.toBitVec >>> ((y &&& 0x3f).toInt64.toBitVec % 64#64) := rfl
  rw [e, BitVec.ushiftRight_eq', BitVec.toNat_umod, hk]
  rw [show (64#64).toNat = 64 from rfl, Nat.mod_eq_of_lt h2]
theorem num_ushrL (x : Int64) (y : Int32) {k : Nat} (hk : (y &&& 0x3f).toInt64.toBitVec.toNat = k) (h1 : 0 < k) (h2 : k < 64) : (oushrL x y).toInt = x.toInt % 18446744073709551616 / 2 ^ k := by
  have e := congrArg BitVec.toNat (bv_ushrL x y hk h2)
  rw [BitVec.toNat_ushiftRight, Nat.shiftRight_eq_div_pow] at e
  have hp : 2 ≤ 2 ^ k := by
    obtain ⟨j, rfl⟩ : ∃ j, k = j + 1 := ⟨k - 1, by omega⟩
    have := Nat.one_le_two_pow (n := j)
    rw [Nat.pow_succ]; omega
  have hl : x.toBitVec.toNat / 2 ^ k ≤ x.toBitVec.toNat / 2 := Nat.div_le_div_left hp (by decide)
  have hx := x.toBitVec.isLt
  rw [small64 _ (by rw [e]; omega), e, ← nat64 x]
  simp
theorem own_rem32 {x y : Int32} (hx : 0 ≤ x.toInt) (hy : 0 < y.toInt) : (x - x / y * y).toInt = x.toInt % y.toInt := by
  have hd : (x / y).toInt = x.toInt / y.toInt := by rw [Jvm.Kit.i32_div (by omega), Int.tdiv_eq_ediv_of_nonneg hx]
  have hn : 0 ≤ x.toInt / y.toInt := Int.ediv_nonneg hx (by omega)
  have hm : 0 ≤ x.toInt / y.toInt * y.toInt := Int.mul_nonneg hn (by omega)
  have hl : x.toInt / y.toInt * y.toInt ≤ x.toInt := Int.ediv_mul_le _ (by omega)
  have hX := x.toInt_lt
  have e1 : (x / y * y).toInt = x.toInt / y.toInt * y.toInt := by rw [Jvm.Kit.i32_mul (by rw [hd]; omega) (by rw [hd]; omega), hd]
  rw [Jvm.Kit.i32_sub (by rw [e1]; omega) (by rw [e1]; omega), e1, Int.emod_def, Int.mul_comm]
theorem own_rem64 {x y : Int64} (hx : 0 ≤ x.toInt) : (x - x / y * y).toInt = x.toInt % y.toInt := Jvm.Kit.i64_rem_nonneg hx
theorem idx32 {j : Int32} {k : Nat} (h : j.toInt = k) : ¬ j < 0 ∧ j.toNatClampNeg = k := by
  refine ⟨fun q => ?_, ?_⟩
  · rw [Int32.lt_iff_toInt_lt] at q
    have t : (0 : Int32).toInt = 0 := rfl
    omega
  · show j.toInt.toNat = k
    omega
end Jvm.OwnRun
/-! OwnArr: an array by what each place holds -/
namespace Jvm.OwnRun
open Sem ClassFile Op Lib Jvm.Stand Jvm.Free Jvm.LawKit Jvm.RoadKit
def oupd {α : Type} (f : Nat → α) (i : Nat) (v : α) (k : Nat) : α := if k = i then v else f k
def Ary (Z : State) (h : Heap) (a : Addr) (ty : FieldType) (n : Nat) (f : Nat → Value) : Prop := ∃ c : Cell, Arr Z h a c ty ∧ c.slots.size = n ∧ ∀ k, k < n → c.slots[k]? = some (f k)
abbrev AI (Z : State) (h : Heap) (a : Addr) (ty : FieldType) (n : Nat) (g : Nat → Int32) : Prop := Ary Z h a ty n (fun k => .int (g k))
abbrev AJ (Z : State) (h : Heap) (a : Addr) (n : Nat) (g : Nat → Int64) : Prop := Ary Z h a .long n (fun k => .long (g k))
section
variable {Z : State} {h h' : Heap} {a b : Addr} {ty : FieldType} {n i : Nat} {f : Nat → Value} {v : Value} {ws : List Addr}
theorem Ary.lt (A : Ary Z h a ty n f) : a < h.size := by obtain ⟨c, A, -⟩ := A; exact A.lt
theorem Ary.ext (A : Ary Z h a ty n f) (E : Ext h h') : Ary Z h' a ty n f := by obtain ⟨c, A, r⟩ := A; exact ⟨c, A.ext E, r⟩
theorem Ary.keep (A : Ary Z h a ty n f) (K : Keep h h' ws) (q : a ∉ ws) : Ary Z h' a ty n f := by obtain ⟨c, A, r⟩ := A; exact ⟨c, ⟨K.2.1 a c A.1 q, A.2⟩, r⟩
theorem Ary.set (A : Ary Z h a ty n f) (W : Wr h h' a i v) : Ary Z h' a ty n (oupd f i v) := by
  obtain ⟨c, A, S, H⟩ := A
  refine ⟨_, Arr.same W A, by rw [sz_set]; exact S, fun k hk => ?_⟩
  unfold oupd
  by_cases u : k = i
  · subst u
    have q : k < c.slots.size := by rw [S]; exact hk
    show (c.slots.setIfInBounds k v)[k]? = _
    rw [Array.getElem?_setIfInBounds_self_of_lt q, if_pos rfl]
  · show (c.slots.setIfInBounds i v)[k]? = _
    rw [Array.getElem?_setIfInBounds_ne (fun q => u q.symm), if_neg u]
    exact H k hk
theorem Ary.cast {f' : Nat → Value} (A : Ary Z h a ty n f) (q : ∀ k, k < n → f k = f' k) : Ary Z h a ty n f' := by
  obtain ⟨c, A, S, H⟩ := A
  exact ⟨c, A, S, fun k hk => (q k hk) ▸ H k hk⟩
theorem oupd_int (g : Nat → Int32) (i : Nat) (x : Int32) : oupd (fun k => Value.int (g k)) i (.int x) = fun k => .int (oupd g i x k) := by
  funext k; unfold oupd; split <;> rfl
theorem oupd_long (g : Nat → Int64) (i : Nat) (x : Int64) : oupd (fun k => Value.long (g k)) i (.long x) = fun k => .long (oupd g i x k) := by
  funext k; unfold oupd; split <;> rfl
end
section
variable {p : Program} {l : Launch} {e : Env} {R : Room} {s : State} {m : MethodId} {args : Array Value} {below : List Frame} {meth : Method} {c : Code} {T : State} {locs : List Loc} {cells slots : Nat} {Z : State} {n i n0 : Nat} {a : Addr} {j : Int32} {pc : Nat} {Ls : Array Slot} {rest st : List Value} {a0 : Array Value}
theorem in_of {c : Cell} (S : c.slots.size = n) (h0 : ¬ j < 0) (hj : j.toNatClampNeg = i) (hi : i < n) : ¬ (j < 0 ∨ c.slots.size ≤ j.toNatClampNeg) := fun q => q.elim h0 (fun q => by rw [S, hj] at q; omega)
/-- newarray of a length that is written out -/
theorem mkArr (X : Stand p l e R s m args below meth c T locs cells slots) (hx : p.tables.exec = Jvm.exec) (hZ : Z.Warmed39 s.vm) {aty : ArrayType} (w : (Jvm.Cond.arrayClass (newarray.typeOf aty)).before a0 Z = true) (Z0 : n0 ≤ T.heap.size) (hd : decode c.code pc = .ok (.newarray aty, 2)) {z : Int32} (hz : ¬ z < 0) (hn : z.toNatClampNeg = n) (hb : n * 8 ≤ 536870912) (hc : cells + 1 ≤ R.cells) (hl : slots + n ≤ R.slots) :
    ∃ T' b, Stand p l e R s m args below meth c T' locs (cells + 1) (slots + n) ∧ n0 ≤ b ∧ T.heap.size ≤ b ∧ Ext T.heap T'.heap ∧ Ary Z T'.heap b (newarray.typeOf aty) n (fun _ => defaultValue (newarray.typeOf aty)) ∧ n0 ≤ T'.heap.size ∧ ∀ t, Steps p.tables e below (T'.setTop (mkF m (pc + 2) Ls (.ref b :: rest))) t → Steps p.tables e below (T.setTop (mkF m pc Ls (.int z :: rest))) t := by
  obtain ⟨T', h', cA, X', e', E, A, st⟩ := newP X hx hZ w rfl (g := mkF m pc Ls (.int z :: rest)) rfl hd rfl hz (cap := n) (Nat.le_of_eq hn) hb hc hl
  subst e'
  refine ⟨T', _, X', Z0, Nat.le_refl _, E, ⟨_, A, by rw [sz_new, hn], fun k hk => ?_⟩, Nat.le_trans Z0 E.1, st⟩
  rw [← hn] at hk
  simp [newA, hk]
theorem putI (X : Stand p l e R s m args below meth c T locs cells slots) (hx : p.tables.exec = Jvm.exec) (hZ : Z.Warmed39 s.vm) {g : Nat → Int32} (A : AI Z T.heap a .int n g) (h0 : ¬ j < 0) (hj : j.toNatClampNeg = i) (hi : i < n) (N : Fr n0 locs) (ga : n0 ≤ a) (x : Int32) (hd : decode c.code pc = .ok (.iastore, 1)) :
    ∃ T' locs', Stand p l e R s m args below meth c T' locs' cells slots ∧ Fr n0 locs' ∧ AI Z T'.heap a .int n (oupd g i x) ∧ Keep T.heap T'.heap [a] ∧ ∀ t, Steps p.tables e below (T'.setTop (mkF m (pc + 1) Ls rest)) t → Steps p.tables e below (T.setTop (mkF m pc Ls (.int x :: .int j :: .ref a :: rest))) t := by
  obtain ⟨cl, Ar, S, H⟩ := id A
  obtain ⟨T', h', X', e', W, st⟩ := stI X hx hZ rfl Ar (in_of S h0 hj hi) (g := mkF m pc Ls (.int x :: .int j :: .ref a :: rest)) rfl rfl hd
  subst e'
  refine ⟨T', _, X', Fr.snoc X' N ga, ?_, Keep.of_wr W, st⟩
  have q := A.set W
  rw [hj, oupd_int] at q
  exact q
theorem putB (X : Stand p l e R s m args below meth c T locs cells slots) (hx : p.tables.exec = Jvm.exec) (hZ : Z.Warmed39 s.vm) {g : Nat → Int32} (A : AI Z T.heap a .byte n g) (h0 : ¬ j < 0) (hj : j.toNatClampNeg = i) (hi : i < n) (N : Fr n0 locs) (ga : n0 ≤ a) (x : Int32) (hd : decode c.code pc = .ok (.bastore, 1)) :
    ∃ T' locs', Stand p l e R s m args below meth c T' locs' cells slots ∧ Fr n0 locs' ∧ AI Z T'.heap a .byte n (oupd g i x.toInt8.toInt32) ∧ Keep T.heap T'.heap [a] ∧ ∀ t, Steps p.tables e below (T'.setTop (mkF m (pc + 1) Ls rest)) t → Steps p.tables e below (T.setTop (mkF m pc Ls (.int x :: .int j :: .ref a :: rest))) t := by
  obtain ⟨cl, Ar, S, H⟩ := id A
  obtain ⟨T', h', X', e', W, st⟩ := stB X hx hZ rfl Ar (in_of S h0 hj hi) (g := mkF m pc Ls (.int x :: .int j :: .ref a :: rest)) rfl rfl hd
  subst e'
  refine ⟨T', _, X', Fr.snoc X' N ga, ?_, Keep.of_wr W, st⟩
  have q := A.set W
  rw [hj, oupd_int] at q
  exact q
theorem putJ (X : Stand p l e R s m args below meth c T locs cells slots) (hx : p.tables.exec = Jvm.exec) (hZ : Z.Warmed39 s.vm) {g : Nat → Int64} (A : AJ Z T.heap a n g) (h0 : ¬ j < 0) (hj : j.toNatClampNeg = i) (hi : i < n) (N : Fr n0 locs) (ga : n0 ≤ a) (x : Int64) (hd : decode c.code pc = .ok (.lastore, 1)) :
    ∃ T' locs', Stand p l e R s m args below meth c T' locs' cells slots ∧ Fr n0 locs' ∧ AJ Z T'.heap a n (oupd g i x) ∧ Keep T.heap T'.heap [a] ∧ ∀ t, Steps p.tables e below (T'.setTop (mkF m (pc + 1) Ls rest)) t → Steps p.tables e below (T.setTop (mkF m pc Ls (.long x :: .int j :: .ref a :: rest))) t := by
  obtain ⟨cl, Ar, S, H⟩ := id A
  obtain ⟨T', h', X', e', W, st⟩ := stJ X hx hZ rfl Ar (in_of S h0 hj hi) (g := mkF m pc Ls (.long x :: .int j :: .ref a :: rest)) rfl rfl hd
  subst e'
  refine ⟨T', _, X', Fr.snoc X' N ga, ?_, Keep.of_wr W, st⟩
  have q := A.set W
  rw [hj, oupd_long] at q
  exact q
theorem getI (X : Stand p l e R s m args below meth c T locs cells slots) (hx : p.tables.exec = Jvm.exec) (hZ : Z.Warmed39 s.vm) {g : Nat → Int32} (A : AI Z T.heap a .int n g) (h0 : ¬ j < 0) (hj : j.toNatClampNeg = i) (hi : i < n) (hd : decode c.code pc = .ok (.iaload, 1)) (t : State) (k : Steps p.tables e below (T.setTop (mkF m (pc + 1) Ls (.int (g i) :: rest))) t) : Steps p.tables e below (T.setTop (mkF m pc Ls (.int j :: .ref a :: rest))) t := by
  obtain ⟨cl, Ar, S, H⟩ := A
  exact X.iaload hx (v := .int (g i)) Ar.1 (State.isArrayOf_alike hZ.alike Ar.2.1) Ar.2.2 (in_of S h0 hj hi) (by rw [hj]; exact H i hi) (g := mkF m pc Ls (.int j :: .ref a :: rest)) rfl rfl hd _ k
theorem getB (X : Stand p l e R s m args below meth c T locs cells slots) (hx : p.tables.exec = Jvm.exec) (hZ : Z.Warmed39 s.vm) {g : Nat → Int32} (A : AI Z T.heap a .byte n g) (h0 : ¬ j < 0) (hj : j.toNatClampNeg = i) (hi : i < n) (hd : decode c.code pc = .ok (.baload, 1)) (t : State) (k : Steps p.tables e below (T.setTop (mkF m (pc + 1) Ls (.int (g i) :: rest))) t) : Steps p.tables e below (T.setTop (mkF m pc Ls (.int j :: .ref a :: rest))) t := by
  obtain ⟨cl, Ar, S, H⟩ := A
  exact X.baloadBytes hx (v := .int (g i)) Ar.1 (State.isArrayOf_alike hZ.alike Ar.2.1) Ar.2.2 (in_of S h0 hj hi) (by rw [hj]; exact H i hi) (g := mkF m pc Ls (.int j :: .ref a :: rest)) rfl rfl hd _ k
theorem getJ (X : Stand p l e R s m args below meth c T locs cells slots) (hx : p.tables.exec = Jvm.exec) (hZ : Z.Warmed39 s.vm) {g : Nat → Int64} (A : AJ Z T.heap a n g) (h0 : ¬ j < 0) (hj : j.toNatClampNeg = i) (hi : i < n) (hd : decode c.code pc = .ok (.laload, 1)) (t : State) (k : Steps p.tables e below (T.setTop (mkF m (pc + 1) Ls (.long (g i) :: rest))) t) : Steps p.tables e below (T.setTop (mkF m pc Ls (.int j :: .ref a :: rest))) t := by
  obtain ⟨cl, Ar, S, H⟩ := A
  exact X.laload hx (v := .long (g i)) Ar.1 (State.isArrayOf_alike hZ.alike Ar.2.1) Ar.2.2 (in_of S h0 hj hi) (by rw [hj]; exact H i hi) (g := mkF m pc Ls (.int j :: .ref a :: rest)) rfl rfl hd _ k
theorem lenA (X : Stand p l e R s m args below meth c T locs cells slots) (hx : p.tables.exec = Jvm.exec) (hZ : Z.Warmed39 s.vm) {ty : FieldType} {f : Nat → Value} (A : Ary Z T.heap a ty n f) (hd : decode c.code pc = .ok (.arraylength, 1)) (t : State) (k : Steps p.tables e below (T.setTop (mkF m (pc + 1) Ls (.int n.toInt32 :: rest))) t) : Steps p.tables e below (T.setTop (mkF m pc Ls (.ref a :: rest))) t := by
  obtain ⟨cl, Ar, S, H⟩ := A
  subst S
  exact X.arraylength hx (cell := cl) Ar.1 (State.isArrayOf_alike hZ.alike Ar.2.1) (g := mkF m pc Ls (.ref a :: rest)) rfl (rest := rest) rfl hd _ k
end
end Jvm.OwnRun
namespace Jvm.Pilot.@@N@@
open Jvm Jvm.ClassFile Sem Op Lib Jvm.Free Jvm.Stand Jvm.LawKit Jvm.RoadKit Bundle Jvm.Pilot.@@N@@.Jvm.D Jvm.OwnRun

theorem d1_0 : decode prog_41_method_16_code 0 = .ok (.iload_n 1, 1) := by decide +kernel
theorem d1_1 : decode prog_41_method_16_code 1 = .ok (.istore_n 3, 1) := by decide +kernel
theorem d1_2 : decode prog_41_method_16_code 2 = .ok (.iload_n 2, 1) := by decide +kernel
theorem d1_3 : decode prog_41_method_16_code 3 = .ok (.istore 4, 2) := by decide +kernel
theorem d1_5 : decode prog_41_method_16_code 5 = .ok (.iload 4, 2) := by decide +kernel
theorem d1_7 : decode prog_41_method_16_code 7 = .ok (.bipush (-128), 2) := by decide +kernel
theorem d1_9 : decode prog_41_method_16_code 9 = .ok (.iand, 1) := by decide +kernel
theorem d1_10 : decode prog_41_method_16_code 10 = .ok (.ifCond .eq 29, 3) := by decide +kernel
theorem d1_13 : decode prog_41_method_16_code 13 = .ok (.aload_n 0, 1) := by decide +kernel
theorem d1_14 : decode prog_41_method_16_code 14 = .ok (.iload_n 3, 1) := by decide +kernel
theorem d1_15 : decode prog_41_method_16_code 15 = .ok (.iinc 3 1, 3) := by decide +kernel
theorem d1_18 : decode prog_41_method_16_code 18 = .ok (.iload 4, 2) := by decide +kernel
theorem d1_20 : decode prog_41_method_16_code 20 = .ok (.bipush 127, 2) := by decide +kernel
theorem d1_22 : decode prog_41_method_16_code 22 = .ok (.iand, 1) := by decide +kernel
theorem d1_23 : decode prog_41_method_16_code 23 = .ok (.sipush 128, 3) := by decide +kernel
theorem d1_26 : decode prog_41_method_16_code 26 = .ok (.ior, 1) := by decide +kernel
theorem d1_27 : decode prog_41_method_16_code 27 = .ok (.i2b, 1) := by decide +kernel
theorem d1_28 : decode prog_41_method_16_code 28 = .ok (.bastore, 1) := by decide +kernel
theorem d1_29 : decode prog_41_method_16_code 29 = .ok (.iload 4, 2) := by decide +kernel
theorem d1_31 : decode prog_41_method_16_code 31 = .ok (.bipush 7, 2) := by decide +kernel
theorem d1_33 : decode prog_41_method_16_code 33 = .ok (.iushr, 1) := by decide +kernel
theorem d1_34 : decode prog_41_method_16_code 34 = .ok (.istore 4, 2) := by decide +kernel
theorem d1_36 : decode prog_41_method_16_code 36 = .ok (.goto (-31), 3) := by decide +kernel
theorem d1_39 : decode prog_41_method_16_code 39 = .ok (.aload_n 0, 1) := by decide +kernel
theorem d1_40 : decode prog_41_method_16_code 40 = .ok (.iload_n 3, 1) := by decide +kernel
theorem d1_41 : decode prog_41_method_16_code 41 = .ok (.iinc 3 1, 3) := by decide +kernel
theorem d1_44 : decode prog_41_method_16_code 44 = .ok (.iload 4, 2) := by decide +kernel
theorem d1_46 : decode prog_41_method_16_code 46 = .ok (.i2b, 1) := by decide +kernel
theorem d1_47 : decode prog_41_method_16_code 47 = .ok (.bastore, 1) := by decide +kernel
theorem d1_48 : decode prog_41_method_16_code 48 = .ok (.iload_n 3, 1) := by decide +kernel
theorem d1_49 : decode prog_41_method_16_code 49 = .ok (.ireturn, 1) := by decide +kernel
theorem d2_0 : decode method_3_code 0 = .ok (.lload_n 0, 1) := by decide +kernel
theorem d2_1 : decode method_3_code 1 = .ok (.ldc2_w 25, 3) := by decide +kernel
theorem d2_4 : decode method_3_code 4 = .ok (.lcmp, 1) := by decide +kernel
theorem d2_5 : decode method_3_code 5 = .ok (.ifCond .ge 5, 3) := by decide +kernel
theorem d2_8 : decode method_3_code 8 = .ok (.iconst 1, 1) := by decide +kernel
theorem d2_9 : decode method_3_code 9 = .ok (.ireturn, 1) := by decide +kernel
theorem d2_10 : decode method_3_code 10 = .ok (.lload_n 0, 1) := by decide +kernel
theorem d2_11 : decode method_3_code 11 = .ok (.ldc2_w 27, 3) := by decide +kernel
theorem d2_14 : decode method_3_code 14 = .ok (.lcmp, 1) := by decide +kernel
theorem d2_15 : decode method_3_code 15 = .ok (.ifCond .ge 5, 3) := by decide +kernel
theorem d2_18 : decode method_3_code 18 = .ok (.iconst 2, 1) := by decide +kernel
theorem d2_19 : decode method_3_code 19 = .ok (.ireturn, 1) := by decide +kernel
theorem d2_20 : decode method_3_code 20 = .ok (.lload_n 0, 1) := by decide +kernel
theorem d2_21 : decode method_3_code 21 = .ok (.ldc2_w 29, 3) := by decide +kernel
theorem d2_24 : decode method_3_code 24 = .ok (.lcmp, 1) := by decide +kernel
theorem d2_25 : decode method_3_code 25 = .ok (.ifCond .ge 5, 3) := by decide +kernel
theorem d2_28 : decode method_3_code 28 = .ok (.iconst 3, 1) := by decide +kernel
theorem d2_29 : decode method_3_code 29 = .ok (.ireturn, 1) := by decide +kernel
theorem d2_30 : decode method_3_code 30 = .ok (.lload_n 0, 1) := by decide +kernel
theorem d2_31 : decode method_3_code 31 = .ok (.ldc2_w 31, 3) := by decide +kernel
theorem d2_34 : decode method_3_code 34 = .ok (.lcmp, 1) := by decide +kernel
theorem d2_35 : decode method_3_code 35 = .ok (.ifCond .ge 5, 3) := by decide +kernel
theorem d2_38 : decode method_3_code 38 = .ok (.iconst 4, 1) := by decide +kernel
theorem d2_39 : decode method_3_code 39 = .ok (.ireturn, 1) := by decide +kernel
theorem d2_40 : decode method_3_code 40 = .ok (.iconst 5, 1) := by decide +kernel
theorem d2_41 : decode method_3_code 41 = .ok (.ireturn, 1) := by decide +kernel
theorem d3_0 : decode method_4_code 0 = .ok (.iload_n 1, 1) := by decide +kernel
theorem d3_1 : decode method_4_code 1 = .ok (.iload_n 2, 1) := by decide +kernel
theorem d3_2 : decode method_4_code 2 = .ok (.isub, 1) := by decide +kernel
theorem d3_3 : decode method_4_code 3 = .ok (.istore 7, 2) := by decide +kernel
theorem d3_5 : decode method_4_code 5 = .ok (.iload 7, 2) := by decide +kernel
theorem d3_7 : decode method_4_code 7 = .ok (.ifCond .lt 9, 3) := by decide +kernel
theorem d3_10 : decode method_4_code 10 = .ok (.iload 7, 2) := by decide +kernel
theorem d3_12 : decode method_4_code 12 = .ok (.iload_n 3, 1) := by decide +kernel
theorem d3_13 : decode method_4_code 13 = .ok (.if_icmp .lt 10, 3) := by decide +kernel
theorem d3_16 : decode method_4_code 16 = .ok (.iload 6, 2) := by decide +kernel
theorem d3_18 : decode method_4_code 18 = .ok (.istore 8, 2) := by decide +kernel
theorem d3_20 : decode method_4_code 20 = .ok (.goto 40, 3) := by decide +kernel
theorem d3_23 : decode method_4_code 23 = .ok (.lload 4, 2) := by decide +kernel
theorem d3_25 : decode method_4_code 25 = .ok (.bipush 7, 2) := by decide +kernel
theorem d3_27 : decode method_4_code 27 = .ok (.iload 7, 2) := by decide +kernel
theorem d3_29 : decode method_4_code 29 = .ok (.imul, 1) := by decide +kernel
theorem d3_30 : decode method_4_code 30 = .ok (.lushr, 1) := by decide +kernel
theorem d3_31 : decode method_4_code 31 = .ok (.ldc2_w 33, 3) := by decide +kernel
theorem d3_34 : decode method_4_code 34 = .ok (.land, 1) := by decide +kernel
theorem d3_35 : decode method_4_code 35 = .ok (.l2i, 1) := by decide +kernel
theorem d3_36 : decode method_4_code 36 = .ok (.istore 9, 2) := by decide +kernel
theorem d3_38 : decode method_4_code 38 = .ok (.iload 7, 2) := by decide +kernel
theorem d3_40 : decode method_4_code 40 = .ok (.iload_n 3, 1) := by decide +kernel
theorem d3_41 : decode method_4_code 41 = .ok (.iconst 1, 1) := by decide +kernel
theorem d3_42 : decode method_4_code 42 = .ok (.isub, 1) := by decide +kernel
theorem d3_43 : decode method_4_code 43 = .ok (.if_icmp .ge 12, 3) := by decide +kernel
theorem d3_46 : decode method_4_code 46 = .ok (.iload 9, 2) := by decide +kernel
theorem d3_48 : decode method_4_code 48 = .ok (.sipush 128, 3) := by decide +kernel
theorem d3_51 : decode method_4_code 51 = .ok (.ior, 1) := by decide +kernel
theorem d3_52 : decode method_4_code 52 = .ok (.goto 5, 3) := by decide +kernel
theorem d3_55 : decode method_4_code 55 = .ok (.iload 9, 2) := by decide +kernel
theorem d3_57 : decode method_4_code 57 = .ok (.i2b, 1) := by decide +kernel
theorem d3_58 : decode method_4_code 58 = .ok (.istore 8, 2) := by decide +kernel
theorem d3_60 : decode method_4_code 60 = .ok (.aload_n 0, 1) := by decide +kernel
theorem d3_61 : decode method_4_code 61 = .ok (.iload_n 1, 1) := by decide +kernel
theorem d3_62 : decode method_4_code 62 = .ok (.baload, 1) := by decide +kernel
theorem d3_63 : decode method_4_code 63 = .ok (.iload 8, 2) := by decide +kernel
theorem d3_65 : decode method_4_code 65 = .ok (.if_icmp .ne 7, 3) := by decide +kernel
theorem d3_68 : decode method_4_code 68 = .ok (.iconst 1, 1) := by decide +kernel
theorem d3_69 : decode method_4_code 69 = .ok (.goto 4, 3) := by decide +kernel
theorem d3_72 : decode method_4_code 72 = .ok (.iconst 0, 1) := by decide +kernel
theorem d3_73 : decode method_4_code 73 = .ok (.ireturn, 1) := by decide +kernel
theorem b_m128 : Int8.toInt32 (-128) = (-128) := by decide
theorem b_6 : Int8.toInt32 6 = 6 := by decide
theorem b_7 : Int8.toInt32 7 = 7 := by decide
theorem b_8 : Int8.toInt32 8 = 8 := by decide
theorem b_9 : Int8.toInt32 9 = 9 := by decide
theorem b_10 : Int8.toInt32 10 = 10 := by decide
theorem b_11 : Int8.toInt32 11 = 11 := by decide
theorem b_12 : Int8.toInt32 12 = 12 := by decide
theorem b_13 : Int8.toInt32 13 = 13 := by decide
theorem b_127 : Int8.toInt32 127 = 127 := by decide
theorem s_128 : Int16.toInt32 128 = 128 := by decide
def ci0 : List (Nat × Int32) := []
def cj0 : List (Nat × Int64) := [(13, 4294967295), (25, 128), (33, 127), (27, 16384), (29, 2097152), (31, 268435456)]
def ci1 : List (Nat × Int32) := []
def cj1 : List (Nat × Int64) := []
def ci2 : List (Nat × Int32) := []
def cj2 : List (Nat × Int64) := [(13, 4294967295), (25, 128), (33, 127), (27, 16384), (29, 2097152), (31, 268435456)]
def ci3 : List (Nat × Int32) := []
def cj3 : List (Nat × Int64) := [(13, 4294967295), (25, 128), (33, 127), (27, 16384), (29, 2097152), (31, 268435456)]

theorem pn_0 : plainName "com/example/riffle/riffle/RowFormatWriteVarintPinLaw" = true := by first | (simp [plainName, overriddenIn]; done) | decide +kernel
theorem ef_0 (m : MethodId) (x0 : Int32) (x1 : Int32) (x2 : Int32) : entryFrame m #[(.int x0), (.int x1), (.int x2)] maxLocals = mkF m 0 #[.val (.int x0), .val (.int x1), .val (.int x2), .unset, .unset, .unset, .unset, .unset, .unset, .unset] [] := by first | (simp [entryFrame, mkF, argsToLocals, Value.category, maxLocals]; done) | rfl
theorem pn_1 : plainName "com/example/riffle/riffle/RowFormat" = true := by first | (simp [plainName, overriddenIn]; done) | decide +kernel
theorem ef_1 (m : MethodId) (x0 : Addr) (x1 : Int32) (x2 : Int32) : entryFrame m #[(.ref x0), (.int x1), (.int x2)] 5 = mkF m 0 #[.val (.ref x0), .val (.int x1), .val (.int x2), .unset, .unset] [] := by first | (simp [entryFrame, mkF, argsToLocals, Value.category]; done) | rfl
theorem pd_1 : parseMethodDescriptor "([BII)I" = some ⟨[.array .byte, .int, .int], some .int⟩ := by decide +kernel
theorem pn_2 : plainName "com/example/riffle/riffle/RowFormatWriteVarintPinLaw" = true := by first | (simp [plainName, overriddenIn]; done) | decide +kernel
theorem ef_2 (m : MethodId) (x0 : Int64) : entryFrame m #[(.long x0)] 2 = mkF m 0 #[.val (.long x0), .second] [] := by first | (simp [entryFrame, mkF, argsToLocals, Value.category]; done) | rfl
theorem pd_2 : parseMethodDescriptor "(J)I" = some ⟨[.long], some .int⟩ := by decide +kernel
theorem pn_3 : plainName "com/example/riffle/riffle/RowFormatWriteVarintPinLaw" = true := by first | (simp [plainName, overriddenIn]; done) | decide +kernel
theorem ef_3 (m : MethodId) (x0 : Addr) (x1 : Int32) (x2 : Int32) (x3 : Int32) (x4 : Int64) (x5 : Int32) : entryFrame m #[(.ref x0), (.int x1), (.int x2), (.int x3), (.long x4), (.int x5)] 10 = mkF m 0 #[.val (.ref x0), .val (.int x1), .val (.int x2), .val (.int x3), .val (.long x4), .second, .val (.int x5), .unset, .unset, .unset] [] := by first | (simp [entryFrame, mkF, argsToLocals, Value.category]; done) | rfl
theorem pd_3 : parseMethodDescriptor "([BIIIJB)Z" = some ⟨[.array .byte, .int, .int, .int, .long, .byte], some .boolean⟩ := by decide +kernel

/-! the plain functions -/
def own_by (x : Int32) : Int32 := x.toInt8.toInt32
def own_wr : Nat → (Nat → Int32) → Nat → Int32 → Nat → Int32
  | 0, G, i, v => oupd G i (own_by v)
  | n + 1, G, i, v => own_wr n (oupd G i (own_by ((v &&& 127) ||| 128))) (i + 1) (oushr v 7)
def Fits : Nat → Int32 → Prop
  | 0, v => v &&& -128 = 0
  | n + 1, v => (¬ v &&& -128 = 0) ∧ Fits n (oushr v 7)
def own_sh : Nat → Int32 → Int32
  | 0, v => v
  | t + 1, v => own_sh t (oushr v 7)
def own_size (u : Int64) : Int32 := if u < 128 then 1 else if u < 16384 then 2 else if u < 2097152 then 3 else if u < 268435456 then 4 else 5
def own_grp (u : Int64) (i : Int32) : Int32 := (oushrL u (7 * i) &&& 127).toInt32
def own_want (i n : Int32) (u : Int64) (f : Int32) : Int32 := if i < 0 ∨ ¬ i < n then f else own_by (if i < n - 1 then own_grp u i ||| 128 else own_grp u i)
def own_u (v : Int32) : Int64 := v.toInt64 &&& 4294967295
theorem own_byI (x : Int32) : (own_by x).toInt = x.toInt.bmod 256 := by
  unfold own_by
  rw [Int8.toInt_toInt32, Int32.toInt_toInt8]
theorem own_bm (x : Int) : (x.bmod 256 - x) % 256 = 0 ∧ -128 ≤ x.bmod 256 ∧ x.bmod 256 < 128 := by
  have h1 := Int.bmod_emod (x := x) (m := 256)
  have h2 := Int.le_bmod (x := x) (m := 256) (by decide)
  have h3 := Int.bmod_lt (x := x) (m := 256) (by decide)
  omega
theorem own_nar (x : Int32) : nar .byte (own_by x) = own_by x := by
  show (own_by x).toInt8.toInt32 = own_by x
  unfold own_by
  simp
theorem own_orN (a c k : Nat) (hc : c < 2 ^ k) : a * 2 ^ k ||| c = a * 2 ^ k + c := by
  rw [Nat.mul_comm]
  exact (Nat.two_pow_add_eq_or_of_lt hc a).symm
theorem own_byby (x : Int32) : (own_by x).toInt8.toInt32 = own_by x := own_nar x
theorem own_un (v : Int32) : (own_u v).toBitVec.toNat = v.toBitVec.toNat ∧ (own_u v).toInt = v.toBitVec.toNat := by
  have e : (own_u v).toInt = v.toInt64.toInt % 2 ^ 32 := Jvm.Kit.i64_mask v.toInt64 4294967295 (k := 32) (by decide) (by decide)
  rw [Jvm.Kit.i64_of_i32] at e
  have n1 := nat32 v
  have n2 := nat64 (own_u v)
  have hl := v.toBitVec.isLt
  omega
theorem own_shb (v : Int32) : (oushr v 7).toBitVec.toNat = v.toBitVec.toNat / 128 := by
  rw [bv_ushr v 7 (k := 7) (by decide) (by decide), BitVec.toNat_ushiftRight, Nat.shiftRight_eq_div_pow]
theorem own_shn : ∀ (t : Nat) (v : Int32), (own_sh t v).toBitVec.toNat = v.toBitVec.toNat / 2 ^ (7 * t)
  | 0, v => by show v.toBitVec.toNat = _; simp
  | t + 1, v => by
    show (own_sh t (oushr v 7)).toBitVec.toNat = _
    rw [own_shn t (oushr v 7), own_shb, Nat.div_div_eq_div_mul, show 7 * (t + 1) = 7 + 7 * t by omega, Nat.pow_add]
theorem own_neg (v : Int32) : v &&& -128 = 0 ↔ v.toBitVec.toNat < 128 := by
  have e : (v &&& -128).toBitVec.toNat = v.toBitVec.toNat &&& 4294967168 := by
    rw [Int32.toBitVec_and, BitVec.toNat_and]; rfl
  have hl := v.toBitVec.isLt
  have key : v.toBitVec.toNat &&& 4294967168 = v.toBitVec.toNat / 128 * 128 := by
    have s1 : (4294967168 : Nat) = (2 ^ 25 - 1) <<< 7 := by decide
    have s2 : v.toBitVec.toNat / 128 * 128 = (v.toBitVec.toNat >>> 7) <<< 7 := by rw [Nat.shiftLeft_eq, Nat.shiftRight_eq_div_pow]
    rw [s1, s2]
    apply Nat.eq_of_testBit_eq
    intro i
    simp only [Nat.testBit_and, Nat.testBit_shiftLeft, Nat.testBit_shiftRight, Nat.testBit_two_pow_sub_one]
    by_cases h : i ≥ 7
    · have a1 : 7 + (i - 7) = i := by omega
      rw [a1]
      by_cases h2 : i - 7 < 25
      · simp [h, h2]
      · have : v.toBitVec.toNat.testBit i = false := Nat.testBit_lt_two_pow (Nat.lt_of_lt_of_le hl (Nat.pow_le_pow_right (by decide) (by omega)))
        simp [h, this]
    · simp [h]
  rw [key] at e
  refine ⟨fun h => ?_, fun h => ?_⟩
  · rw [h] at e
    have : (0 : Int32).toBitVec.toNat = 0 := rfl
    omega
  · apply Int32.toBitVec_inj.mp
    apply BitVec.eq_of_toNat_eq
    rw [e]
    show _ = 0
    omega
theorem own_fit : ∀ (n : Nat) (v : Int32), v.toBitVec.toNat < 2 ^ (7 * (n + 1)) → (n = 0 ∨ 2 ^ (7 * n) ≤ v.toBitVec.toNat) → Fits n v
  | 0, v, h, _ => (own_neg v).mpr (by omega)
  | n + 1, v, h, h2 => by
    have h3 : 2 ^ (7 * (n + 1)) ≤ v.toBitVec.toNat := h2.resolve_left (by omega)
    have hp : 2 ^ (7 * (n + 1)) = 128 * 2 ^ (7 * n) := by rw [show 7 * (n + 1) = 7 + 7 * n by omega, Nat.pow_add]
    have hp2 : 2 ^ (7 * (n + 1 + 1)) = 128 * 2 ^ (7 * (n + 1)) := by rw [show 7 * (n + 1 + 1) = 7 + 7 * (n + 1) by omega, Nat.pow_add]
    have hpos : 0 < 2 ^ (7 * n) := Nat.two_pow_pos _
    refine ⟨fun q => ?_, own_fit n (oushr v 7) ?_ (Or.inr ?_)⟩
    · have := (own_neg v).mp q
      omega
    · rw [own_shb]; omega
    · rw [own_shb]; omega
theorem own_sizes (v : Int32) : ∃ n : Nat, n ≤ 4 ∧ own_size (own_u v) = Int32.ofNat (n + 1) ∧ Fits n v ∧ v.toBitVec.toNat / 2 ^ (7 * n) < 128 := by
  have e := (own_un v).2
  have hl := v.toBitVec.isLt
  have t1 : (128 : Int64).toInt = 128 := by decide
  have t2 : (16384 : Int64).toInt = 16384 := by decide
  have t3 : (2097152 : Int64).toInt = 2097152 := by decide
  have t4 : (268435456 : Int64).toInt = 268435456 := by decide
  unfold own_size
  simp only [Int64.lt_iff_toInt_lt, e, t1, t2, t3, t4]
  by_cases h1 : (v.toBitVec.toNat : Int) < 128
  · rw [if_pos h1]; exact ⟨0, by decide, rfl, own_fit 0 v (by omega) (Or.inl rfl), by omega⟩
  · rw [if_neg h1]
    by_cases h2 : (v.toBitVec.toNat : Int) < 16384
    · rw [if_pos h2]; exact ⟨1, by decide, rfl, own_fit 1 v (by omega) (Or.inr (by omega)), by omega⟩
    · rw [if_neg h2]
      by_cases h3 : (v.toBitVec.toNat : Int) < 2097152
      · rw [if_pos h3]; exact ⟨2, by decide, rfl, own_fit 2 v (by omega) (Or.inr (by omega)), by omega⟩
      · rw [if_neg h3]
        by_cases h4 : (v.toBitVec.toNat : Int) < 268435456
        · rw [if_pos h4]; exact ⟨3, by decide, rfl, own_fit 3 v (by omega) (Or.inr (by omega)), by omega⟩
        · rw [if_neg h4]; exact ⟨4, by decide, rfl, own_fit 4 v (by omega) (Or.inr (by omega)), by omega⟩
theorem own_wrat : ∀ (n : Nat) (G : Nat → Int32) (i : Nat) (v : Int32) (k : Nat), own_wr n G i v k = if k < i ∨ i + n < k then G k else if k < i + n then own_by ((own_sh (k - i) v &&& 127) ||| 128) else own_by (own_sh n v)
  | 0, G, i, v, k => by
    show oupd G i (own_by v) k = _
    unfold oupd
    by_cases h : k = i
    · subst h; simp [own_sh]
    · rw [if_neg h, if_pos (by omega)]
  | n + 1, G, i, v, k => by
    show own_wr n (oupd G i (own_by ((v &&& 127) ||| 128))) (i + 1) (oushr v 7) k = _
    rw [own_wrat n _ (i + 1) (oushr v 7) k]
    by_cases h0 : k < i
    · rw [if_pos (by omega), if_pos (by omega)]
      unfold oupd
      rw [if_neg (by omega)]
    · by_cases h1 : k = i
      · subst h1
        rw [if_pos (by omega), if_neg (by omega), if_pos (by omega)]
        unfold oupd
        rw [if_pos rfl, Nat.sub_self]
        rfl
      · by_cases h2 : i + (n + 1) < k
        · rw [if_pos (by omega), if_pos (by omega)]
          unfold oupd
          rw [if_neg (by omega)]
        · have c1 : ¬ (k < i + 1 ∨ i + 1 + n < k) := by omega
          have c2 : ¬ (k < i ∨ i + (n + 1) < k) := by omega
          rw [if_neg c1, if_neg c2]
          by_cases h3 : k < i + (n + 1)
          · have c3 : k < i + 1 + n := by omega
            rw [if_pos c3, if_pos h3]
            obtain ⟨t, ht⟩ : ∃ t, k - i = t + 1 := ⟨k - i - 1, by omega⟩
            rw [ht, show k - (i + 1) = t by omega]
            rfl
          · have c3 : ¬ k < i + 1 + n := by omega
            rw [if_neg c3, if_neg h3]
            rfl
theorem own_shift (y : Int32) (k : Nat) (h : y.toInt = k) (hk : k < 64) : (y &&& 0x3f).toInt64.toBitVec.toNat = k := by
  have e : (y &&& 0x3f).toInt = y.toInt % 2 ^ 6 := Jvm.Kit.i32_mask y 0x3f (k := 6) (by decide) (by decide)
  have e2 : (y &&& 0x3f).toInt64.toInt = k := by rw [Jvm.Kit.i64_of_i32, e, h]; omega
  have e3 := nat64 (y &&& 0x3f).toInt64
  rw [e2] at e3
  omega
theorem own_gn (v i : Int32) (t : Nat) (hi : i.toInt = t) (ht : t ≤ 4) : (own_grp (own_u v) i).toInt = (v.toBitVec.toNat / 2 ^ (7 * t) % 128 : Nat) := by
  have t7 : (7 : Int32).toInt = 7 := by decide
  have e7 : (7 * i).toInt = (7 * t : Nat) := by rw [Jvm.Kit.i32_mul (by rw [t7, hi]; omega) (by rw [t7, hi]; omega), t7, hi]; omega
  have eb : (oushrL (own_u v) (7 * i)).toBitVec.toNat = v.toBitVec.toNat / 2 ^ (7 * t) := by
    rw [bv_ushrL _ _ (own_shift _ _ e7 (by omega)) (by omega), BitVec.toNat_ushiftRight, Nat.shiftRight_eq_div_pow, (own_un v).1]
  have hl := v.toBitVec.isLt
  have hle : v.toBitVec.toNat / 2 ^ (7 * t) ≤ v.toBitVec.toNat := Nat.div_le_self _ _
  have es := small64 (oushrL (own_u v) (7 * i)) (by omega)
  have em : (oushrL (own_u v) (7 * i) &&& 127).toInt = (oushrL (own_u v) (7 * i)).toInt % 2 ^ 7 := Jvm.Kit.i64_mask _ 127 (k := 7) (by decide) (by decide)
  unfold own_grp
  rw [Jvm.Kit.i32_of_i64 (by omega) (by omega), em, es, eb]
  omega
theorem own_eq32 {x y : Int32} (h : x.toInt = y.toInt) : x = y := Int32.toInt_inj.mp h
/-- every place holds what the law asks for -/
theorem own_law (v o f jI : Int32) (G : Nat → Int32) (F n j : Nat) (hn : n ≤ 4) (hF : o.toInt = F) (bF : F ≤ 7) (hj : jI.toInt = j) (bj : j < 13) (hG : G j = f) (hv : v.toBitVec.toNat / 2 ^ (7 * n) < 128) :
    own_wr n G F v j = own_want (jI - o) (Int32.ofNat (n + 1)) (own_u v) f := by
  have t0 : (0 : Int32).toInt = 0 := by decide
  have t1 : (1 : Int32).toInt = 1 := by decide
  have ed : (jI - o).toInt = (j : Int) - F := by rw [Jvm.Kit.i32_sub (by omega) (by omega), hj, hF]
  have en : (Int32.ofNat (n + 1)).toInt = (n : Int) + 1 := by rw [Int32.toInt_ofNat_of_lt (by omega)]; omega
  have en1 : (Int32.ofNat (n + 1) - 1).toInt = n := by rw [Jvm.Kit.i32_sub (by rw [en, t1]; omega) (by rw [en, t1]; omega), en, t1]; omega
  rw [own_wrat]
  unfold own_want
  by_cases h1 : j < F ∨ F + n < j
  · rw [if_pos h1, if_pos (by rw [Int32.lt_iff_toInt_lt, Int32.lt_iff_toInt_lt, ed, en, t0]; omega), hG]
  · have c2 : ¬ (jI - o < 0 ∨ ¬ jI - o < Int32.ofNat (n + 1)) := by rw [Int32.lt_iff_toInt_lt, Int32.lt_iff_toInt_lt, ed, en, t0]; omega
    rw [if_neg h1, if_neg c2]
    have hi : (jI - o).toInt = (j - F : Nat) := by rw [ed]; omega
    have eg := own_gn v (jI - o) (j - F) hi (by omega)
    have em : ∀ x : Int32, (x &&& 127).toInt = x.toInt % 2 ^ 7 := fun x => Jvm.Kit.i32_mask x 127 (k := 7) (by decide) (by decide)
    by_cases h2 : j < F + n
    · rw [if_pos h2, if_pos (by rw [Int32.lt_iff_toInt_lt, ed, en1]; omega)]
      have q : own_sh (j - F) v &&& 127 = own_grp (own_u v) (jI - o) := own_eq32 (by
        rw [em, eg]
        have n1 := nat32 (own_sh (j - F) v)
        rw [own_shn] at n1
        omega)
      rw [q]
    · rw [if_neg h2, if_neg (by rw [Int32.lt_iff_toInt_lt, ed, en1]; omega)]
      have hjn : j - F = n := by omega
      have q : own_sh n v = own_grp (own_u v) (jI - o) := own_eq32 (by
        rw [eg, hjn]
        have n2 := own_shn n v
        rw [small32 _ (by omega), n2]
        omega)
      rw [q]
/-! the stretches -/
set_option maxRecDepth 65536 in
set_option maxHeartbeats 4000000 in
theorem ww_0 (a : Addr) (o v0 : Int32) : wpo prog_41_method_16_code ci1 cj1 [5] 90 0 [.val (.ref a), .val (.int o), .val (.int v0), .unset, .unset] [] (fun b M u => b = 5 ∧ M = [.val (.ref a), .val (.int o), .val (.int v0), .val (.int o), .val (.int v0)] ∧ u = []) := by
  simp only [r_wp0, r_wpS, r_nxt, r_stop0, r_stopS, r_go, r_goIf, r_fork, r_tgt, r_okO, r_gI, r_gJ, r_gA, r_pI, r_pJ, r_pA, r_p1r, r_p1i, r_pII, r_pJJ, r_pJI, r_fnd0, r_fndS, r_gC, r_gC0, r_gB, r_st1, r_st2, r_eq, r_ne, r_lt, r_ge, r_gt, r_le, r_eqL, r_neL, r_ltL, r_geL, r_gtL, r_leL, r_f0, r_f1, r_f2, r_f3, r_im1, r_i0, r_i1, r_i2, r_i3, r_i4, r_i5, r_i7, r_l0, r_l1, lget_z, lget_s, lput_z, lput_s, one_unset, one_int, one_ref, two_unset, two_long, cond_true, cond_false, true_and, and_true, not_true_eq_false, not_false_eq_true, true_implies, false_implies, implies_true, ne_eq, Classical.not_not, Int.cast_ofNat_Int, ite_true, seval, and_self, n_aload_n, n_bastore, n_bipush, n_goto, n_i2b, n_iand, n_ifCond, n_iinc, n_iload, n_iload_n, n_ior, n_ireturn, n_istore, n_istore_n, n_iushr, n_sipush, b_m128, b_127, b_7, s_128, ci1, cj1, d1_0, d1_1, d1_2, d1_3, d1_5, d1_7, d1_9, d1_10, d1_13, d1_14, d1_15, d1_18, d1_20, d1_22, d1_23, d1_26, d1_27, d1_28, d1_29, d1_31, d1_33, d1_34, d1_36, d1_39, d1_40, d1_41, d1_44, d1_46, d1_47, d1_48, d1_49]
set_option maxRecDepth 65536 in
set_option maxHeartbeats 4000000 in
theorem ww_1 (a : Addr) (o v0 q v : Int32) (h : ¬ v &&& -128 = 0) : wpo prog_41_method_16_code ci1 cj1 [] 90 5 [.val (.ref a), .val (.int o), .val (.int v0), .val (.int q), .val (.int v)] [] (fun b M u => b = 28 ∧ M = [.val (.ref a), .val (.int o), .val (.int v0), .val (.int (q + 1)), .val (.int v)] ∧ u = [.int (own_by ((v &&& 127) ||| 128)), .int q, .ref a]) := by
  simp only [r_wp0, r_wpS, r_nxt, r_stop0, r_stopS, r_go, r_goIf, r_fork, r_tgt, r_okO, r_gI, r_gJ, r_gA, r_pI, r_pJ, r_pA, r_p1r, r_p1i, r_pII, r_pJJ, r_pJI, r_fnd0, r_fndS, r_gC, r_gC0, r_gB, r_st1, r_st2, r_eq, r_ne, r_lt, r_ge, r_gt, r_le, r_eqL, r_neL, r_ltL, r_geL, r_gtL, r_leL, r_f0, r_f1, r_f2, r_f3, r_im1, r_i0, r_i1, r_i2, r_i3, r_i4, r_i5, r_i7, r_l0, r_l1, lget_z, lget_s, lput_z, lput_s, one_unset, one_int, one_ref, two_unset, two_long, cond_true, cond_false, true_and, and_true, not_true_eq_false, not_false_eq_true, true_implies, false_implies, implies_true, ne_eq, Classical.not_not, Int.cast_ofNat_Int, ite_true, seval, and_self, n_aload_n, n_bastore, n_bipush, n_goto, n_i2b, n_iand, n_ifCond, n_iinc, n_iload, n_iload_n, n_ior, n_ireturn, n_istore, n_istore_n, n_iushr, n_sipush, b_m128, b_127, b_7, s_128, ci1, cj1, d1_0, d1_1, d1_2, d1_3, d1_5, d1_7, d1_9, d1_10, d1_13, d1_14, d1_15, d1_18, d1_20, d1_22, d1_23, d1_26, d1_27, d1_28, d1_29, d1_31, d1_33, d1_34, d1_36, d1_39, d1_40, d1_41, d1_44, d1_46, d1_47, d1_48, d1_49, h, own_by]
set_option maxRecDepth 65536 in
set_option maxHeartbeats 4000000 in
theorem ww_2 (a : Addr) (o v0 q v : Int32) : wpo prog_41_method_16_code ci1 cj1 [5] 90 29 [.val (.ref a), .val (.int o), .val (.int v0), .val (.int (q + 1)), .val (.int v)] [] (fun b M u => b = 5 ∧ M = [.val (.ref a), .val (.int o), .val (.int v0), .val (.int (q + 1)), .val (.int (oushr v 7))] ∧ u = []) := by
  simp only [r_wp0, r_wpS, r_nxt, r_stop0, r_stopS, r_go, r_goIf, r_fork, r_tgt, r_okO, r_gI, r_gJ, r_gA, r_pI, r_pJ, r_pA, r_p1r, r_p1i, r_pII, r_pJJ, r_pJI, r_fnd0, r_fndS, r_gC, r_gC0, r_gB, r_st1, r_st2, r_eq, r_ne, r_lt, r_ge, r_gt, r_le, r_eqL, r_neL, r_ltL, r_geL, r_gtL, r_leL, r_f0, r_f1, r_f2, r_f3, r_im1, r_i0, r_i1, r_i2, r_i3, r_i4, r_i5, r_i7, r_l0, r_l1, lget_z, lget_s, lput_z, lput_s, one_unset, one_int, one_ref, two_unset, two_long, cond_true, cond_false, true_and, and_true, not_true_eq_false, not_false_eq_true, true_implies, false_implies, implies_true, ne_eq, Classical.not_not, Int.cast_ofNat_Int, ite_true, seval, and_self, n_aload_n, n_bastore, n_bipush, n_goto, n_i2b, n_iand, n_ifCond, n_iinc, n_iload, n_iload_n, n_ior, n_ireturn, n_istore, n_istore_n, n_iushr, n_sipush, b_m128, b_127, b_7, s_128, ci1, cj1, d1_0, d1_1, d1_2, d1_3, d1_5, d1_7, d1_9, d1_10, d1_13, d1_14, d1_15, d1_18, d1_20, d1_22, d1_23, d1_26, d1_27, d1_28, d1_29, d1_31, d1_33, d1_34, d1_36, d1_39, d1_40, d1_41, d1_44, d1_46, d1_47, d1_48, d1_49]
set_option maxRecDepth 65536 in
set_option maxHeartbeats 4000000 in
theorem ww_3 (a : Addr) (o v0 q v : Int32) (h : v &&& -128 = 0) : wpo prog_41_method_16_code ci1 cj1 [] 90 5 [.val (.ref a), .val (.int o), .val (.int v0), .val (.int q), .val (.int v)] [] (fun b M u => b = 47 ∧ M = [.val (.ref a), .val (.int o), .val (.int v0), .val (.int (q + 1)), .val (.int v)] ∧ u = [.int (own_by v), .int q, .ref a]) := by
  simp only [r_wp0, r_wpS, r_nxt, r_stop0, r_stopS, r_go, r_goIf, r_fork, r_tgt, r_okO, r_gI, r_gJ, r_gA, r_pI, r_pJ, r_pA, r_p1r, r_p1i, r_pII, r_pJJ, r_pJI, r_fnd0, r_fndS, r_gC, r_gC0, r_gB, r_st1, r_st2, r_eq, r_ne, r_lt, r_ge, r_gt, r_le, r_eqL, r_neL, r_ltL, r_geL, r_gtL, r_leL, r_f0, r_f1, r_f2, r_f3, r_im1, r_i0, r_i1, r_i2, r_i3, r_i4, r_i5, r_i7, r_l0, r_l1, lget_z, lget_s, lput_z, lput_s, one_unset, one_int, one_ref, two_unset, two_long, cond_true, cond_false, true_and, and_true, not_true_eq_false, not_false_eq_true, true_implies, false_implies, implies_true, ne_eq, Classical.not_not, Int.cast_ofNat_Int, ite_true, seval, and_self, n_aload_n, n_bastore, n_bipush, n_goto, n_i2b, n_iand, n_ifCond, n_iinc, n_iload, n_iload_n, n_ior, n_ireturn, n_istore, n_istore_n, n_iushr, n_sipush, b_m128, b_127, b_7, s_128, ci1, cj1, d1_0, d1_1, d1_2, d1_3, d1_5, d1_7, d1_9, d1_10, d1_13, d1_14, d1_15, d1_18, d1_20, d1_22, d1_23, d1_26, d1_27, d1_28, d1_29, d1_31, d1_33, d1_34, d1_36, d1_39, d1_40, d1_41, d1_44, d1_46, d1_47, d1_48, d1_49, h, own_by]
set_option maxRecDepth 65536 in
set_option maxHeartbeats 4000000 in
theorem ww_4 (a : Addr) (o v0 q v : Int32) : wpo prog_41_method_16_code ci1 cj1 [] 90 48 [.val (.ref a), .val (.int o), .val (.int v0), .val (.int (q + 1)), .val (.int v)] [] (fun b M u => decode prog_41_method_16_code b = .ok (.ireturn, 1) ∧ u = [.int (q + 1)]) := by
  simp only [r_wp0, r_wpS, r_nxt, r_stop0, r_stopS, r_go, r_goIf, r_fork, r_tgt, r_okO, r_gI, r_gJ, r_gA, r_pI, r_pJ, r_pA, r_p1r, r_p1i, r_pII, r_pJJ, r_pJI, r_fnd0, r_fndS, r_gC, r_gC0, r_gB, r_st1, r_st2, r_eq, r_ne, r_lt, r_ge, r_gt, r_le, r_eqL, r_neL, r_ltL, r_geL, r_gtL, r_leL, r_f0, r_f1, r_f2, r_f3, r_im1, r_i0, r_i1, r_i2, r_i3, r_i4, r_i5, r_i7, r_l0, r_l1, lget_z, lget_s, lput_z, lput_s, one_unset, one_int, one_ref, two_unset, two_long, cond_true, cond_false, true_and, and_true, not_true_eq_false, not_false_eq_true, true_implies, false_implies, implies_true, ne_eq, Classical.not_not, Int.cast_ofNat_Int, ite_true, seval, and_self, n_aload_n, n_bastore, n_bipush, n_goto, n_i2b, n_iand, n_ifCond, n_iinc, n_iload, n_iload_n, n_ior, n_ireturn, n_istore, n_istore_n, n_iushr, n_sipush, b_m128, b_127, b_7, s_128, ci1, cj1, d1_0, d1_1, d1_2, d1_3, d1_5, d1_7, d1_9, d1_10, d1_13, d1_14, d1_15, d1_18, d1_20, d1_22, d1_23, d1_26, d1_27, d1_28, d1_29, d1_31, d1_33, d1_34, d1_36, d1_39, d1_40, d1_41, d1_44, d1_46, d1_47, d1_48, d1_49]
set_option maxRecDepth 65536 in
set_option maxHeartbeats 4000000 in
theorem wsz (u0 : Int64) : wpo method_3_code ci2 cj2 [] 90 0 [.val (.long u0), .second] [] (fun b M u => decode method_3_code b = .ok (.ireturn, 1) ∧ u = [.int (own_size u0)]) := by
  simp only [r_wp0, r_wpS, r_nxt, r_stop0, r_stopS, r_go, r_goIf, r_fork, r_tgt, r_okO, r_gI, r_gJ, r_gA, r_pI, r_pJ, r_pA, r_p1r, r_p1i, r_pII, r_pJJ, r_pJI, r_fnd0, r_fndS, r_gC, r_gC0, r_gB, r_st1, r_st2, r_eq, r_ne, r_lt, r_ge, r_gt, r_le, r_eqL, r_neL, r_ltL, r_geL, r_gtL, r_leL, r_f0, r_f1, r_f2, r_f3, r_im1, r_i0, r_i1, r_i2, r_i3, r_i4, r_i5, r_i7, r_l0, r_l1, lget_z, lget_s, lput_z, lput_s, one_unset, one_int, one_ref, two_unset, two_long, cond_true, cond_false, true_and, and_true, not_true_eq_false, not_false_eq_true, true_implies, false_implies, implies_true, ne_eq, Classical.not_not, Int.cast_ofNat_Int, ite_true, seval, and_self, n_iconst, n_ifCond, n_ireturn, n_lcmp, n_ldc2_w, n_lload_n, ci2, cj2, d2_0, d2_1, d2_4, d2_5, d2_8, d2_9, d2_10, d2_11, d2_14, d2_15, d2_18, d2_19, d2_20, d2_21, d2_24, d2_25, d2_28, d2_29, d2_30, d2_31, d2_34, d2_35, d2_38, d2_39, d2_40, d2_41, List.cons.injEq, Slot.val.injEq, Value.int.injEq, Value.long.injEq]
  all_goals (repeat' (first | refine And.intro ?_ ?_ | intro _))
  all_goals simp [own_by, own_size, own_grp, own_want, *]
set_option maxRecDepth 65536 in
set_option maxHeartbeats 4000000 in
theorem wt_0 (a : Addr) (j o n : Int32) (w : Int64) (f : Int32) (h : j - o < 0 ∨ ¬ j - o < n) : wpo method_4_code ci3 cj3 [] 90 0 [.val (.ref a), .val (.int j), .val (.int o), .val (.int n), .val (.long w), .second, .val (.int f), .unset, .unset, .unset] [] (fun b M u => b = 62 ∧ M = [.val (.ref a), .val (.int j), .val (.int o), .val (.int n), .val (.long w), .second, .val (.int f), .val (.int (j - o)), .val (.int (own_want (j - o) n w f)), .unset] ∧ u = [.int j, .ref a]) := by
  simp only [r_wp0, r_wpS, r_nxt, r_stop0, r_stopS, r_go, r_goIf, r_fork, r_tgt, r_okO, r_gI, r_gJ, r_gA, r_pI, r_pJ, r_pA, r_p1r, r_p1i, r_pII, r_pJJ, r_pJI, r_fnd0, r_fndS, r_gC, r_gC0, r_gB, r_st1, r_st2, r_eq, r_ne, r_lt, r_ge, r_gt, r_le, r_eqL, r_neL, r_ltL, r_geL, r_gtL, r_leL, r_f0, r_f1, r_f2, r_f3, r_im1, r_i0, r_i1, r_i2, r_i3, r_i4, r_i5, r_i7, r_l0, r_l1, lget_z, lget_s, lput_z, lput_s, one_unset, one_int, one_ref, two_unset, two_long, cond_true, cond_false, true_and, and_true, not_true_eq_false, not_false_eq_true, true_implies, false_implies, implies_true, ne_eq, Classical.not_not, Int.cast_ofNat_Int, ite_true, seval, and_self, n_aload_n, n_baload, n_bipush, n_goto, n_i2b, n_iconst, n_ifCond, n_if_icmp, n_iload, n_iload_n, n_imul, n_ior, n_ireturn, n_istore, n_isub, n_l2i, n_land, n_ldc2_w, n_lload, n_lushr, n_sipush, b_7, s_128, ci3, cj3, d3_0, d3_1, d3_2, d3_3, d3_5, d3_7, d3_10, d3_12, d3_13, d3_16, d3_18, d3_20, d3_23, d3_25, d3_27, d3_29, d3_30, d3_31, d3_34, d3_35, d3_36, d3_38, d3_40, d3_41, d3_42, d3_43, d3_46, d3_48, d3_51, d3_52, d3_55, d3_57, d3_58, d3_60, d3_61, d3_62, d3_63, d3_65, d3_68, d3_69, d3_72, d3_73, List.cons.injEq, Slot.val.injEq, Value.int.injEq, Value.long.injEq]
  all_goals (repeat' (first | refine And.intro ?_ ?_ | intro _))
  all_goals first | (simp [own_want, *]; done) | (exfalso; rcases h with h | h <;> simp_all; done)
set_option maxRecDepth 65536 in
set_option maxHeartbeats 4000000 in
theorem wt_1 (a : Addr) (j o n : Int32) (w : Int64) (f : Int32) (h1 : ¬ j - o < 0) (h2 : j - o < n) : wpo method_4_code ci3 cj3 [] 90 0 [.val (.ref a), .val (.int j), .val (.int o), .val (.int n), .val (.long w), .second, .val (.int f), .unset, .unset, .unset] [] (fun b M u => b = 62 ∧ M = [.val (.ref a), .val (.int j), .val (.int o), .val (.int n), .val (.long w), .second, .val (.int f), .val (.int (j - o)), .val (.int (own_want (j - o) n w f)), .val (.int (own_grp w (j - o)))] ∧ u = [.int j, .ref a]) := by
  simp only [r_wp0, r_wpS, r_nxt, r_stop0, r_stopS, r_go, r_goIf, r_fork, r_tgt, r_okO, r_gI, r_gJ, r_gA, r_pI, r_pJ, r_pA, r_p1r, r_p1i, r_pII, r_pJJ, r_pJI, r_fnd0, r_fndS, r_gC, r_gC0, r_gB, r_st1, r_st2, r_eq, r_ne, r_lt, r_ge, r_gt, r_le, r_eqL, r_neL, r_ltL, r_geL, r_gtL, r_leL, r_f0, r_f1, r_f2, r_f3, r_im1, r_i0, r_i1, r_i2, r_i3, r_i4, r_i5, r_i7, r_l0, r_l1, lget_z, lget_s, lput_z, lput_s, one_unset, one_int, one_ref, two_unset, two_long, cond_true, cond_false, true_and, and_true, not_true_eq_false, not_false_eq_true, true_implies, false_implies, implies_true, ne_eq, Classical.not_not, Int.cast_ofNat_Int, ite_true, seval, and_self, n_aload_n, n_baload, n_bipush, n_goto, n_i2b, n_iconst, n_ifCond, n_if_icmp, n_iload, n_iload_n, n_imul, n_ior, n_ireturn, n_istore, n_isub, n_l2i, n_land, n_ldc2_w, n_lload, n_lushr, n_sipush, b_7, s_128, ci3, cj3, d3_0, d3_1, d3_2, d3_3, d3_5, d3_7, d3_10, d3_12, d3_13, d3_16, d3_18, d3_20, d3_23, d3_25, d3_27, d3_29, d3_30, d3_31, d3_34, d3_35, d3_36, d3_38, d3_40, d3_41, d3_42, d3_43, d3_46, d3_48, d3_51, d3_52, d3_55, d3_57, d3_58, d3_60, d3_61, d3_62, d3_63, d3_65, d3_68, d3_69, d3_72, d3_73, h1, h2, List.cons.injEq, Slot.val.injEq, Value.int.injEq, Value.long.injEq]
  all_goals (repeat' (first | refine And.intro ?_ ?_ | intro _))
  all_goals simp [own_by, own_size, own_grp, own_want, *]
set_option maxRecDepth 65536 in
set_option maxHeartbeats 4000000 in
theorem wt_2 (a : Addr) (j o n : Int32) (w : Int64) (f : Int32) (z : Int32) (v7 v9 : Slot) : wpo method_4_code ci3 cj3 [] 90 63 [.val (.ref a), .val (.int j), .val (.int o), .val (.int n), .val (.long w), .second, .val (.int f), v7, .val (.int z), v9] [.int z] (fun b M u => decode method_4_code b = .ok (.ireturn, 1) ∧ u = [.int 1]) := by
  simp only [r_wp0, r_wpS, r_nxt, r_stop0, r_stopS, r_go, r_goIf, r_fork, r_tgt, r_okO, r_gI, r_gJ, r_gA, r_pI, r_pJ, r_pA, r_p1r, r_p1i, r_pII, r_pJJ, r_pJI, r_fnd0, r_fndS, r_gC, r_gC0, r_gB, r_st1, r_st2, r_eq, r_ne, r_lt, r_ge, r_gt, r_le, r_eqL, r_neL, r_ltL, r_geL, r_gtL, r_leL, r_f0, r_f1, r_f2, r_f3, r_im1, r_i0, r_i1, r_i2, r_i3, r_i4, r_i5, r_i7, r_l0, r_l1, lget_z, lget_s, lput_z, lput_s, one_unset, one_int, one_ref, two_unset, two_long, cond_true, cond_false, true_and, and_true, not_true_eq_false, not_false_eq_true, true_implies, false_implies, implies_true, ne_eq, Classical.not_not, Int.cast_ofNat_Int, ite_true, seval, and_self, n_aload_n, n_baload, n_bipush, n_goto, n_i2b, n_iconst, n_ifCond, n_if_icmp, n_iload, n_iload_n, n_imul, n_ior, n_ireturn, n_istore, n_isub, n_l2i, n_land, n_ldc2_w, n_lload, n_lushr, n_sipush, b_7, s_128, ci3, cj3, d3_0, d3_1, d3_2, d3_3, d3_5, d3_7, d3_10, d3_12, d3_13, d3_16, d3_18, d3_20, d3_23, d3_25, d3_27, d3_29, d3_30, d3_31, d3_34, d3_35, d3_36, d3_38, d3_40, d3_41, d3_42, d3_43, d3_46, d3_48, d3_51, d3_52, d3_55, d3_57, d3_58, d3_60, d3_61, d3_62, d3_63, d3_65, d3_68, d3_69, d3_72, d3_73, List.cons.injEq, Slot.val.injEq, Value.int.injEq, Value.long.injEq]
set_option maxRecDepth 65536 in
set_option maxHeartbeats 4000000 in
theorem wl_0 (v oz fl off f n : Int32) (a : Addr) (en : Int32) : wpo code ci0 cj0 [] 90 0 [.val (.int v), .val (.int oz), .val (.int fl), .unset, .unset, .unset, .unset, .unset, .unset, .unset] [] (fun b M u => b = 11 ∧ M = [.val (.int v), .val (.int oz), .val (.int fl), .val (.int (oz &&& 7)), .val (.int (own_by fl)), .unset, .unset, .unset, .unset, .unset] ∧ u = [.int 13]) := by
  simp only [r_wp0, r_wpS, r_nxt, r_stop0, r_stopS, r_go, r_goIf, r_fork, r_tgt, r_okO, r_gI, r_gJ, r_gA, r_pI, r_pJ, r_pA, r_p1r, r_p1i, r_pII, r_pJJ, r_pJI, r_fnd0, r_fndS, r_gC, r_gC0, r_gB, r_st1, r_st2, r_eq, r_ne, r_lt, r_ge, r_gt, r_le, r_eqL, r_neL, r_ltL, r_geL, r_gtL, r_leL, r_f0, r_f1, r_f2, r_f3, r_im1, r_i0, r_i1, r_i2, r_i3, r_i4, r_i5, r_i7, r_l0, r_l1, lget_z, lget_s, lput_z, lput_s, one_unset, one_int, one_ref, two_unset, two_long, cond_true, cond_false, true_and, and_true, not_true_eq_false, not_false_eq_true, true_implies, false_implies, implies_true, ne_eq, Classical.not_not, Int.cast_ofNat_Int, ite_true, seval, and_self, n_aload, n_astore, n_bastore, n_bipush, n_goto, n_i2b, n_i2l, n_iadd, n_iand, n_iconst, n_ifCond, n_if_icmp, n_iload, n_iload_n, n_invokestatic, n_ireturn, n_istore, n_istore_n, n_land, n_ldc2_w, n_lload, n_lstore, n_newarray, b_7, b_13, b_6, b_8, b_9, b_10, b_11, b_12, ci0, cj0, at_0, at_1, at_3, at_4, at_5, at_6, at_7, at_9, at_11, at_13, at_15, at_17, at_18, at_20, at_21, at_23, at_24, at_26, at_27, at_29, at_30, at_32, at_33, at_35, at_36, at_38, at_39, at_41, at_42, at_44, at_45, at_47, at_48, at_50, at_51, at_53, at_55, at_57, at_58, at_60, at_62, at_64, at_65, at_67, at_69, at_71, at_72, at_74, at_76, at_78, at_79, at_81, at_83, at_85, at_86, at_88, at_90, at_92, at_93, at_95, at_97, at_99, at_100, at_102, at_103, at_104, at_107, at_109, at_110, at_111, at_114, at_115, at_117, at_119, at_122, at_124, at_126, at_127, at_129, at_130, at_133, at_134, at_135, at_137, at_138, at_139, at_141, at_143, at_145, at_148, at_151, at_153, at_154, at_155, at_157, at_159, at_161, at_164, at_167, at_169, at_170, at_171, at_173, at_175, at_177, at_180, at_183, at_185, at_186, at_187, at_189, at_191, at_193, at_196, at_199, at_201, at_202, at_203, at_205, at_207, at_209, at_212, at_215, at_217, at_218, at_219, at_221, at_223, at_225, at_228, at_231, at_233, at_235, at_236, at_238, at_240, at_242, at_245, at_248, at_250, at_252, at_253, at_255, at_257, at_259, at_262, at_265, at_267, at_269, at_270, at_272, at_274, at_276, at_279, at_282, at_284, at_286, at_287, at_289, at_291, at_293, at_296, at_299, at_301, at_303, at_304, at_306, at_308, at_310, at_313, at_316, at_318, at_320, at_321, at_323, at_325, at_327, at_330, at_333, at_335, at_337, at_338, at_340, at_342, at_344, at_347, at_350, at_351, at_354, at_355, own_by]
set_option maxRecDepth 65536 in
set_option maxHeartbeats 4000000 in
theorem wl_1 (v oz fl off f n : Int32) (a : Addr) (en : Int32) : wpo code ci0 cj0 [15] 90 13 [.val (.int v), .val (.int oz), .val (.int fl), .val (.int off), .val (.int f), .unset, .unset, .unset, .unset, .unset] [.ref a] (fun b M u => b = 15 ∧ M = [.val (.int v), .val (.int oz), .val (.int fl), .val (.int off), .val (.int f), .val (.ref a), .unset, .unset, .unset, .unset] ∧ u = []) := by
  simp only [r_wp0, r_wpS, r_nxt, r_stop0, r_stopS, r_go, r_goIf, r_fork, r_tgt, r_okO, r_gI, r_gJ, r_gA, r_pI, r_pJ, r_pA, r_p1r, r_p1i, r_pII, r_pJJ, r_pJI, r_fnd0, r_fndS, r_gC, r_gC0, r_gB, r_st1, r_st2, r_eq, r_ne, r_lt, r_ge, r_gt, r_le, r_eqL, r_neL, r_ltL, r_geL, r_gtL, r_leL, r_f0, r_f1, r_f2, r_f3, r_im1, r_i0, r_i1, r_i2, r_i3, r_i4, r_i5, r_i7, r_l0, r_l1, lget_z, lget_s, lput_z, lput_s, one_unset, one_int, one_ref, two_unset, two_long, cond_true, cond_false, true_and, and_true, not_true_eq_false, not_false_eq_true, true_implies, false_implies, implies_true, ne_eq, Classical.not_not, Int.cast_ofNat_Int, ite_true, seval, and_self, n_aload, n_astore, n_bastore, n_bipush, n_goto, n_i2b, n_i2l, n_iadd, n_iand, n_iconst, n_ifCond, n_if_icmp, n_iload, n_iload_n, n_invokestatic, n_ireturn, n_istore, n_istore_n, n_land, n_ldc2_w, n_lload, n_lstore, n_newarray, b_7, b_13, b_6, b_8, b_9, b_10, b_11, b_12, ci0, cj0, at_0, at_1, at_3, at_4, at_5, at_6, at_7, at_9, at_11, at_13, at_15, at_17, at_18, at_20, at_21, at_23, at_24, at_26, at_27, at_29, at_30, at_32, at_33, at_35, at_36, at_38, at_39, at_41, at_42, at_44, at_45, at_47, at_48, at_50, at_51, at_53, at_55, at_57, at_58, at_60, at_62, at_64, at_65, at_67, at_69, at_71, at_72, at_74, at_76, at_78, at_79, at_81, at_83, at_85, at_86, at_88, at_90, at_92, at_93, at_95, at_97, at_99, at_100, at_102, at_103, at_104, at_107, at_109, at_110, at_111, at_114, at_115, at_117, at_119, at_122, at_124, at_126, at_127, at_129, at_130, at_133, at_134, at_135, at_137, at_138, at_139, at_141, at_143, at_145, at_148, at_151, at_153, at_154, at_155, at_157, at_159, at_161, at_164, at_167, at_169, at_170, at_171, at_173, at_175, at_177, at_180, at_183, at_185, at_186, at_187, at_189, at_191, at_193, at_196, at_199, at_201, at_202, at_203, at_205, at_207, at_209, at_212, at_215, at_217, at_218, at_219, at_221, at_223, at_225, at_228, at_231, at_233, at_235, at_236, at_238, at_240, at_242, at_245, at_248, at_250, at_252, at_253, at_255, at_257, at_259, at_262, at_265, at_267, at_269, at_270, at_272, at_274, at_276, at_279, at_282, at_284, at_286, at_287, at_289, at_291, at_293, at_296, at_299, at_301, at_303, at_304, at_306, at_308, at_310, at_313, at_316, at_318, at_320, at_321, at_323, at_325, at_327, at_330, at_333, at_335, at_337, at_338, at_340, at_342, at_344, at_347, at_350, at_351, at_354, at_355]
set_option maxRecDepth 65536 in
set_option maxHeartbeats 4000000 in
theorem wl_2 (v oz fl off f n : Int32) (a : Addr) (en : Int32) : wpo code ci0 cj0 [] 90 15 [.val (.int v), .val (.int oz), .val (.int fl), .val (.int off), .val (.int f), .val (.ref a), .unset, .unset, .unset, .unset] [] (fun b M u => b = 20 ∧ M = [.val (.int v), .val (.int oz), .val (.int fl), .val (.int off), .val (.int f), .val (.ref a), .unset, .unset, .unset, .unset] ∧ u = [.int f, .int 0, .ref a]) := by
  simp only [r_wp0, r_wpS, r_nxt, r_stop0, r_stopS, r_go, r_goIf, r_fork, r_tgt, r_okO, r_gI, r_gJ, r_gA, r_pI, r_pJ, r_pA, r_p1r, r_p1i, r_pII, r_pJJ, r_pJI, r_fnd0, r_fndS, r_gC, r_gC0, r_gB, r_st1, r_st2, r_eq, r_ne, r_lt, r_ge, r_gt, r_le, r_eqL, r_neL, r_ltL, r_geL, r_gtL, r_leL, r_f0, r_f1, r_f2, r_f3, r_im1, r_i0, r_i1, r_i2, r_i3, r_i4, r_i5, r_i7, r_l0, r_l1, lget_z, lget_s, lput_z, lput_s, one_unset, one_int, one_ref, two_unset, two_long, cond_true, cond_false, true_and, and_true, not_true_eq_false, not_false_eq_true, true_implies, false_implies, implies_true, ne_eq, Classical.not_not, Int.cast_ofNat_Int, ite_true, seval, and_self, n_aload, n_astore, n_bastore, n_bipush, n_goto, n_i2b, n_i2l, n_iadd, n_iand, n_iconst, n_ifCond, n_if_icmp, n_iload, n_iload_n, n_invokestatic, n_ireturn, n_istore, n_istore_n, n_land, n_ldc2_w, n_lload, n_lstore, n_newarray, b_7, b_13, b_6, b_8, b_9, b_10, b_11, b_12, ci0, cj0, at_0, at_1, at_3, at_4, at_5, at_6, at_7, at_9, at_11, at_13, at_15, at_17, at_18, at_20, at_21, at_23, at_24, at_26, at_27, at_29, at_30, at_32, at_33, at_35, at_36, at_38, at_39, at_41, at_42, at_44, at_45, at_47, at_48, at_50, at_51, at_53, at_55, at_57, at_58, at_60, at_62, at_64, at_65, at_67, at_69, at_71, at_72, at_74, at_76, at_78, at_79, at_81, at_83, at_85, at_86, at_88, at_90, at_92, at_93, at_95, at_97, at_99, at_100, at_102, at_103, at_104, at_107, at_109, at_110, at_111, at_114, at_115, at_117, at_119, at_122, at_124, at_126, at_127, at_129, at_130, at_133, at_134, at_135, at_137, at_138, at_139, at_141, at_143, at_145, at_148, at_151, at_153, at_154, at_155, at_157, at_159, at_161, at_164, at_167, at_169, at_170, at_171, at_173, at_175, at_177, at_180, at_183, at_185, at_186, at_187, at_189, at_191, at_193, at_196, at_199, at_201, at_202, at_203, at_205, at_207, at_209, at_212, at_215, at_217, at_218, at_219, at_221, at_223, at_225, at_228, at_231, at_233, at_235, at_236, at_238, at_240, at_242, at_245, at_248, at_250, at_252, at_253, at_255, at_257, at_259, at_262, at_265, at_267, at_269, at_270, at_272, at_274, at_276, at_279, at_282, at_284, at_286, at_287, at_289, at_291, at_293, at_296, at_299, at_301, at_303, at_304, at_306, at_308, at_310, at_313, at_316, at_318, at_320, at_321, at_323, at_325, at_327, at_330, at_333, at_335, at_337, at_338, at_340, at_342, at_344, at_347, at_350, at_351, at_354, at_355]
set_option maxRecDepth 65536 in
set_option maxHeartbeats 4000000 in
theorem wl_3 (v oz fl off f n : Int32) (a : Addr) (en : Int32) : wpo code ci0 cj0 [] 90 21 [.val (.int v), .val (.int oz), .val (.int fl), .val (.int off), .val (.int f), .val (.ref a), .unset, .unset, .unset, .unset] [] (fun b M u => b = 26 ∧ M = [.val (.int v), .val (.int oz), .val (.int fl), .val (.int off), .val (.int f), .val (.ref a), .unset, .unset, .unset, .unset] ∧ u = [.int f, .int 1, .ref a]) := by
  simp only [r_wp0, r_wpS, r_nxt, r_stop0, r_stopS, r_go, r_goIf, r_fork, r_tgt, r_okO, r_gI, r_gJ, r_gA, r_pI, r_pJ, r_pA, r_p1r, r_p1i, r_pII, r_pJJ, r_pJI, r_fnd0, r_fndS, r_gC, r_gC0, r_gB, r_st1, r_st2, r_eq, r_ne, r_lt, r_ge, r_gt, r_le, r_eqL, r_neL, r_ltL, r_geL, r_gtL, r_leL, r_f0, r_f1, r_f2, r_f3, r_im1, r_i0, r_i1, r_i2, r_i3, r_i4, r_i5, r_i7, r_l0, r_l1, lget_z, lget_s, lput_z, lput_s, one_unset, one_int, one_ref, two_unset, two_long, cond_true, cond_false, true_and, and_true, not_true_eq_false, not_false_eq_true, true_implies, false_implies, implies_true, ne_eq, Classical.not_not, Int.cast_ofNat_Int, ite_true, seval, and_self, n_aload, n_astore, n_bastore, n_bipush, n_goto, n_i2b, n_i2l, n_iadd, n_iand, n_iconst, n_ifCond, n_if_icmp, n_iload, n_iload_n, n_invokestatic, n_ireturn, n_istore, n_istore_n, n_land, n_ldc2_w, n_lload, n_lstore, n_newarray, b_7, b_13, b_6, b_8, b_9, b_10, b_11, b_12, ci0, cj0, at_0, at_1, at_3, at_4, at_5, at_6, at_7, at_9, at_11, at_13, at_15, at_17, at_18, at_20, at_21, at_23, at_24, at_26, at_27, at_29, at_30, at_32, at_33, at_35, at_36, at_38, at_39, at_41, at_42, at_44, at_45, at_47, at_48, at_50, at_51, at_53, at_55, at_57, at_58, at_60, at_62, at_64, at_65, at_67, at_69, at_71, at_72, at_74, at_76, at_78, at_79, at_81, at_83, at_85, at_86, at_88, at_90, at_92, at_93, at_95, at_97, at_99, at_100, at_102, at_103, at_104, at_107, at_109, at_110, at_111, at_114, at_115, at_117, at_119, at_122, at_124, at_126, at_127, at_129, at_130, at_133, at_134, at_135, at_137, at_138, at_139, at_141, at_143, at_145, at_148, at_151, at_153, at_154, at_155, at_157, at_159, at_161, at_164, at_167, at_169, at_170, at_171, at_173, at_175, at_177, at_180, at_183, at_185, at_186, at_187, at_189, at_191, at_193, at_196, at_199, at_201, at_202, at_203, at_205, at_207, at_209, at_212, at_215, at_217, at_218, at_219, at_221, at_223, at_225, at_228, at_231, at_233, at_235, at_236, at_238, at_240, at_242, at_245, at_248, at_250, at_252, at_253, at_255, at_257, at_259, at_262, at_265, at_267, at_269, at_270, at_272, at_274, at_276, at_279, at_282, at_284, at_286, at_287, at_289, at_291, at_293, at_296, at_299, at_301, at_303, at_304, at_306, at_308, at_310, at_313, at_316, at_318, at_320, at_321, at_323, at_325, at_327, at_330, at_333, at_335, at_337, at_338, at_340, at_342, at_344, at_347, at_350, at_351, at_354, at_355]
set_option maxRecDepth 65536 in
set_option maxHeartbeats 4000000 in
theorem wl_4 (v oz fl off f n : Int32) (a : Addr) (en : Int32) : wpo code ci0 cj0 [] 90 27 [.val (.int v), .val (.int oz), .val (.int fl), .val (.int off), .val (.int f), .val (.ref a), .unset, .unset, .unset, .unset] [] (fun b M u => b = 32 ∧ M = [.val (.int v), .val (.int oz), .val (.int fl), .val (.int off), .val (.int f), .val (.ref a), .unset, .unset, .unset, .unset] ∧ u = [.int f, .int 2, .ref a]) := by
  simp only [r_wp0, r_wpS, r_nxt, r_stop0, r_stopS, r_go, r_goIf, r_fork, r_tgt, r_okO, r_gI, r_gJ, r_gA, r_pI, r_pJ, r_pA, r_p1r, r_p1i, r_pII, r_pJJ, r_pJI, r_fnd0, r_fndS, r_gC, r_gC0, r_gB, r_st1, r_st2, r_eq, r_ne, r_lt, r_ge, r_gt, r_le, r_eqL, r_neL, r_ltL, r_geL, r_gtL, r_leL, r_f0, r_f1, r_f2, r_f3, r_im1, r_i0, r_i1, r_i2, r_i3, r_i4, r_i5, r_i7, r_l0, r_l1, lget_z, lget_s, lput_z, lput_s, one_unset, one_int, one_ref, two_unset, two_long, cond_true, cond_false, true_and, and_true, not_true_eq_false, not_false_eq_true, true_implies, false_implies, implies_true, ne_eq, Classical.not_not, Int.cast_ofNat_Int, ite_true, seval, and_self, n_aload, n_astore, n_bastore, n_bipush, n_goto, n_i2b, n_i2l, n_iadd, n_iand, n_iconst, n_ifCond, n_if_icmp, n_iload, n_iload_n, n_invokestatic, n_ireturn, n_istore, n_istore_n, n_land, n_ldc2_w, n_lload, n_lstore, n_newarray, b_7, b_13, b_6, b_8, b_9, b_10, b_11, b_12, ci0, cj0, at_0, at_1, at_3, at_4, at_5, at_6, at_7, at_9, at_11, at_13, at_15, at_17, at_18, at_20, at_21, at_23, at_24, at_26, at_27, at_29, at_30, at_32, at_33, at_35, at_36, at_38, at_39, at_41, at_42, at_44, at_45, at_47, at_48, at_50, at_51, at_53, at_55, at_57, at_58, at_60, at_62, at_64, at_65, at_67, at_69, at_71, at_72, at_74, at_76, at_78, at_79, at_81, at_83, at_85, at_86, at_88, at_90, at_92, at_93, at_95, at_97, at_99, at_100, at_102, at_103, at_104, at_107, at_109, at_110, at_111, at_114, at_115, at_117, at_119, at_122, at_124, at_126, at_127, at_129, at_130, at_133, at_134, at_135, at_137, at_138, at_139, at_141, at_143, at_145, at_148, at_151, at_153, at_154, at_155, at_157, at_159, at_161, at_164, at_167, at_169, at_170, at_171, at_173, at_175, at_177, at_180, at_183, at_185, at_186, at_187, at_189, at_191, at_193, at_196, at_199, at_201, at_202, at_203, at_205, at_207, at_209, at_212, at_215, at_217, at_218, at_219, at_221, at_223, at_225, at_228, at_231, at_233, at_235, at_236, at_238, at_240, at_242, at_245, at_248, at_250, at_252, at_253, at_255, at_257, at_259, at_262, at_265, at_267, at_269, at_270, at_272, at_274, at_276, at_279, at_282, at_284, at_286, at_287, at_289, at_291, at_293, at_296, at_299, at_301, at_303, at_304, at_306, at_308, at_310, at_313, at_316, at_318, at_320, at_321, at_323, at_325, at_327, at_330, at_333, at_335, at_337, at_338, at_340, at_342, at_344, at_347, at_350, at_351, at_354, at_355]
set_option maxRecDepth 65536 in
set_option maxHeartbeats 4000000 in
theorem wl_5 (v oz fl off f n : Int32) (a : Addr) (en : Int32) : wpo code ci0 cj0 [] 90 33 [.val (.int v), .val (.int oz), .val (.int fl), .val (.int off), .val (.int f), .val (.ref a), .unset, .unset, .unset, .unset] [] (fun b M u => b = 38 ∧ M = [.val (.int v), .val (.int oz), .val (.int fl), .val (.int off), .val (.int f), .val (.ref a), .unset, .unset, .unset, .unset] ∧ u = [.int f, .int 3, .ref a]) := by
  simp only [r_wp0, r_wpS, r_nxt, r_stop0, r_stopS, r_go, r_goIf, r_fork, r_tgt, r_okO, r_gI, r_gJ, r_gA, r_pI, r_pJ, r_pA, r_p1r, r_p1i, r_pII, r_pJJ, r_pJI, r_fnd0, r_fndS, r_gC, r_gC0, r_gB, r_st1, r_st2, r_eq, r_ne, r_lt, r_ge, r_gt, r_le, r_eqL, r_neL, r_ltL, r_geL, r_gtL, r_leL, r_f0, r_f1, r_f2, r_f3, r_im1, r_i0, r_i1, r_i2, r_i3, r_i4, r_i5, r_i7, r_l0, r_l1, lget_z, lget_s, lput_z, lput_s, one_unset, one_int, one_ref, two_unset, two_long, cond_true, cond_false, true_and, and_true, not_true_eq_false, not_false_eq_true, true_implies, false_implies, implies_true, ne_eq, Classical.not_not, Int.cast_ofNat_Int, ite_true, seval, and_self, n_aload, n_astore, n_bastore, n_bipush, n_goto, n_i2b, n_i2l, n_iadd, n_iand, n_iconst, n_ifCond, n_if_icmp, n_iload, n_iload_n, n_invokestatic, n_ireturn, n_istore, n_istore_n, n_land, n_ldc2_w, n_lload, n_lstore, n_newarray, b_7, b_13, b_6, b_8, b_9, b_10, b_11, b_12, ci0, cj0, at_0, at_1, at_3, at_4, at_5, at_6, at_7, at_9, at_11, at_13, at_15, at_17, at_18, at_20, at_21, at_23, at_24, at_26, at_27, at_29, at_30, at_32, at_33, at_35, at_36, at_38, at_39, at_41, at_42, at_44, at_45, at_47, at_48, at_50, at_51, at_53, at_55, at_57, at_58, at_60, at_62, at_64, at_65, at_67, at_69, at_71, at_72, at_74, at_76, at_78, at_79, at_81, at_83, at_85, at_86, at_88, at_90, at_92, at_93, at_95, at_97, at_99, at_100, at_102, at_103, at_104, at_107, at_109, at_110, at_111, at_114, at_115, at_117, at_119, at_122, at_124, at_126, at_127, at_129, at_130, at_133, at_134, at_135, at_137, at_138, at_139, at_141, at_143, at_145, at_148, at_151, at_153, at_154, at_155, at_157, at_159, at_161, at_164, at_167, at_169, at_170, at_171, at_173, at_175, at_177, at_180, at_183, at_185, at_186, at_187, at_189, at_191, at_193, at_196, at_199, at_201, at_202, at_203, at_205, at_207, at_209, at_212, at_215, at_217, at_218, at_219, at_221, at_223, at_225, at_228, at_231, at_233, at_235, at_236, at_238, at_240, at_242, at_245, at_248, at_250, at_252, at_253, at_255, at_257, at_259, at_262, at_265, at_267, at_269, at_270, at_272, at_274, at_276, at_279, at_282, at_284, at_286, at_287, at_289, at_291, at_293, at_296, at_299, at_301, at_303, at_304, at_306, at_308, at_310, at_313, at_316, at_318, at_320, at_321, at_323, at_325, at_327, at_330, at_333, at_335, at_337, at_338, at_340, at_342, at_344, at_347, at_350, at_351, at_354, at_355]
set_option maxRecDepth 65536 in
set_option maxHeartbeats 4000000 in
theorem wl_6 (v oz fl off f n : Int32) (a : Addr) (en : Int32) : wpo code ci0 cj0 [] 90 39 [.val (.int v), .val (.int oz), .val (.int fl), .val (.int off), .val (.int f), .val (.ref a), .unset, .unset, .unset, .unset] [] (fun b M u => b = 44 ∧ M = [.val (.int v), .val (.int oz), .val (.int fl), .val (.int off), .val (.int f), .val (.ref a), .unset, .unset, .unset, .unset] ∧ u = [.int f, .int 4, .ref a]) := by
  simp only [r_wp0, r_wpS, r_nxt, r_stop0, r_stopS, r_go, r_goIf, r_fork, r_tgt, r_okO, r_gI, r_gJ, r_gA, r_pI, r_pJ, r_pA, r_p1r, r_p1i, r_pII, r_pJJ, r_pJI, r_fnd0, r_fndS, r_gC, r_gC0, r_gB, r_st1, r_st2, r_eq, r_ne, r_lt, r_ge, r_gt, r_le, r_eqL, r_neL, r_ltL, r_geL, r_gtL, r_leL, r_f0, r_f1, r_f2, r_f3, r_im1, r_i0, r_i1, r_i2, r_i3, r_i4, r_i5, r_i7, r_l0, r_l1, lget_z, lget_s, lput_z, lput_s, one_unset, one_int, one_ref, two_unset, two_long, cond_true, cond_false, true_and, and_true, not_true_eq_false, not_false_eq_true, true_implies, false_implies, implies_true, ne_eq, Classical.not_not, Int.cast_ofNat_Int, ite_true, seval, and_self, n_aload, n_astore, n_bastore, n_bipush, n_goto, n_i2b, n_i2l, n_iadd, n_iand, n_iconst, n_ifCond, n_if_icmp, n_iload, n_iload_n, n_invokestatic, n_ireturn, n_istore, n_istore_n, n_land, n_ldc2_w, n_lload, n_lstore, n_newarray, b_7, b_13, b_6, b_8, b_9, b_10, b_11, b_12, ci0, cj0, at_0, at_1, at_3, at_4, at_5, at_6, at_7, at_9, at_11, at_13, at_15, at_17, at_18, at_20, at_21, at_23, at_24, at_26, at_27, at_29, at_30, at_32, at_33, at_35, at_36, at_38, at_39, at_41, at_42, at_44, at_45, at_47, at_48, at_50, at_51, at_53, at_55, at_57, at_58, at_60, at_62, at_64, at_65, at_67, at_69, at_71, at_72, at_74, at_76, at_78, at_79, at_81, at_83, at_85, at_86, at_88, at_90, at_92, at_93, at_95, at_97, at_99, at_100, at_102, at_103, at_104, at_107, at_109, at_110, at_111, at_114, at_115, at_117, at_119, at_122, at_124, at_126, at_127, at_129, at_130, at_133, at_134, at_135, at_137, at_138, at_139, at_141, at_143, at_145, at_148, at_151, at_153, at_154, at_155, at_157, at_159, at_161, at_164, at_167, at_169, at_170, at_171, at_173, at_175, at_177, at_180, at_183, at_185, at_186, at_187, at_189, at_191, at_193, at_196, at_199, at_201, at_202, at_203, at_205, at_207, at_209, at_212, at_215, at_217, at_218, at_219, at_221, at_223, at_225, at_228, at_231, at_233, at_235, at_236, at_238, at_240, at_242, at_245, at_248, at_250, at_252, at_253, at_255, at_257, at_259, at_262, at_265, at_267, at_269, at_270, at_272, at_274, at_276, at_279, at_282, at_284, at_286, at_287, at_289, at_291, at_293, at_296, at_299, at_301, at_303, at_304, at_306, at_308, at_310, at_313, at_316, at_318, at_320, at_321, at_323, at_325, at_327, at_330, at_333, at_335, at_337, at_338, at_340, at_342, at_344, at_347, at_350, at_351, at_354, at_355]
set_option maxRecDepth 65536 in
set_option maxHeartbeats 4000000 in
theorem wl_7 (v oz fl off f n : Int32) (a : Addr) (en : Int32) : wpo code ci0 cj0 [] 90 45 [.val (.int v), .val (.int oz), .val (.int fl), .val (.int off), .val (.int f), .val (.ref a), .unset, .unset, .unset, .unset] [] (fun b M u => b = 50 ∧ M = [.val (.int v), .val (.int oz), .val (.int fl), .val (.int off), .val (.int f), .val (.ref a), .unset, .unset, .unset, .unset] ∧ u = [.int f, .int 5, .ref a]) := by
  simp only [r_wp0, r_wpS, r_nxt, r_stop0, r_stopS, r_go, r_goIf, r_fork, r_tgt, r_okO, r_gI, r_gJ, r_gA, r_pI, r_pJ, r_pA, r_p1r, r_p1i, r_pII, r_pJJ, r_pJI, r_fnd0, r_fndS, r_gC, r_gC0, r_gB, r_st1, r_st2, r_eq, r_ne, r_lt, r_ge, r_gt, r_le, r_eqL, r_neL, r_ltL, r_geL, r_gtL, r_leL, r_f0, r_f1, r_f2, r_f3, r_im1, r_i0, r_i1, r_i2, r_i3, r_i4, r_i5, r_i7, r_l0, r_l1, lget_z, lget_s, lput_z, lput_s, one_unset, one_int, one_ref, two_unset, two_long, cond_true, cond_false, true_and, and_true, not_true_eq_false, not_false_eq_true, true_implies, false_implies, implies_true, ne_eq, Classical.not_not, Int.cast_ofNat_Int, ite_true, seval, and_self, n_aload, n_astore, n_bastore, n_bipush, n_goto, n_i2b, n_i2l, n_iadd, n_iand, n_iconst, n_ifCond, n_if_icmp, n_iload, n_iload_n, n_invokestatic, n_ireturn, n_istore, n_istore_n, n_land, n_ldc2_w, n_lload, n_lstore, n_newarray, b_7, b_13, b_6, b_8, b_9, b_10, b_11, b_12, ci0, cj0, at_0, at_1, at_3, at_4, at_5, at_6, at_7, at_9, at_11, at_13, at_15, at_17, at_18, at_20, at_21, at_23, at_24, at_26, at_27, at_29, at_30, at_32, at_33, at_35, at_36, at_38, at_39, at_41, at_42, at_44, at_45, at_47, at_48, at_50, at_51, at_53, at_55, at_57, at_58, at_60, at_62, at_64, at_65, at_67, at_69, at_71, at_72, at_74, at_76, at_78, at_79, at_81, at_83, at_85, at_86, at_88, at_90, at_92, at_93, at_95, at_97, at_99, at_100, at_102, at_103, at_104, at_107, at_109, at_110, at_111, at_114, at_115, at_117, at_119, at_122, at_124, at_126, at_127, at_129, at_130, at_133, at_134, at_135, at_137, at_138, at_139, at_141, at_143, at_145, at_148, at_151, at_153, at_154, at_155, at_157, at_159, at_161, at_164, at_167, at_169, at_170, at_171, at_173, at_175, at_177, at_180, at_183, at_185, at_186, at_187, at_189, at_191, at_193, at_196, at_199, at_201, at_202, at_203, at_205, at_207, at_209, at_212, at_215, at_217, at_218, at_219, at_221, at_223, at_225, at_228, at_231, at_233, at_235, at_236, at_238, at_240, at_242, at_245, at_248, at_250, at_252, at_253, at_255, at_257, at_259, at_262, at_265, at_267, at_269, at_270, at_272, at_274, at_276, at_279, at_282, at_284, at_286, at_287, at_289, at_291, at_293, at_296, at_299, at_301, at_303, at_304, at_306, at_308, at_310, at_313, at_316, at_318, at_320, at_321, at_323, at_325, at_327, at_330, at_333, at_335, at_337, at_338, at_340, at_342, at_344, at_347, at_350, at_351, at_354, at_355]
set_option maxRecDepth 65536 in
set_option maxHeartbeats 4000000 in
theorem wl_8 (v oz fl off f n : Int32) (a : Addr) (en : Int32) : wpo code ci0 cj0 [] 90 51 [.val (.int v), .val (.int oz), .val (.int fl), .val (.int off), .val (.int f), .val (.ref a), .unset, .unset, .unset, .unset] [] (fun b M u => b = 57 ∧ M = [.val (.int v), .val (.int oz), .val (.int fl), .val (.int off), .val (.int f), .val (.ref a), .unset, .unset, .unset, .unset] ∧ u = [.int f, .int 6, .ref a]) := by
  simp only [r_wp0, r_wpS, r_nxt, r_stop0, r_stopS, r_go, r_goIf, r_fork, r_tgt, r_okO, r_gI, r_gJ, r_gA, r_pI, r_pJ, r_pA, r_p1r, r_p1i, r_pII, r_pJJ, r_pJI, r_fnd0, r_fndS, r_gC, r_gC0, r_gB, r_st1, r_st2, r_eq, r_ne, r_lt, r_ge, r_gt, r_le, r_eqL, r_neL, r_ltL, r_geL, r_gtL, r_leL, r_f0, r_f1, r_f2, r_f3, r_im1, r_i0, r_i1, r_i2, r_i3, r_i4, r_i5, r_i7, r_l0, r_l1, lget_z, lget_s, lput_z, lput_s, one_unset, one_int, one_ref, two_unset, two_long, cond_true, cond_false, true_and, and_true, not_true_eq_false, not_false_eq_true, true_implies, false_implies, implies_true, ne_eq, Classical.not_not, Int.cast_ofNat_Int, ite_true, seval, and_self, n_aload, n_astore, n_bastore, n_bipush, n_goto, n_i2b, n_i2l, n_iadd, n_iand, n_iconst, n_ifCond, n_if_icmp, n_iload, n_iload_n, n_invokestatic, n_ireturn, n_istore, n_istore_n, n_land, n_ldc2_w, n_lload, n_lstore, n_newarray, b_7, b_13, b_6, b_8, b_9, b_10, b_11, b_12, ci0, cj0, at_0, at_1, at_3, at_4, at_5, at_6, at_7, at_9, at_11, at_13, at_15, at_17, at_18, at_20, at_21, at_23, at_24, at_26, at_27, at_29, at_30, at_32, at_33, at_35, at_36, at_38, at_39, at_41, at_42, at_44, at_45, at_47, at_48, at_50, at_51, at_53, at_55, at_57, at_58, at_60, at_62, at_64, at_65, at_67, at_69, at_71, at_72, at_74, at_76, at_78, at_79, at_81, at_83, at_85, at_86, at_88, at_90, at_92, at_93, at_95, at_97, at_99, at_100, at_102, at_103, at_104, at_107, at_109, at_110, at_111, at_114, at_115, at_117, at_119, at_122, at_124, at_126, at_127, at_129, at_130, at_133, at_134, at_135, at_137, at_138, at_139, at_141, at_143, at_145, at_148, at_151, at_153, at_154, at_155, at_157, at_159, at_161, at_164, at_167, at_169, at_170, at_171, at_173, at_175, at_177, at_180, at_183, at_185, at_186, at_187, at_189, at_191, at_193, at_196, at_199, at_201, at_202, at_203, at_205, at_207, at_209, at_212, at_215, at_217, at_218, at_219, at_221, at_223, at_225, at_228, at_231, at_233, at_235, at_236, at_238, at_240, at_242, at_245, at_248, at_250, at_252, at_253, at_255, at_257, at_259, at_262, at_265, at_267, at_269, at_270, at_272, at_274, at_276, at_279, at_282, at_284, at_286, at_287, at_289, at_291, at_293, at_296, at_299, at_301, at_303, at_304, at_306, at_308, at_310, at_313, at_316, at_318, at_320, at_321, at_323, at_325, at_327, at_330, at_333, at_335, at_337, at_338, at_340, at_342, at_344, at_347, at_350, at_351, at_354, at_355]
set_option maxRecDepth 65536 in
set_option maxHeartbeats 4000000 in
theorem wl_9 (v oz fl off f n : Int32) (a : Addr) (en : Int32) : wpo code ci0 cj0 [] 90 58 [.val (.int v), .val (.int oz), .val (.int fl), .val (.int off), .val (.int f), .val (.ref a), .unset, .unset, .unset, .unset] [] (fun b M u => b = 64 ∧ M = [.val (.int v), .val (.int oz), .val (.int fl), .val (.int off), .val (.int f), .val (.ref a), .unset, .unset, .unset, .unset] ∧ u = [.int f, .int 7, .ref a]) := by
  simp only [r_wp0, r_wpS, r_nxt, r_stop0, r_stopS, r_go, r_goIf, r_fork, r_tgt, r_okO, r_gI, r_gJ, r_gA, r_pI, r_pJ, r_pA, r_p1r, r_p1i, r_pII, r_pJJ, r_pJI, r_fnd0, r_fndS, r_gC, r_gC0, r_gB, r_st1, r_st2, r_eq, r_ne, r_lt, r_ge, r_gt, r_le, r_eqL, r_neL, r_ltL, r_geL, r_gtL, r_leL, r_f0, r_f1, r_f2, r_f3, r_im1, r_i0, r_i1, r_i2, r_i3, r_i4, r_i5, r_i7, r_l0, r_l1, lget_z, lget_s, lput_z, lput_s, one_unset, one_int, one_ref, two_unset, two_long, cond_true, cond_false, true_and, and_true, not_true_eq_false, not_false_eq_true, true_implies, false_implies, implies_true, ne_eq, Classical.not_not, Int.cast_ofNat_Int, ite_true, seval, and_self, n_aload, n_astore, n_bastore, n_bipush, n_goto, n_i2b, n_i2l, n_iadd, n_iand, n_iconst, n_ifCond, n_if_icmp, n_iload, n_iload_n, n_invokestatic, n_ireturn, n_istore, n_istore_n, n_land, n_ldc2_w, n_lload, n_lstore, n_newarray, b_7, b_13, b_6, b_8, b_9, b_10, b_11, b_12, ci0, cj0, at_0, at_1, at_3, at_4, at_5, at_6, at_7, at_9, at_11, at_13, at_15, at_17, at_18, at_20, at_21, at_23, at_24, at_26, at_27, at_29, at_30, at_32, at_33, at_35, at_36, at_38, at_39, at_41, at_42, at_44, at_45, at_47, at_48, at_50, at_51, at_53, at_55, at_57, at_58, at_60, at_62, at_64, at_65, at_67, at_69, at_71, at_72, at_74, at_76, at_78, at_79, at_81, at_83, at_85, at_86, at_88, at_90, at_92, at_93, at_95, at_97, at_99, at_100, at_102, at_103, at_104, at_107, at_109, at_110, at_111, at_114, at_115, at_117, at_119, at_122, at_124, at_126, at_127, at_129, at_130, at_133, at_134, at_135, at_137, at_138, at_139, at_141, at_143, at_145, at_148, at_151, at_153, at_154, at_155, at_157, at_159, at_161, at_164, at_167, at_169, at_170, at_171, at_173, at_175, at_177, at_180, at_183, at_185, at_186, at_187, at_189, at_191, at_193, at_196, at_199, at_201, at_202, at_203, at_205, at_207, at_209, at_212, at_215, at_217, at_218, at_219, at_221, at_223, at_225, at_228, at_231, at_233, at_235, at_236, at_238, at_240, at_242, at_245, at_248, at_250, at_252, at_253, at_255, at_257, at_259, at_262, at_265, at_267, at_269, at_270, at_272, at_274, at_276, at_279, at_282, at_284, at_286, at_287, at_289, at_291, at_293, at_296, at_299, at_301, at_303, at_304, at_306, at_308, at_310, at_313, at_316, at_318, at_320, at_321, at_323, at_325, at_327, at_330, at_333, at_335, at_337, at_338, at_340, at_342, at_344, at_347, at_350, at_351, at_354, at_355]
set_option maxRecDepth 65536 in
set_option maxHeartbeats 4000000 in
theorem wl_10 (v oz fl off f n : Int32) (a : Addr) (en : Int32) : wpo code ci0 cj0 [] 90 65 [.val (.int v), .val (.int oz), .val (.int fl), .val (.int off), .val (.int f), .val (.ref a), .unset, .unset, .unset, .unset] [] (fun b M u => b = 71 ∧ M = [.val (.int v), .val (.int oz), .val (.int fl), .val (.int off), .val (.int f), .val (.ref a), .unset, .unset, .unset, .unset] ∧ u = [.int f, .int 8, .ref a]) := by
  simp only [r_wp0, r_wpS, r_nxt, r_stop0, r_stopS, r_go, r_goIf, r_fork, r_tgt, r_okO, r_gI, r_gJ, r_gA, r_pI, r_pJ, r_pA, r_p1r, r_p1i, r_pII, r_pJJ, r_pJI, r_fnd0, r_fndS, r_gC, r_gC0, r_gB, r_st1, r_st2, r_eq, r_ne, r_lt, r_ge, r_gt, r_le, r_eqL, r_neL, r_ltL, r_geL, r_gtL, r_leL, r_f0, r_f1, r_f2, r_f3, r_im1, r_i0, r_i1, r_i2, r_i3, r_i4, r_i5, r_i7, r_l0, r_l1, lget_z, lget_s, lput_z, lput_s, one_unset, one_int, one_ref, two_unset, two_long, cond_true, cond_false, true_and, and_true, not_true_eq_false, not_false_eq_true, true_implies, false_implies, implies_true, ne_eq, Classical.not_not, Int.cast_ofNat_Int, ite_true, seval, and_self, n_aload, n_astore, n_bastore, n_bipush, n_goto, n_i2b, n_i2l, n_iadd, n_iand, n_iconst, n_ifCond, n_if_icmp, n_iload, n_iload_n, n_invokestatic, n_ireturn, n_istore, n_istore_n, n_land, n_ldc2_w, n_lload, n_lstore, n_newarray, b_7, b_13, b_6, b_8, b_9, b_10, b_11, b_12, ci0, cj0, at_0, at_1, at_3, at_4, at_5, at_6, at_7, at_9, at_11, at_13, at_15, at_17, at_18, at_20, at_21, at_23, at_24, at_26, at_27, at_29, at_30, at_32, at_33, at_35, at_36, at_38, at_39, at_41, at_42, at_44, at_45, at_47, at_48, at_50, at_51, at_53, at_55, at_57, at_58, at_60, at_62, at_64, at_65, at_67, at_69, at_71, at_72, at_74, at_76, at_78, at_79, at_81, at_83, at_85, at_86, at_88, at_90, at_92, at_93, at_95, at_97, at_99, at_100, at_102, at_103, at_104, at_107, at_109, at_110, at_111, at_114, at_115, at_117, at_119, at_122, at_124, at_126, at_127, at_129, at_130, at_133, at_134, at_135, at_137, at_138, at_139, at_141, at_143, at_145, at_148, at_151, at_153, at_154, at_155, at_157, at_159, at_161, at_164, at_167, at_169, at_170, at_171, at_173, at_175, at_177, at_180, at_183, at_185, at_186, at_187, at_189, at_191, at_193, at_196, at_199, at_201, at_202, at_203, at_205, at_207, at_209, at_212, at_215, at_217, at_218, at_219, at_221, at_223, at_225, at_228, at_231, at_233, at_235, at_236, at_238, at_240, at_242, at_245, at_248, at_250, at_252, at_253, at_255, at_257, at_259, at_262, at_265, at_267, at_269, at_270, at_272, at_274, at_276, at_279, at_282, at_284, at_286, at_287, at_289, at_291, at_293, at_296, at_299, at_301, at_303, at_304, at_306, at_308, at_310, at_313, at_316, at_318, at_320, at_321, at_323, at_325, at_327, at_330, at_333, at_335, at_337, at_338, at_340, at_342, at_344, at_347, at_350, at_351, at_354, at_355]
set_option maxRecDepth 65536 in
set_option maxHeartbeats 4000000 in
theorem wl_11 (v oz fl off f n : Int32) (a : Addr) (en : Int32) : wpo code ci0 cj0 [] 90 72 [.val (.int v), .val (.int oz), .val (.int fl), .val (.int off), .val (.int f), .val (.ref a), .unset, .unset, .unset, .unset] [] (fun b M u => b = 78 ∧ M = [.val (.int v), .val (.int oz), .val (.int fl), .val (.int off), .val (.int f), .val (.ref a), .unset, .unset, .unset, .unset] ∧ u = [.int f, .int 9, .ref a]) := by
  simp only [r_wp0, r_wpS, r_nxt, r_stop0, r_stopS, r_go, r_goIf, r_fork, r_tgt, r_okO, r_gI, r_gJ, r_gA, r_pI, r_pJ, r_pA, r_p1r, r_p1i, r_pII, r_pJJ, r_pJI, r_fnd0, r_fndS, r_gC, r_gC0, r_gB, r_st1, r_st2, r_eq, r_ne, r_lt, r_ge, r_gt, r_le, r_eqL, r_neL, r_ltL, r_geL, r_gtL, r_leL, r_f0, r_f1, r_f2, r_f3, r_im1, r_i0, r_i1, r_i2, r_i3, r_i4, r_i5, r_i7, r_l0, r_l1, lget_z, lget_s, lput_z, lput_s, one_unset, one_int, one_ref, two_unset, two_long, cond_true, cond_false, true_and, and_true, not_true_eq_false, not_false_eq_true, true_implies, false_implies, implies_true, ne_eq, Classical.not_not, Int.cast_ofNat_Int, ite_true, seval, and_self, n_aload, n_astore, n_bastore, n_bipush, n_goto, n_i2b, n_i2l, n_iadd, n_iand, n_iconst, n_ifCond, n_if_icmp, n_iload, n_iload_n, n_invokestatic, n_ireturn, n_istore, n_istore_n, n_land, n_ldc2_w, n_lload, n_lstore, n_newarray, b_7, b_13, b_6, b_8, b_9, b_10, b_11, b_12, ci0, cj0, at_0, at_1, at_3, at_4, at_5, at_6, at_7, at_9, at_11, at_13, at_15, at_17, at_18, at_20, at_21, at_23, at_24, at_26, at_27, at_29, at_30, at_32, at_33, at_35, at_36, at_38, at_39, at_41, at_42, at_44, at_45, at_47, at_48, at_50, at_51, at_53, at_55, at_57, at_58, at_60, at_62, at_64, at_65, at_67, at_69, at_71, at_72, at_74, at_76, at_78, at_79, at_81, at_83, at_85, at_86, at_88, at_90, at_92, at_93, at_95, at_97, at_99, at_100, at_102, at_103, at_104, at_107, at_109, at_110, at_111, at_114, at_115, at_117, at_119, at_122, at_124, at_126, at_127, at_129, at_130, at_133, at_134, at_135, at_137, at_138, at_139, at_141, at_143, at_145, at_148, at_151, at_153, at_154, at_155, at_157, at_159, at_161, at_164, at_167, at_169, at_170, at_171, at_173, at_175, at_177, at_180, at_183, at_185, at_186, at_187, at_189, at_191, at_193, at_196, at_199, at_201, at_202, at_203, at_205, at_207, at_209, at_212, at_215, at_217, at_218, at_219, at_221, at_223, at_225, at_228, at_231, at_233, at_235, at_236, at_238, at_240, at_242, at_245, at_248, at_250, at_252, at_253, at_255, at_257, at_259, at_262, at_265, at_267, at_269, at_270, at_272, at_274, at_276, at_279, at_282, at_284, at_286, at_287, at_289, at_291, at_293, at_296, at_299, at_301, at_303, at_304, at_306, at_308, at_310, at_313, at_316, at_318, at_320, at_321, at_323, at_325, at_327, at_330, at_333, at_335, at_337, at_338, at_340, at_342, at_344, at_347, at_350, at_351, at_354, at_355]
set_option maxRecDepth 65536 in
set_option maxHeartbeats 4000000 in
theorem wl_12 (v oz fl off f n : Int32) (a : Addr) (en : Int32) : wpo code ci0 cj0 [] 90 79 [.val (.int v), .val (.int oz), .val (.int fl), .val (.int off), .val (.int f), .val (.ref a), .unset, .unset, .unset, .unset] [] (fun b M u => b = 85 ∧ M = [.val (.int v), .val (.int oz), .val (.int fl), .val (.int off), .val (.int f), .val (.ref a), .unset, .unset, .unset, .unset] ∧ u = [.int f, .int 10, .ref a]) := by
  simp only [r_wp0, r_wpS, r_nxt, r_stop0, r_stopS, r_go, r_goIf, r_fork, r_tgt, r_okO, r_gI, r_gJ, r_gA, r_pI, r_pJ, r_pA, r_p1r, r_p1i, r_pII, r_pJJ, r_pJI, r_fnd0, r_fndS, r_gC, r_gC0, r_gB, r_st1, r_st2, r_eq, r_ne, r_lt, r_ge, r_gt, r_le, r_eqL, r_neL, r_ltL, r_geL, r_gtL, r_leL, r_f0, r_f1, r_f2, r_f3, r_im1, r_i0, r_i1, r_i2, r_i3, r_i4, r_i5, r_i7, r_l0, r_l1, lget_z, lget_s, lput_z, lput_s, one_unset, one_int, one_ref, two_unset, two_long, cond_true, cond_false, true_and, and_true, not_true_eq_false, not_false_eq_true, true_implies, false_implies, implies_true, ne_eq, Classical.not_not, Int.cast_ofNat_Int, ite_true, seval, and_self, n_aload, n_astore, n_bastore, n_bipush, n_goto, n_i2b, n_i2l, n_iadd, n_iand, n_iconst, n_ifCond, n_if_icmp, n_iload, n_iload_n, n_invokestatic, n_ireturn, n_istore, n_istore_n, n_land, n_ldc2_w, n_lload, n_lstore, n_newarray, b_7, b_13, b_6, b_8, b_9, b_10, b_11, b_12, ci0, cj0, at_0, at_1, at_3, at_4, at_5, at_6, at_7, at_9, at_11, at_13, at_15, at_17, at_18, at_20, at_21, at_23, at_24, at_26, at_27, at_29, at_30, at_32, at_33, at_35, at_36, at_38, at_39, at_41, at_42, at_44, at_45, at_47, at_48, at_50, at_51, at_53, at_55, at_57, at_58, at_60, at_62, at_64, at_65, at_67, at_69, at_71, at_72, at_74, at_76, at_78, at_79, at_81, at_83, at_85, at_86, at_88, at_90, at_92, at_93, at_95, at_97, at_99, at_100, at_102, at_103, at_104, at_107, at_109, at_110, at_111, at_114, at_115, at_117, at_119, at_122, at_124, at_126, at_127, at_129, at_130, at_133, at_134, at_135, at_137, at_138, at_139, at_141, at_143, at_145, at_148, at_151, at_153, at_154, at_155, at_157, at_159, at_161, at_164, at_167, at_169, at_170, at_171, at_173, at_175, at_177, at_180, at_183, at_185, at_186, at_187, at_189, at_191, at_193, at_196, at_199, at_201, at_202, at_203, at_205, at_207, at_209, at_212, at_215, at_217, at_218, at_219, at_221, at_223, at_225, at_228, at_231, at_233, at_235, at_236, at_238, at_240, at_242, at_245, at_248, at_250, at_252, at_253, at_255, at_257, at_259, at_262, at_265, at_267, at_269, at_270, at_272, at_274, at_276, at_279, at_282, at_284, at_286, at_287, at_289, at_291, at_293, at_296, at_299, at_301, at_303, at_304, at_306, at_308, at_310, at_313, at_316, at_318, at_320, at_321, at_323, at_325, at_327, at_330, at_333, at_335, at_337, at_338, at_340, at_342, at_344, at_347, at_350, at_351, at_354, at_355]
set_option maxRecDepth 65536 in
set_option maxHeartbeats 4000000 in
theorem wl_13 (v oz fl off f n : Int32) (a : Addr) (en : Int32) : wpo code ci0 cj0 [] 90 86 [.val (.int v), .val (.int oz), .val (.int fl), .val (.int off), .val (.int f), .val (.ref a), .unset, .unset, .unset, .unset] [] (fun b M u => b = 92 ∧ M = [.val (.int v), .val (.int oz), .val (.int fl), .val (.int off), .val (.int f), .val (.ref a), .unset, .unset, .unset, .unset] ∧ u = [.int f, .int 11, .ref a]) := by
  simp only [r_wp0, r_wpS, r_nxt, r_stop0, r_stopS, r_go, r_goIf, r_fork, r_tgt, r_okO, r_gI, r_gJ, r_gA, r_pI, r_pJ, r_pA, r_p1r, r_p1i, r_pII, r_pJJ, r_pJI, r_fnd0, r_fndS, r_gC, r_gC0, r_gB, r_st1, r_st2, r_eq, r_ne, r_lt, r_ge, r_gt, r_le, r_eqL, r_neL, r_ltL, r_geL, r_gtL, r_leL, r_f0, r_f1, r_f2, r_f3, r_im1, r_i0, r_i1, r_i2, r_i3, r_i4, r_i5, r_i7, r_l0, r_l1, lget_z, lget_s, lput_z, lput_s, one_unset, one_int, one_ref, two_unset, two_long, cond_true, cond_false, true_and, and_true, not_true_eq_false, not_false_eq_true, true_implies, false_implies, implies_true, ne_eq, Classical.not_not, Int.cast_ofNat_Int, ite_true, seval, and_self, n_aload, n_astore, n_bastore, n_bipush, n_goto, n_i2b, n_i2l, n_iadd, n_iand, n_iconst, n_ifCond, n_if_icmp, n_iload, n_iload_n, n_invokestatic, n_ireturn, n_istore, n_istore_n, n_land, n_ldc2_w, n_lload, n_lstore, n_newarray, b_7, b_13, b_6, b_8, b_9, b_10, b_11, b_12, ci0, cj0, at_0, at_1, at_3, at_4, at_5, at_6, at_7, at_9, at_11, at_13, at_15, at_17, at_18, at_20, at_21, at_23, at_24, at_26, at_27, at_29, at_30, at_32, at_33, at_35, at_36, at_38, at_39, at_41, at_42, at_44, at_45, at_47, at_48, at_50, at_51, at_53, at_55, at_57, at_58, at_60, at_62, at_64, at_65, at_67, at_69, at_71, at_72, at_74, at_76, at_78, at_79, at_81, at_83, at_85, at_86, at_88, at_90, at_92, at_93, at_95, at_97, at_99, at_100, at_102, at_103, at_104, at_107, at_109, at_110, at_111, at_114, at_115, at_117, at_119, at_122, at_124, at_126, at_127, at_129, at_130, at_133, at_134, at_135, at_137, at_138, at_139, at_141, at_143, at_145, at_148, at_151, at_153, at_154, at_155, at_157, at_159, at_161, at_164, at_167, at_169, at_170, at_171, at_173, at_175, at_177, at_180, at_183, at_185, at_186, at_187, at_189, at_191, at_193, at_196, at_199, at_201, at_202, at_203, at_205, at_207, at_209, at_212, at_215, at_217, at_218, at_219, at_221, at_223, at_225, at_228, at_231, at_233, at_235, at_236, at_238, at_240, at_242, at_245, at_248, at_250, at_252, at_253, at_255, at_257, at_259, at_262, at_265, at_267, at_269, at_270, at_272, at_274, at_276, at_279, at_282, at_284, at_286, at_287, at_289, at_291, at_293, at_296, at_299, at_301, at_303, at_304, at_306, at_308, at_310, at_313, at_316, at_318, at_320, at_321, at_323, at_325, at_327, at_330, at_333, at_335, at_337, at_338, at_340, at_342, at_344, at_347, at_350, at_351, at_354, at_355]
set_option maxRecDepth 65536 in
set_option maxHeartbeats 4000000 in
theorem wl_14 (v oz fl off f n : Int32) (a : Addr) (en : Int32) : wpo code ci0 cj0 [] 90 93 [.val (.int v), .val (.int oz), .val (.int fl), .val (.int off), .val (.int f), .val (.ref a), .unset, .unset, .unset, .unset] [] (fun b M u => b = 99 ∧ M = [.val (.int v), .val (.int oz), .val (.int fl), .val (.int off), .val (.int f), .val (.ref a), .unset, .unset, .unset, .unset] ∧ u = [.int f, .int 12, .ref a]) := by
  simp only [r_wp0, r_wpS, r_nxt, r_stop0, r_stopS, r_go, r_goIf, r_fork, r_tgt, r_okO, r_gI, r_gJ, r_gA, r_pI, r_pJ, r_pA, r_p1r, r_p1i, r_pII, r_pJJ, r_pJI, r_fnd0, r_fndS, r_gC, r_gC0, r_gB, r_st1, r_st2, r_eq, r_ne, r_lt, r_ge, r_gt, r_le, r_eqL, r_neL, r_ltL, r_geL, r_gtL, r_leL, r_f0, r_f1, r_f2, r_f3, r_im1, r_i0, r_i1, r_i2, r_i3, r_i4, r_i5, r_i7, r_l0, r_l1, lget_z, lget_s, lput_z, lput_s, one_unset, one_int, one_ref, two_unset, two_long, cond_true, cond_false, true_and, and_true, not_true_eq_false, not_false_eq_true, true_implies, false_implies, implies_true, ne_eq, Classical.not_not, Int.cast_ofNat_Int, ite_true, seval, and_self, n_aload, n_astore, n_bastore, n_bipush, n_goto, n_i2b, n_i2l, n_iadd, n_iand, n_iconst, n_ifCond, n_if_icmp, n_iload, n_iload_n, n_invokestatic, n_ireturn, n_istore, n_istore_n, n_land, n_ldc2_w, n_lload, n_lstore, n_newarray, b_7, b_13, b_6, b_8, b_9, b_10, b_11, b_12, ci0, cj0, at_0, at_1, at_3, at_4, at_5, at_6, at_7, at_9, at_11, at_13, at_15, at_17, at_18, at_20, at_21, at_23, at_24, at_26, at_27, at_29, at_30, at_32, at_33, at_35, at_36, at_38, at_39, at_41, at_42, at_44, at_45, at_47, at_48, at_50, at_51, at_53, at_55, at_57, at_58, at_60, at_62, at_64, at_65, at_67, at_69, at_71, at_72, at_74, at_76, at_78, at_79, at_81, at_83, at_85, at_86, at_88, at_90, at_92, at_93, at_95, at_97, at_99, at_100, at_102, at_103, at_104, at_107, at_109, at_110, at_111, at_114, at_115, at_117, at_119, at_122, at_124, at_126, at_127, at_129, at_130, at_133, at_134, at_135, at_137, at_138, at_139, at_141, at_143, at_145, at_148, at_151, at_153, at_154, at_155, at_157, at_159, at_161, at_164, at_167, at_169, at_170, at_171, at_173, at_175, at_177, at_180, at_183, at_185, at_186, at_187, at_189, at_191, at_193, at_196, at_199, at_201, at_202, at_203, at_205, at_207, at_209, at_212, at_215, at_217, at_218, at_219, at_221, at_223, at_225, at_228, at_231, at_233, at_235, at_236, at_238, at_240, at_242, at_245, at_248, at_250, at_252, at_253, at_255, at_257, at_259, at_262, at_265, at_267, at_269, at_270, at_272, at_274, at_276, at_279, at_282, at_284, at_286, at_287, at_289, at_291, at_293, at_296, at_299, at_301, at_303, at_304, at_306, at_308, at_310, at_313, at_316, at_318, at_320, at_321, at_323, at_325, at_327, at_330, at_333, at_335, at_337, at_338, at_340, at_342, at_344, at_347, at_350, at_351, at_354, at_355]
set_option maxRecDepth 65536 in
set_option maxHeartbeats 4000000 in
theorem wl_15 (v oz fl off f n : Int32) (a : Addr) (en : Int32) : wpo code ci0 cj0 [] 90 100 [.val (.int v), .val (.int oz), .val (.int fl), .val (.int off), .val (.int f), .val (.ref a), .unset, .unset, .unset, .unset] [] (fun b M u => b = 104 ∧ M = [.val (.int v), .val (.int oz), .val (.int fl), .val (.int off), .val (.int f), .val (.ref a), .unset, .unset, .unset, .unset] ∧ u = [.int v, .int off, .ref a]) := by
  simp only [r_wp0, r_wpS, r_nxt, r_stop0, r_stopS, r_go, r_goIf, r_fork, r_tgt, r_okO, r_gI, r_gJ, r_gA, r_pI, r_pJ, r_pA, r_p1r, r_p1i, r_pII, r_pJJ, r_pJI, r_fnd0, r_fndS, r_gC, r_gC0, r_gB, r_st1, r_st2, r_eq, r_ne, r_lt, r_ge, r_gt, r_le, r_eqL, r_neL, r_ltL, r_geL, r_gtL, r_leL, r_f0, r_f1, r_f2, r_f3, r_im1, r_i0, r_i1, r_i2, r_i3, r_i4, r_i5, r_i7, r_l0, r_l1, lget_z, lget_s, lput_z, lput_s, one_unset, one_int, one_ref, two_unset, two_long, cond_true, cond_false, true_and, and_true, not_true_eq_false, not_false_eq_true, true_implies, false_implies, implies_true, ne_eq, Classical.not_not, Int.cast_ofNat_Int, ite_true, seval, and_self, n_aload, n_astore, n_bastore, n_bipush, n_goto, n_i2b, n_i2l, n_iadd, n_iand, n_iconst, n_ifCond, n_if_icmp, n_iload, n_iload_n, n_invokestatic, n_ireturn, n_istore, n_istore_n, n_land, n_ldc2_w, n_lload, n_lstore, n_newarray, b_7, b_13, b_6, b_8, b_9, b_10, b_11, b_12, ci0, cj0, at_0, at_1, at_3, at_4, at_5, at_6, at_7, at_9, at_11, at_13, at_15, at_17, at_18, at_20, at_21, at_23, at_24, at_26, at_27, at_29, at_30, at_32, at_33, at_35, at_36, at_38, at_39, at_41, at_42, at_44, at_45, at_47, at_48, at_50, at_51, at_53, at_55, at_57, at_58, at_60, at_62, at_64, at_65, at_67, at_69, at_71, at_72, at_74, at_76, at_78, at_79, at_81, at_83, at_85, at_86, at_88, at_90, at_92, at_93, at_95, at_97, at_99, at_100, at_102, at_103, at_104, at_107, at_109, at_110, at_111, at_114, at_115, at_117, at_119, at_122, at_124, at_126, at_127, at_129, at_130, at_133, at_134, at_135, at_137, at_138, at_139, at_141, at_143, at_145, at_148, at_151, at_153, at_154, at_155, at_157, at_159, at_161, at_164, at_167, at_169, at_170, at_171, at_173, at_175, at_177, at_180, at_183, at_185, at_186, at_187, at_189, at_191, at_193, at_196, at_199, at_201, at_202, at_203, at_205, at_207, at_209, at_212, at_215, at_217, at_218, at_219, at_221, at_223, at_225, at_228, at_231, at_233, at_235, at_236, at_238, at_240, at_242, at_245, at_248, at_250, at_252, at_253, at_255, at_257, at_259, at_262, at_265, at_267, at_269, at_270, at_272, at_274, at_276, at_279, at_282, at_284, at_286, at_287, at_289, at_291, at_293, at_296, at_299, at_301, at_303, at_304, at_306, at_308, at_310, at_313, at_316, at_318, at_320, at_321, at_323, at_325, at_327, at_330, at_333, at_335, at_337, at_338, at_340, at_342, at_344, at_347, at_350, at_351, at_354, at_355]
set_option maxRecDepth 65536 in
set_option maxHeartbeats 4000000 in
theorem wl_16 (v oz fl off f n : Int32) (a : Addr) (en : Int32) : wpo code ci0 cj0 [] 90 107 [.val (.int v), .val (.int oz), .val (.int fl), .val (.int off), .val (.int f), .val (.ref a), .unset, .unset, .unset, .unset] [.int en] (fun b M u => b = 119 ∧ M = [.val (.int v), .val (.int oz), .val (.int fl), .val (.int off), .val (.int f), .val (.ref a), .val (.int en), .val (.long (own_u v)), .second, .unset] ∧ u = [.long (own_u v)]) := by
  simp only [r_wp0, r_wpS, r_nxt, r_stop0, r_stopS, r_go, r_goIf, r_fork, r_tgt, r_okO, r_gI, r_gJ, r_gA, r_pI, r_pJ, r_pA, r_p1r, r_p1i, r_pII, r_pJJ, r_pJI, r_fnd0, r_fndS, r_gC, r_gC0, r_gB, r_st1, r_st2, r_eq, r_ne, r_lt, r_ge, r_gt, r_le, r_eqL, r_neL, r_ltL, r_geL, r_gtL, r_leL, r_f0, r_f1, r_f2, r_f3, r_im1, r_i0, r_i1, r_i2, r_i3, r_i4, r_i5, r_i7, r_l0, r_l1, lget_z, lget_s, lput_z, lput_s, one_unset, one_int, one_ref, two_unset, two_long, cond_true, cond_false, true_and, and_true, not_true_eq_false, not_false_eq_true, true_implies, false_implies, implies_true, ne_eq, Classical.not_not, Int.cast_ofNat_Int, ite_true, seval, and_self, n_aload, n_astore, n_bastore, n_bipush, n_goto, n_i2b, n_i2l, n_iadd, n_iand, n_iconst, n_ifCond, n_if_icmp, n_iload, n_iload_n, n_invokestatic, n_ireturn, n_istore, n_istore_n, n_land, n_ldc2_w, n_lload, n_lstore, n_newarray, b_7, b_13, b_6, b_8, b_9, b_10, b_11, b_12, ci0, cj0, at_0, at_1, at_3, at_4, at_5, at_6, at_7, at_9, at_11, at_13, at_15, at_17, at_18, at_20, at_21, at_23, at_24, at_26, at_27, at_29, at_30, at_32, at_33, at_35, at_36, at_38, at_39, at_41, at_42, at_44, at_45, at_47, at_48, at_50, at_51, at_53, at_55, at_57, at_58, at_60, at_62, at_64, at_65, at_67, at_69, at_71, at_72, at_74, at_76, at_78, at_79, at_81, at_83, at_85, at_86, at_88, at_90, at_92, at_93, at_95, at_97, at_99, at_100, at_102, at_103, at_104, at_107, at_109, at_110, at_111, at_114, at_115, at_117, at_119, at_122, at_124, at_126, at_127, at_129, at_130, at_133, at_134, at_135, at_137, at_138, at_139, at_141, at_143, at_145, at_148, at_151, at_153, at_154, at_155, at_157, at_159, at_161, at_164, at_167, at_169, at_170, at_171, at_173, at_175, at_177, at_180, at_183, at_185, at_186, at_187, at_189, at_191, at_193, at_196, at_199, at_201, at_202, at_203, at_205, at_207, at_209, at_212, at_215, at_217, at_218, at_219, at_221, at_223, at_225, at_228, at_231, at_233, at_235, at_236, at_238, at_240, at_242, at_245, at_248, at_250, at_252, at_253, at_255, at_257, at_259, at_262, at_265, at_267, at_269, at_270, at_272, at_274, at_276, at_279, at_282, at_284, at_286, at_287, at_289, at_291, at_293, at_296, at_299, at_301, at_303, at_304, at_306, at_308, at_310, at_313, at_316, at_318, at_320, at_321, at_323, at_325, at_327, at_330, at_333, at_335, at_337, at_338, at_340, at_342, at_344, at_347, at_350, at_351, at_354, at_355, own_u]
set_option maxRecDepth 65536 in
set_option maxHeartbeats 4000000 in
theorem wl_17 (v oz fl off f n : Int32) (a : Addr) (en : Int32) (h : en = off + n) : wpo code ci0 cj0 [] 90 122 [.val (.int v), .val (.int oz), .val (.int fl), .val (.int off), .val (.int f), .val (.ref a), .val (.int en), .val (.long (own_u v)), .second, .unset] [.int n] (fun b M u => b = 145 ∧ M = [.val (.int v), .val (.int oz), .val (.int fl), .val (.int off), .val (.int f), .val (.ref a), .val (.int en), .val (.long (own_u v)), .second, .val (.int n)] ∧ u = [.int f, .long (own_u v), .int n, .int off, .int 0, .ref a]) := by
  simp only [r_wp0, r_wpS, r_nxt, r_stop0, r_stopS, r_go, r_goIf, r_fork, r_tgt, r_okO, r_gI, r_gJ, r_gA, r_pI, r_pJ, r_pA, r_p1r, r_p1i, r_pII, r_pJJ, r_pJI, r_fnd0, r_fndS, r_gC, r_gC0, r_gB, r_st1, r_st2, r_eq, r_ne, r_lt, r_ge, r_gt, r_le, r_eqL, r_neL, r_ltL, r_geL, r_gtL, r_leL, r_f0, r_f1, r_f2, r_f3, r_im1, r_i0, r_i1, r_i2, r_i3, r_i4, r_i5, r_i7, r_l0, r_l1, lget_z, lget_s, lput_z, lput_s, one_unset, one_int, one_ref, two_unset, two_long, cond_true, cond_false, true_and, and_true, not_true_eq_false, not_false_eq_true, true_implies, false_implies, implies_true, ne_eq, Classical.not_not, Int.cast_ofNat_Int, ite_true, seval, and_self, n_aload, n_astore, n_bastore, n_bipush, n_goto, n_i2b, n_i2l, n_iadd, n_iand, n_iconst, n_ifCond, n_if_icmp, n_iload, n_iload_n, n_invokestatic, n_ireturn, n_istore, n_istore_n, n_land, n_ldc2_w, n_lload, n_lstore, n_newarray, b_7, b_13, b_6, b_8, b_9, b_10, b_11, b_12, ci0, cj0, at_0, at_1, at_3, at_4, at_5, at_6, at_7, at_9, at_11, at_13, at_15, at_17, at_18, at_20, at_21, at_23, at_24, at_26, at_27, at_29, at_30, at_32, at_33, at_35, at_36, at_38, at_39, at_41, at_42, at_44, at_45, at_47, at_48, at_50, at_51, at_53, at_55, at_57, at_58, at_60, at_62, at_64, at_65, at_67, at_69, at_71, at_72, at_74, at_76, at_78, at_79, at_81, at_83, at_85, at_86, at_88, at_90, at_92, at_93, at_95, at_97, at_99, at_100, at_102, at_103, at_104, at_107, at_109, at_110, at_111, at_114, at_115, at_117, at_119, at_122, at_124, at_126, at_127, at_129, at_130, at_133, at_134, at_135, at_137, at_138, at_139, at_141, at_143, at_145, at_148, at_151, at_153, at_154, at_155, at_157, at_159, at_161, at_164, at_167, at_169, at_170, at_171, at_173, at_175, at_177, at_180, at_183, at_185, at_186, at_187, at_189, at_191, at_193, at_196, at_199, at_201, at_202, at_203, at_205, at_207, at_209, at_212, at_215, at_217, at_218, at_219, at_221, at_223, at_225, at_228, at_231, at_233, at_235, at_236, at_238, at_240, at_242, at_245, at_248, at_250, at_252, at_253, at_255, at_257, at_259, at_262, at_265, at_267, at_269, at_270, at_272, at_274, at_276, at_279, at_282, at_284, at_286, at_287, at_289, at_291, at_293, at_296, at_299, at_301, at_303, at_304, at_306, at_308, at_310, at_313, at_316, at_318, at_320, at_321, at_323, at_325, at_327, at_330, at_333, at_335, at_337, at_338, at_340, at_342, at_344, at_347, at_350, at_351, at_354, at_355, h, List.cons.injEq, Slot.val.injEq, Value.int.injEq, Value.long.injEq]
set_option maxRecDepth 65536 in
set_option maxHeartbeats 4000000 in
theorem wj_1 (v oz fl off f n : Int32) (a : Addr) (en : Int32) : wpo code ci0 cj0 [] 90 148 [.val (.int v), .val (.int oz), .val (.int fl), .val (.int off), .val (.int f), .val (.ref a), .val (.int en), .val (.long (own_u v)), .second, .val (.int n)] [.int 1] (fun b M u => b = 161 ∧ M = [.val (.int v), .val (.int oz), .val (.int fl), .val (.int off), .val (.int f), .val (.ref a), .val (.int en), .val (.long (own_u v)), .second, .val (.int n)] ∧ u = [.int f, .long (own_u v), .int n, .int off, .int 1, .ref a]) := by
  simp only [r_wp0, r_wpS, r_nxt, r_stop0, r_stopS, r_go, r_goIf, r_fork, r_tgt, r_okO, r_gI, r_gJ, r_gA, r_pI, r_pJ, r_pA, r_p1r, r_p1i, r_pII, r_pJJ, r_pJI, r_fnd0, r_fndS, r_gC, r_gC0, r_gB, r_st1, r_st2, r_eq, r_ne, r_lt, r_ge, r_gt, r_le, r_eqL, r_neL, r_ltL, r_geL, r_gtL, r_leL, r_f0, r_f1, r_f2, r_f3, r_im1, r_i0, r_i1, r_i2, r_i3, r_i4, r_i5, r_i7, r_l0, r_l1, lget_z, lget_s, lput_z, lput_s, one_unset, one_int, one_ref, two_unset, two_long, cond_true, cond_false, true_and, and_true, not_true_eq_false, not_false_eq_true, true_implies, false_implies, implies_true, ne_eq, Classical.not_not, Int.cast_ofNat_Int, ite_true, seval, and_self, n_aload, n_astore, n_bastore, n_bipush, n_goto, n_i2b, n_i2l, n_iadd, n_iand, n_iconst, n_ifCond, n_if_icmp, n_iload, n_iload_n, n_invokestatic, n_ireturn, n_istore, n_istore_n, n_land, n_ldc2_w, n_lload, n_lstore, n_newarray, b_7, b_13, b_6, b_8, b_9, b_10, b_11, b_12, ci0, cj0, at_0, at_1, at_3, at_4, at_5, at_6, at_7, at_9, at_11, at_13, at_15, at_17, at_18, at_20, at_21, at_23, at_24, at_26, at_27, at_29, at_30, at_32, at_33, at_35, at_36, at_38, at_39, at_41, at_42, at_44, at_45, at_47, at_48, at_50, at_51, at_53, at_55, at_57, at_58, at_60, at_62, at_64, at_65, at_67, at_69, at_71, at_72, at_74, at_76, at_78, at_79, at_81, at_83, at_85, at_86, at_88, at_90, at_92, at_93, at_95, at_97, at_99, at_100, at_102, at_103, at_104, at_107, at_109, at_110, at_111, at_114, at_115, at_117, at_119, at_122, at_124, at_126, at_127, at_129, at_130, at_133, at_134, at_135, at_137, at_138, at_139, at_141, at_143, at_145, at_148, at_151, at_153, at_154, at_155, at_157, at_159, at_161, at_164, at_167, at_169, at_170, at_171, at_173, at_175, at_177, at_180, at_183, at_185, at_186, at_187, at_189, at_191, at_193, at_196, at_199, at_201, at_202, at_203, at_205, at_207, at_209, at_212, at_215, at_217, at_218, at_219, at_221, at_223, at_225, at_228, at_231, at_233, at_235, at_236, at_238, at_240, at_242, at_245, at_248, at_250, at_252, at_253, at_255, at_257, at_259, at_262, at_265, at_267, at_269, at_270, at_272, at_274, at_276, at_279, at_282, at_284, at_286, at_287, at_289, at_291, at_293, at_296, at_299, at_301, at_303, at_304, at_306, at_308, at_310, at_313, at_316, at_318, at_320, at_321, at_323, at_325, at_327, at_330, at_333, at_335, at_337, at_338, at_340, at_342, at_344, at_347, at_350, at_351, at_354, at_355]
set_option maxRecDepth 65536 in
set_option maxHeartbeats 4000000 in
theorem wj_2 (v oz fl off f n : Int32) (a : Addr) (en : Int32) : wpo code ci0 cj0 [] 90 164 [.val (.int v), .val (.int oz), .val (.int fl), .val (.int off), .val (.int f), .val (.ref a), .val (.int en), .val (.long (own_u v)), .second, .val (.int n)] [.int 1] (fun b M u => b = 177 ∧ M = [.val (.int v), .val (.int oz), .val (.int fl), .val (.int off), .val (.int f), .val (.ref a), .val (.int en), .val (.long (own_u v)), .second, .val (.int n)] ∧ u = [.int f, .long (own_u v), .int n, .int off, .int 2, .ref a]) := by
  simp only [r_wp0, r_wpS, r_nxt, r_stop0, r_stopS, r_go, r_goIf, r_fork, r_tgt, r_okO, r_gI, r_gJ, r_gA, r_pI, r_pJ, r_pA, r_p1r, r_p1i, r_pII, r_pJJ, r_pJI, r_fnd0, r_fndS, r_gC, r_gC0, r_gB, r_st1, r_st2, r_eq, r_ne, r_lt, r_ge, r_gt, r_le, r_eqL, r_neL, r_ltL, r_geL, r_gtL, r_leL, r_f0, r_f1, r_f2, r_f3, r_im1, r_i0, r_i1, r_i2, r_i3, r_i4, r_i5, r_i7, r_l0, r_l1, lget_z, lget_s, lput_z, lput_s, one_unset, one_int, one_ref, two_unset, two_long, cond_true, cond_false, true_and, and_true, not_true_eq_false, not_false_eq_true, true_implies, false_implies, implies_true, ne_eq, Classical.not_not, Int.cast_ofNat_Int, ite_true, seval, and_self, n_aload, n_astore, n_bastore, n_bipush, n_goto, n_i2b, n_i2l, n_iadd, n_iand, n_iconst, n_ifCond, n_if_icmp, n_iload, n_iload_n, n_invokestatic, n_ireturn, n_istore, n_istore_n, n_land, n_ldc2_w, n_lload, n_lstore, n_newarray, b_7, b_13, b_6, b_8, b_9, b_10, b_11, b_12, ci0, cj0, at_0, at_1, at_3, at_4, at_5, at_6, at_7, at_9, at_11, at_13, at_15, at_17, at_18, at_20, at_21, at_23, at_24, at_26, at_27, at_29, at_30, at_32, at_33, at_35, at_36, at_38, at_39, at_41, at_42, at_44, at_45, at_47, at_48, at_50, at_51, at_53, at_55, at_57, at_58, at_60, at_62, at_64, at_65, at_67, at_69, at_71, at_72, at_74, at_76, at_78, at_79, at_81, at_83, at_85, at_86, at_88, at_90, at_92, at_93, at_95, at_97, at_99, at_100, at_102, at_103, at_104, at_107, at_109, at_110, at_111, at_114, at_115, at_117, at_119, at_122, at_124, at_126, at_127, at_129, at_130, at_133, at_134, at_135, at_137, at_138, at_139, at_141, at_143, at_145, at_148, at_151, at_153, at_154, at_155, at_157, at_159, at_161, at_164, at_167, at_169, at_170, at_171, at_173, at_175, at_177, at_180, at_183, at_185, at_186, at_187, at_189, at_191, at_193, at_196, at_199, at_201, at_202, at_203, at_205, at_207, at_209, at_212, at_215, at_217, at_218, at_219, at_221, at_223, at_225, at_228, at_231, at_233, at_235, at_236, at_238, at_240, at_242, at_245, at_248, at_250, at_252, at_253, at_255, at_257, at_259, at_262, at_265, at_267, at_269, at_270, at_272, at_274, at_276, at_279, at_282, at_284, at_286, at_287, at_289, at_291, at_293, at_296, at_299, at_301, at_303, at_304, at_306, at_308, at_310, at_313, at_316, at_318, at_320, at_321, at_323, at_325, at_327, at_330, at_333, at_335, at_337, at_338, at_340, at_342, at_344, at_347, at_350, at_351, at_354, at_355]
set_option maxRecDepth 65536 in
set_option maxHeartbeats 4000000 in
theorem wj_3 (v oz fl off f n : Int32) (a : Addr) (en : Int32) : wpo code ci0 cj0 [] 90 180 [.val (.int v), .val (.int oz), .val (.int fl), .val (.int off), .val (.int f), .val (.ref a), .val (.int en), .val (.long (own_u v)), .second, .val (.int n)] [.int 1] (fun b M u => b = 193 ∧ M = [.val (.int v), .val (.int oz), .val (.int fl), .val (.int off), .val (.int f), .val (.ref a), .val (.int en), .val (.long (own_u v)), .second, .val (.int n)] ∧ u = [.int f, .long (own_u v), .int n, .int off, .int 3, .ref a]) := by
  simp only [r_wp0, r_wpS, r_nxt, r_stop0, r_stopS, r_go, r_goIf, r_fork, r_tgt, r_okO, r_gI, r_gJ, r_gA, r_pI, r_pJ, r_pA, r_p1r, r_p1i, r_pII, r_pJJ, r_pJI, r_fnd0, r_fndS, r_gC, r_gC0, r_gB, r_st1, r_st2, r_eq, r_ne, r_lt, r_ge, r_gt, r_le, r_eqL, r_neL, r_ltL, r_geL, r_gtL, r_leL, r_f0, r_f1, r_f2, r_f3, r_im1, r_i0, r_i1, r_i2, r_i3, r_i4, r_i5, r_i7, r_l0, r_l1, lget_z, lget_s, lput_z, lput_s, one_unset, one_int, one_ref, two_unset, two_long, cond_true, cond_false, true_and, and_true, not_true_eq_false, not_false_eq_true, true_implies, false_implies, implies_true, ne_eq, Classical.not_not, Int.cast_ofNat_Int, ite_true, seval, and_self, n_aload, n_astore, n_bastore, n_bipush, n_goto, n_i2b, n_i2l, n_iadd, n_iand, n_iconst, n_ifCond, n_if_icmp, n_iload, n_iload_n, n_invokestatic, n_ireturn, n_istore, n_istore_n, n_land, n_ldc2_w, n_lload, n_lstore, n_newarray, b_7, b_13, b_6, b_8, b_9, b_10, b_11, b_12, ci0, cj0, at_0, at_1, at_3, at_4, at_5, at_6, at_7, at_9, at_11, at_13, at_15, at_17, at_18, at_20, at_21, at_23, at_24, at_26, at_27, at_29, at_30, at_32, at_33, at_35, at_36, at_38, at_39, at_41, at_42, at_44, at_45, at_47, at_48, at_50, at_51, at_53, at_55, at_57, at_58, at_60, at_62, at_64, at_65, at_67, at_69, at_71, at_72, at_74, at_76, at_78, at_79, at_81, at_83, at_85, at_86, at_88, at_90, at_92, at_93, at_95, at_97, at_99, at_100, at_102, at_103, at_104, at_107, at_109, at_110, at_111, at_114, at_115, at_117, at_119, at_122, at_124, at_126, at_127, at_129, at_130, at_133, at_134, at_135, at_137, at_138, at_139, at_141, at_143, at_145, at_148, at_151, at_153, at_154, at_155, at_157, at_159, at_161, at_164, at_167, at_169, at_170, at_171, at_173, at_175, at_177, at_180, at_183, at_185, at_186, at_187, at_189, at_191, at_193, at_196, at_199, at_201, at_202, at_203, at_205, at_207, at_209, at_212, at_215, at_217, at_218, at_219, at_221, at_223, at_225, at_228, at_231, at_233, at_235, at_236, at_238, at_240, at_242, at_245, at_248, at_250, at_252, at_253, at_255, at_257, at_259, at_262, at_265, at_267, at_269, at_270, at_272, at_274, at_276, at_279, at_282, at_284, at_286, at_287, at_289, at_291, at_293, at_296, at_299, at_301, at_303, at_304, at_306, at_308, at_310, at_313, at_316, at_318, at_320, at_321, at_323, at_325, at_327, at_330, at_333, at_335, at_337, at_338, at_340, at_342, at_344, at_347, at_350, at_351, at_354, at_355]
set_option maxRecDepth 65536 in
set_option maxHeartbeats 4000000 in
theorem wj_4 (v oz fl off f n : Int32) (a : Addr) (en : Int32) : wpo code ci0 cj0 [] 90 196 [.val (.int v), .val (.int oz), .val (.int fl), .val (.int off), .val (.int f), .val (.ref a), .val (.int en), .val (.long (own_u v)), .second, .val (.int n)] [.int 1] (fun b M u => b = 209 ∧ M = [.val (.int v), .val (.int oz), .val (.int fl), .val (.int off), .val (.int f), .val (.ref a), .val (.int en), .val (.long (own_u v)), .second, .val (.int n)] ∧ u = [.int f, .long (own_u v), .int n, .int off, .int 4, .ref a]) := by
  simp only [r_wp0, r_wpS, r_nxt, r_stop0, r_stopS, r_go, r_goIf, r_fork, r_tgt, r_okO, r_gI, r_gJ, r_gA, r_pI, r_pJ, r_pA, r_p1r, r_p1i, r_pII, r_pJJ, r_pJI, r_fnd0, r_fndS, r_gC, r_gC0, r_gB, r_st1, r_st2, r_eq, r_ne, r_lt, r_ge, r_gt, r_le, r_eqL, r_neL, r_ltL, r_geL, r_gtL, r_leL, r_f0, r_f1, r_f2, r_f3, r_im1, r_i0, r_i1, r_i2, r_i3, r_i4, r_i5, r_i7, r_l0, r_l1, lget_z, lget_s, lput_z, lput_s, one_unset, one_int, one_ref, two_unset, two_long, cond_true, cond_false, true_and, and_true, not_true_eq_false, not_false_eq_true, true_implies, false_implies, implies_true, ne_eq, Classical.not_not, Int.cast_ofNat_Int, ite_true, seval, and_self, n_aload, n_astore, n_bastore, n_bipush, n_goto, n_i2b, n_i2l, n_iadd, n_iand, n_iconst, n_ifCond, n_if_icmp, n_iload, n_iload_n, n_invokestatic, n_ireturn, n_istore, n_istore_n, n_land, n_ldc2_w, n_lload, n_lstore, n_newarray, b_7, b_13, b_6, b_8, b_9, b_10, b_11, b_12, ci0, cj0, at_0, at_1, at_3, at_4, at_5, at_6, at_7, at_9, at_11, at_13, at_15, at_17, at_18, at_20, at_21, at_23, at_24, at_26, at_27, at_29, at_30, at_32, at_33, at_35, at_36, at_38, at_39, at_41, at_42, at_44, at_45, at_47, at_48, at_50, at_51, at_53, at_55, at_57, at_58, at_60, at_62, at_64, at_65, at_67, at_69, at_71, at_72, at_74, at_76, at_78, at_79, at_81, at_83, at_85, at_86, at_88, at_90, at_92, at_93, at_95, at_97, at_99, at_100, at_102, at_103, at_104, at_107, at_109, at_110, at_111, at_114, at_115, at_117, at_119, at_122, at_124, at_126, at_127, at_129, at_130, at_133, at_134, at_135, at_137, at_138, at_139, at_141, at_143, at_145, at_148, at_151, at_153, at_154, at_155, at_157, at_159, at_161, at_164, at_167, at_169, at_170, at_171, at_173, at_175, at_177, at_180, at_183, at_185, at_186, at_187, at_189, at_191, at_193, at_196, at_199, at_201, at_202, at_203, at_205, at_207, at_209, at_212, at_215, at_217, at_218, at_219, at_221, at_223, at_225, at_228, at_231, at_233, at_235, at_236, at_238, at_240, at_242, at_245, at_248, at_250, at_252, at_253, at_255, at_257, at_259, at_262, at_265, at_267, at_269, at_270, at_272, at_274, at_276, at_279, at_282, at_284, at_286, at_287, at_289, at_291, at_293, at_296, at_299, at_301, at_303, at_304, at_306, at_308, at_310, at_313, at_316, at_318, at_320, at_321, at_323, at_325, at_327, at_330, at_333, at_335, at_337, at_338, at_340, at_342, at_344, at_347, at_350, at_351, at_354, at_355]
set_option maxRecDepth 65536 in
set_option maxHeartbeats 4000000 in
theorem wj_5 (v oz fl off f n : Int32) (a : Addr) (en : Int32) : wpo code ci0 cj0 [] 90 212 [.val (.int v), .val (.int oz), .val (.int fl), .val (.int off), .val (.int f), .val (.ref a), .val (.int en), .val (.long (own_u v)), .second, .val (.int n)] [.int 1] (fun b M u => b = 225 ∧ M = [.val (.int v), .val (.int oz), .val (.int fl), .val (.int off), .val (.int f), .val (.ref a), .val (.int en), .val (.long (own_u v)), .second, .val (.int n)] ∧ u = [.int f, .long (own_u v), .int n, .int off, .int 5, .ref a]) := by
  simp only [r_wp0, r_wpS, r_nxt, r_stop0, r_stopS, r_go, r_goIf, r_fork, r_tgt, r_okO, r_gI, r_gJ, r_gA, r_pI, r_pJ, r_pA, r_p1r, r_p1i, r_pII, r_pJJ, r_pJI, r_fnd0, r_fndS, r_gC, r_gC0, r_gB, r_st1, r_st2, r_eq, r_ne, r_lt, r_ge, r_gt, r_le, r_eqL, r_neL, r_ltL, r_geL, r_gtL, r_leL, r_f0, r_f1, r_f2, r_f3, r_im1, r_i0, r_i1, r_i2, r_i3, r_i4, r_i5, r_i7, r_l0, r_l1, lget_z, lget_s, lput_z, lput_s, one_unset, one_int, one_ref, two_unset, two_long, cond_true, cond_false, true_and, and_true, not_true_eq_false, not_false_eq_true, true_implies, false_implies, implies_true, ne_eq, Classical.not_not, Int.cast_ofNat_Int, ite_true, seval, and_self, n_aload, n_astore, n_bastore, n_bipush, n_goto, n_i2b, n_i2l, n_iadd, n_iand, n_iconst, n_ifCond, n_if_icmp, n_iload, n_iload_n, n_invokestatic, n_ireturn, n_istore, n_istore_n, n_land, n_ldc2_w, n_lload, n_lstore, n_newarray, b_7, b_13, b_6, b_8, b_9, b_10, b_11, b_12, ci0, cj0, at_0, at_1, at_3, at_4, at_5, at_6, at_7, at_9, at_11, at_13, at_15, at_17, at_18, at_20, at_21, at_23, at_24, at_26, at_27, at_29, at_30, at_32, at_33, at_35, at_36, at_38, at_39, at_41, at_42, at_44, at_45, at_47, at_48, at_50, at_51, at_53, at_55, at_57, at_58, at_60, at_62, at_64, at_65, at_67, at_69, at_71, at_72, at_74, at_76, at_78, at_79, at_81, at_83, at_85, at_86, at_88, at_90, at_92, at_93, at_95, at_97, at_99, at_100, at_102, at_103, at_104, at_107, at_109, at_110, at_111, at_114, at_115, at_117, at_119, at_122, at_124, at_126, at_127, at_129, at_130, at_133, at_134, at_135, at_137, at_138, at_139, at_141, at_143, at_145, at_148, at_151, at_153, at_154, at_155, at_157, at_159, at_161, at_164, at_167, at_169, at_170, at_171, at_173, at_175, at_177, at_180, at_183, at_185, at_186, at_187, at_189, at_191, at_193, at_196, at_199, at_201, at_202, at_203, at_205, at_207, at_209, at_212, at_215, at_217, at_218, at_219, at_221, at_223, at_225, at_228, at_231, at_233, at_235, at_236, at_238, at_240, at_242, at_245, at_248, at_250, at_252, at_253, at_255, at_257, at_259, at_262, at_265, at_267, at_269, at_270, at_272, at_274, at_276, at_279, at_282, at_284, at_286, at_287, at_289, at_291, at_293, at_296, at_299, at_301, at_303, at_304, at_306, at_308, at_310, at_313, at_316, at_318, at_320, at_321, at_323, at_325, at_327, at_330, at_333, at_335, at_337, at_338, at_340, at_342, at_344, at_347, at_350, at_351, at_354, at_355]
set_option maxRecDepth 65536 in
set_option maxHeartbeats 4000000 in
theorem wj_6 (v oz fl off f n : Int32) (a : Addr) (en : Int32) : wpo code ci0 cj0 [] 90 228 [.val (.int v), .val (.int oz), .val (.int fl), .val (.int off), .val (.int f), .val (.ref a), .val (.int en), .val (.long (own_u v)), .second, .val (.int n)] [.int 1] (fun b M u => b = 242 ∧ M = [.val (.int v), .val (.int oz), .val (.int fl), .val (.int off), .val (.int f), .val (.ref a), .val (.int en), .val (.long (own_u v)), .second, .val (.int n)] ∧ u = [.int f, .long (own_u v), .int n, .int off, .int 6, .ref a]) := by
  simp only [r_wp0, r_wpS, r_nxt, r_stop0, r_stopS, r_go, r_goIf, r_fork, r_tgt, r_okO, r_gI, r_gJ, r_gA, r_pI, r_pJ, r_pA, r_p1r, r_p1i, r_pII, r_pJJ, r_pJI, r_fnd0, r_fndS, r_gC, r_gC0, r_gB, r_st1, r_st2, r_eq, r_ne, r_lt, r_ge, r_gt, r_le, r_eqL, r_neL, r_ltL, r_geL, r_gtL, r_leL, r_f0, r_f1, r_f2, r_f3, r_im1, r_i0, r_i1, r_i2, r_i3, r_i4, r_i5, r_i7, r_l0, r_l1, lget_z, lget_s, lput_z, lput_s, one_unset, one_int, one_ref, two_unset, two_long, cond_true, cond_false, true_and, and_true, not_true_eq_false, not_false_eq_true, true_implies, false_implies, implies_true, ne_eq, Classical.not_not, Int.cast_ofNat_Int, ite_true, seval, and_self, n_aload, n_astore, n_bastore, n_bipush, n_goto, n_i2b, n_i2l, n_iadd, n_iand, n_iconst, n_ifCond, n_if_icmp, n_iload, n_iload_n, n_invokestatic, n_ireturn, n_istore, n_istore_n, n_land, n_ldc2_w, n_lload, n_lstore, n_newarray, b_7, b_13, b_6, b_8, b_9, b_10, b_11, b_12, ci0, cj0, at_0, at_1, at_3, at_4, at_5, at_6, at_7, at_9, at_11, at_13, at_15, at_17, at_18, at_20, at_21, at_23, at_24, at_26, at_27, at_29, at_30, at_32, at_33, at_35, at_36, at_38, at_39, at_41, at_42, at_44, at_45, at_47, at_48, at_50, at_51, at_53, at_55, at_57, at_58, at_60, at_62, at_64, at_65, at_67, at_69, at_71, at_72, at_74, at_76, at_78, at_79, at_81, at_83, at_85, at_86, at_88, at_90, at_92, at_93, at_95, at_97, at_99, at_100, at_102, at_103, at_104, at_107, at_109, at_110, at_111, at_114, at_115, at_117, at_119, at_122, at_124, at_126, at_127, at_129, at_130, at_133, at_134, at_135, at_137, at_138, at_139, at_141, at_143, at_145, at_148, at_151, at_153, at_154, at_155, at_157, at_159, at_161, at_164, at_167, at_169, at_170, at_171, at_173, at_175, at_177, at_180, at_183, at_185, at_186, at_187, at_189, at_191, at_193, at_196, at_199, at_201, at_202, at_203, at_205, at_207, at_209, at_212, at_215, at_217, at_218, at_219, at_221, at_223, at_225, at_228, at_231, at_233, at_235, at_236, at_238, at_240, at_242, at_245, at_248, at_250, at_252, at_253, at_255, at_257, at_259, at_262, at_265, at_267, at_269, at_270, at_272, at_274, at_276, at_279, at_282, at_284, at_286, at_287, at_289, at_291, at_293, at_296, at_299, at_301, at_303, at_304, at_306, at_308, at_310, at_313, at_316, at_318, at_320, at_321, at_323, at_325, at_327, at_330, at_333, at_335, at_337, at_338, at_340, at_342, at_344, at_347, at_350, at_351, at_354, at_355]
set_option maxRecDepth 65536 in
set_option maxHeartbeats 4000000 in
theorem wj_7 (v oz fl off f n : Int32) (a : Addr) (en : Int32) : wpo code ci0 cj0 [] 90 245 [.val (.int v), .val (.int oz), .val (.int fl), .val (.int off), .val (.int f), .val (.ref a), .val (.int en), .val (.long (own_u v)), .second, .val (.int n)] [.int 1] (fun b M u => b = 259 ∧ M = [.val (.int v), .val (.int oz), .val (.int fl), .val (.int off), .val (.int f), .val (.ref a), .val (.int en), .val (.long (own_u v)), .second, .val (.int n)] ∧ u = [.int f, .long (own_u v), .int n, .int off, .int 7, .ref a]) := by
  simp only [r_wp0, r_wpS, r_nxt, r_stop0, r_stopS, r_go, r_goIf, r_fork, r_tgt, r_okO, r_gI, r_gJ, r_gA, r_pI, r_pJ, r_pA, r_p1r, r_p1i, r_pII, r_pJJ, r_pJI, r_fnd0, r_fndS, r_gC, r_gC0, r_gB, r_st1, r_st2, r_eq, r_ne, r_lt, r_ge, r_gt, r_le, r_eqL, r_neL, r_ltL, r_geL, r_gtL, r_leL, r_f0, r_f1, r_f2, r_f3, r_im1, r_i0, r_i1, r_i2, r_i3, r_i4, r_i5, r_i7, r_l0, r_l1, lget_z, lget_s, lput_z, lput_s, one_unset, one_int, one_ref, two_unset, two_long, cond_true, cond_false, true_and, and_true, not_true_eq_false, not_false_eq_true, true_implies, false_implies, implies_true, ne_eq, Classical.not_not, Int.cast_ofNat_Int, ite_true, seval, and_self, n_aload, n_astore, n_bastore, n_bipush, n_goto, n_i2b, n_i2l, n_iadd, n_iand, n_iconst, n_ifCond, n_if_icmp, n_iload, n_iload_n, n_invokestatic, n_ireturn, n_istore, n_istore_n, n_land, n_ldc2_w, n_lload, n_lstore, n_newarray, b_7, b_13, b_6, b_8, b_9, b_10, b_11, b_12, ci0, cj0, at_0, at_1, at_3, at_4, at_5, at_6, at_7, at_9, at_11, at_13, at_15, at_17, at_18, at_20, at_21, at_23, at_24, at_26, at_27, at_29, at_30, at_32, at_33, at_35, at_36, at_38, at_39, at_41, at_42, at_44, at_45, at_47, at_48, at_50, at_51, at_53, at_55, at_57, at_58, at_60, at_62, at_64, at_65, at_67, at_69, at_71, at_72, at_74, at_76, at_78, at_79, at_81, at_83, at_85, at_86, at_88, at_90, at_92, at_93, at_95, at_97, at_99, at_100, at_102, at_103, at_104, at_107, at_109, at_110, at_111, at_114, at_115, at_117, at_119, at_122, at_124, at_126, at_127, at_129, at_130, at_133, at_134, at_135, at_137, at_138, at_139, at_141, at_143, at_145, at_148, at_151, at_153, at_154, at_155, at_157, at_159, at_161, at_164, at_167, at_169, at_170, at_171, at_173, at_175, at_177, at_180, at_183, at_185, at_186, at_187, at_189, at_191, at_193, at_196, at_199, at_201, at_202, at_203, at_205, at_207, at_209, at_212, at_215, at_217, at_218, at_219, at_221, at_223, at_225, at_228, at_231, at_233, at_235, at_236, at_238, at_240, at_242, at_245, at_248, at_250, at_252, at_253, at_255, at_257, at_259, at_262, at_265, at_267, at_269, at_270, at_272, at_274, at_276, at_279, at_282, at_284, at_286, at_287, at_289, at_291, at_293, at_296, at_299, at_301, at_303, at_304, at_306, at_308, at_310, at_313, at_316, at_318, at_320, at_321, at_323, at_325, at_327, at_330, at_333, at_335, at_337, at_338, at_340, at_342, at_344, at_347, at_350, at_351, at_354, at_355]
set_option maxRecDepth 65536 in
set_option maxHeartbeats 4000000 in
theorem wj_8 (v oz fl off f n : Int32) (a : Addr) (en : Int32) : wpo code ci0 cj0 [] 90 262 [.val (.int v), .val (.int oz), .val (.int fl), .val (.int off), .val (.int f), .val (.ref a), .val (.int en), .val (.long (own_u v)), .second, .val (.int n)] [.int 1] (fun b M u => b = 276 ∧ M = [.val (.int v), .val (.int oz), .val (.int fl), .val (.int off), .val (.int f), .val (.ref a), .val (.int en), .val (.long (own_u v)), .second, .val (.int n)] ∧ u = [.int f, .long (own_u v), .int n, .int off, .int 8, .ref a]) := by
  simp only [r_wp0, r_wpS, r_nxt, r_stop0, r_stopS, r_go, r_goIf, r_fork, r_tgt, r_okO, r_gI, r_gJ, r_gA, r_pI, r_pJ, r_pA, r_p1r, r_p1i, r_pII, r_pJJ, r_pJI, r_fnd0, r_fndS, r_gC, r_gC0, r_gB, r_st1, r_st2, r_eq, r_ne, r_lt, r_ge, r_gt, r_le, r_eqL, r_neL, r_ltL, r_geL, r_gtL, r_leL, r_f0, r_f1, r_f2, r_f3, r_im1, r_i0, r_i1, r_i2, r_i3, r_i4, r_i5, r_i7, r_l0, r_l1, lget_z, lget_s, lput_z, lput_s, one_unset, one_int, one_ref, two_unset, two_long, cond_true, cond_false, true_and, and_true, not_true_eq_false, not_false_eq_true, true_implies, false_implies, implies_true, ne_eq, Classical.not_not, Int.cast_ofNat_Int, ite_true, seval, and_self, n_aload, n_astore, n_bastore, n_bipush, n_goto, n_i2b, n_i2l, n_iadd, n_iand, n_iconst, n_ifCond, n_if_icmp, n_iload, n_iload_n, n_invokestatic, n_ireturn, n_istore, n_istore_n, n_land, n_ldc2_w, n_lload, n_lstore, n_newarray, b_7, b_13, b_6, b_8, b_9, b_10, b_11, b_12, ci0, cj0, at_0, at_1, at_3, at_4, at_5, at_6, at_7, at_9, at_11, at_13, at_15, at_17, at_18, at_20, at_21, at_23, at_24, at_26, at_27, at_29, at_30, at_32, at_33, at_35, at_36, at_38, at_39, at_41, at_42, at_44, at_45, at_47, at_48, at_50, at_51, at_53, at_55, at_57, at_58, at_60, at_62, at_64, at_65, at_67, at_69, at_71, at_72, at_74, at_76, at_78, at_79, at_81, at_83, at_85, at_86, at_88, at_90, at_92, at_93, at_95, at_97, at_99, at_100, at_102, at_103, at_104, at_107, at_109, at_110, at_111, at_114, at_115, at_117, at_119, at_122, at_124, at_126, at_127, at_129, at_130, at_133, at_134, at_135, at_137, at_138, at_139, at_141, at_143, at_145, at_148, at_151, at_153, at_154, at_155, at_157, at_159, at_161, at_164, at_167, at_169, at_170, at_171, at_173, at_175, at_177, at_180, at_183, at_185, at_186, at_187, at_189, at_191, at_193, at_196, at_199, at_201, at_202, at_203, at_205, at_207, at_209, at_212, at_215, at_217, at_218, at_219, at_221, at_223, at_225, at_228, at_231, at_233, at_235, at_236, at_238, at_240, at_242, at_245, at_248, at_250, at_252, at_253, at_255, at_257, at_259, at_262, at_265, at_267, at_269, at_270, at_272, at_274, at_276, at_279, at_282, at_284, at_286, at_287, at_289, at_291, at_293, at_296, at_299, at_301, at_303, at_304, at_306, at_308, at_310, at_313, at_316, at_318, at_320, at_321, at_323, at_325, at_327, at_330, at_333, at_335, at_337, at_338, at_340, at_342, at_344, at_347, at_350, at_351, at_354, at_355]
set_option maxRecDepth 65536 in
set_option maxHeartbeats 4000000 in
theorem wj_9 (v oz fl off f n : Int32) (a : Addr) (en : Int32) : wpo code ci0 cj0 [] 90 279 [.val (.int v), .val (.int oz), .val (.int fl), .val (.int off), .val (.int f), .val (.ref a), .val (.int en), .val (.long (own_u v)), .second, .val (.int n)] [.int 1] (fun b M u => b = 293 ∧ M = [.val (.int v), .val (.int oz), .val (.int fl), .val (.int off), .val (.int f), .val (.ref a), .val (.int en), .val (.long (own_u v)), .second, .val (.int n)] ∧ u = [.int f, .long (own_u v), .int n, .int off, .int 9, .ref a]) := by
  simp only [r_wp0, r_wpS, r_nxt, r_stop0, r_stopS, r_go, r_goIf, r_fork, r_tgt, r_okO, r_gI, r_gJ, r_gA, r_pI, r_pJ, r_pA, r_p1r, r_p1i, r_pII, r_pJJ, r_pJI, r_fnd0, r_fndS, r_gC, r_gC0, r_gB, r_st1, r_st2, r_eq, r_ne, r_lt, r_ge, r_gt, r_le, r_eqL, r_neL, r_ltL, r_geL, r_gtL, r_leL, r_f0, r_f1, r_f2, r_f3, r_im1, r_i0, r_i1, r_i2, r_i3, r_i4, r_i5, r_i7, r_l0, r_l1, lget_z, lget_s, lput_z, lput_s, one_unset, one_int, one_ref, two_unset, two_long, cond_true, cond_false, true_and, and_true, not_true_eq_false, not_false_eq_true, true_implies, false_implies, implies_true, ne_eq, Classical.not_not, Int.cast_ofNat_Int, ite_true, seval, and_self, n_aload, n_astore, n_bastore, n_bipush, n_goto, n_i2b, n_i2l, n_iadd, n_iand, n_iconst, n_ifCond, n_if_icmp, n_iload, n_iload_n, n_invokestatic, n_ireturn, n_istore, n_istore_n, n_land, n_ldc2_w, n_lload, n_lstore, n_newarray, b_7, b_13, b_6, b_8, b_9, b_10, b_11, b_12, ci0, cj0, at_0, at_1, at_3, at_4, at_5, at_6, at_7, at_9, at_11, at_13, at_15, at_17, at_18, at_20, at_21, at_23, at_24, at_26, at_27, at_29, at_30, at_32, at_33, at_35, at_36, at_38, at_39, at_41, at_42, at_44, at_45, at_47, at_48, at_50, at_51, at_53, at_55, at_57, at_58, at_60, at_62, at_64, at_65, at_67, at_69, at_71, at_72, at_74, at_76, at_78, at_79, at_81, at_83, at_85, at_86, at_88, at_90, at_92, at_93, at_95, at_97, at_99, at_100, at_102, at_103, at_104, at_107, at_109, at_110, at_111, at_114, at_115, at_117, at_119, at_122, at_124, at_126, at_127, at_129, at_130, at_133, at_134, at_135, at_137, at_138, at_139, at_141, at_143, at_145, at_148, at_151, at_153, at_154, at_155, at_157, at_159, at_161, at_164, at_167, at_169, at_170, at_171, at_173, at_175, at_177, at_180, at_183, at_185, at_186, at_187, at_189, at_191, at_193, at_196, at_199, at_201, at_202, at_203, at_205, at_207, at_209, at_212, at_215, at_217, at_218, at_219, at_221, at_223, at_225, at_228, at_231, at_233, at_235, at_236, at_238, at_240, at_242, at_245, at_248, at_250, at_252, at_253, at_255, at_257, at_259, at_262, at_265, at_267, at_269, at_270, at_272, at_274, at_276, at_279, at_282, at_284, at_286, at_287, at_289, at_291, at_293, at_296, at_299, at_301, at_303, at_304, at_306, at_308, at_310, at_313, at_316, at_318, at_320, at_321, at_323, at_325, at_327, at_330, at_333, at_335, at_337, at_338, at_340, at_342, at_344, at_347, at_350, at_351, at_354, at_355]
set_option maxRecDepth 65536 in
set_option maxHeartbeats 4000000 in
theorem wj_10 (v oz fl off f n : Int32) (a : Addr) (en : Int32) : wpo code ci0 cj0 [] 90 296 [.val (.int v), .val (.int oz), .val (.int fl), .val (.int off), .val (.int f), .val (.ref a), .val (.int en), .val (.long (own_u v)), .second, .val (.int n)] [.int 1] (fun b M u => b = 310 ∧ M = [.val (.int v), .val (.int oz), .val (.int fl), .val (.int off), .val (.int f), .val (.ref a), .val (.int en), .val (.long (own_u v)), .second, .val (.int n)] ∧ u = [.int f, .long (own_u v), .int n, .int off, .int 10, .ref a]) := by
  simp only [r_wp0, r_wpS, r_nxt, r_stop0, r_stopS, r_go, r_goIf, r_fork, r_tgt, r_okO, r_gI, r_gJ, r_gA, r_pI, r_pJ, r_pA, r_p1r, r_p1i, r_pII, r_pJJ, r_pJI, r_fnd0, r_fndS, r_gC, r_gC0, r_gB, r_st1, r_st2, r_eq, r_ne, r_lt, r_ge, r_gt, r_le, r_eqL, r_neL, r_ltL, r_geL, r_gtL, r_leL, r_f0, r_f1, r_f2, r_f3, r_im1, r_i0, r_i1, r_i2, r_i3, r_i4, r_i5, r_i7, r_l0, r_l1, lget_z, lget_s, lput_z, lput_s, one_unset, one_int, one_ref, two_unset, two_long, cond_true, cond_false, true_and, and_true, not_true_eq_false, not_false_eq_true, true_implies, false_implies, implies_true, ne_eq, Classical.not_not, Int.cast_ofNat_Int, ite_true, seval, and_self, n_aload, n_astore, n_bastore, n_bipush, n_goto, n_i2b, n_i2l, n_iadd, n_iand, n_iconst, n_ifCond, n_if_icmp, n_iload, n_iload_n, n_invokestatic, n_ireturn, n_istore, n_istore_n, n_land, n_ldc2_w, n_lload, n_lstore, n_newarray, b_7, b_13, b_6, b_8, b_9, b_10, b_11, b_12, ci0, cj0, at_0, at_1, at_3, at_4, at_5, at_6, at_7, at_9, at_11, at_13, at_15, at_17, at_18, at_20, at_21, at_23, at_24, at_26, at_27, at_29, at_30, at_32, at_33, at_35, at_36, at_38, at_39, at_41, at_42, at_44, at_45, at_47, at_48, at_50, at_51, at_53, at_55, at_57, at_58, at_60, at_62, at_64, at_65, at_67, at_69, at_71, at_72, at_74, at_76, at_78, at_79, at_81, at_83, at_85, at_86, at_88, at_90, at_92, at_93, at_95, at_97, at_99, at_100, at_102, at_103, at_104, at_107, at_109, at_110, at_111, at_114, at_115, at_117, at_119, at_122, at_124, at_126, at_127, at_129, at_130, at_133, at_134, at_135, at_137, at_138, at_139, at_141, at_143, at_145, at_148, at_151, at_153, at_154, at_155, at_157, at_159, at_161, at_164, at_167, at_169, at_170, at_171, at_173, at_175, at_177, at_180, at_183, at_185, at_186, at_187, at_189, at_191, at_193, at_196, at_199, at_201, at_202, at_203, at_205, at_207, at_209, at_212, at_215, at_217, at_218, at_219, at_221, at_223, at_225, at_228, at_231, at_233, at_235, at_236, at_238, at_240, at_242, at_245, at_248, at_250, at_252, at_253, at_255, at_257, at_259, at_262, at_265, at_267, at_269, at_270, at_272, at_274, at_276, at_279, at_282, at_284, at_286, at_287, at_289, at_291, at_293, at_296, at_299, at_301, at_303, at_304, at_306, at_308, at_310, at_313, at_316, at_318, at_320, at_321, at_323, at_325, at_327, at_330, at_333, at_335, at_337, at_338, at_340, at_342, at_344, at_347, at_350, at_351, at_354, at_355]
set_option maxRecDepth 65536 in
set_option maxHeartbeats 4000000 in
theorem wj_11 (v oz fl off f n : Int32) (a : Addr) (en : Int32) : wpo code ci0 cj0 [] 90 313 [.val (.int v), .val (.int oz), .val (.int fl), .val (.int off), .val (.int f), .val (.ref a), .val (.int en), .val (.long (own_u v)), .second, .val (.int n)] [.int 1] (fun b M u => b = 327 ∧ M = [.val (.int v), .val (.int oz), .val (.int fl), .val (.int off), .val (.int f), .val (.ref a), .val (.int en), .val (.long (own_u v)), .second, .val (.int n)] ∧ u = [.int f, .long (own_u v), .int n, .int off, .int 11, .ref a]) := by
  simp only [r_wp0, r_wpS, r_nxt, r_stop0, r_stopS, r_go, r_goIf, r_fork, r_tgt, r_okO, r_gI, r_gJ, r_gA, r_pI, r_pJ, r_pA, r_p1r, r_p1i, r_pII, r_pJJ, r_pJI, r_fnd0, r_fndS, r_gC, r_gC0, r_gB, r_st1, r_st2, r_eq, r_ne, r_lt, r_ge, r_gt, r_le, r_eqL, r_neL, r_ltL, r_geL, r_gtL, r_leL, r_f0, r_f1, r_f2, r_f3, r_im1, r_i0, r_i1, r_i2, r_i3, r_i4, r_i5, r_i7, r_l0, r_l1, lget_z, lget_s, lput_z, lput_s, one_unset, one_int, one_ref, two_unset, two_long, cond_true, cond_false, true_and, and_true, not_true_eq_false, not_false_eq_true, true_implies, false_implies, implies_true, ne_eq, Classical.not_not, Int.cast_ofNat_Int, ite_true, seval, and_self, n_aload, n_astore, n_bastore, n_bipush, n_goto, n_i2b, n_i2l, n_iadd, n_iand, n_iconst, n_ifCond, n_if_icmp, n_iload, n_iload_n, n_invokestatic, n_ireturn, n_istore, n_istore_n, n_land, n_ldc2_w, n_lload, n_lstore, n_newarray, b_7, b_13, b_6, b_8, b_9, b_10, b_11, b_12, ci0, cj0, at_0, at_1, at_3, at_4, at_5, at_6, at_7, at_9, at_11, at_13, at_15, at_17, at_18, at_20, at_21, at_23, at_24, at_26, at_27, at_29, at_30, at_32, at_33, at_35, at_36, at_38, at_39, at_41, at_42, at_44, at_45, at_47, at_48, at_50, at_51, at_53, at_55, at_57, at_58, at_60, at_62, at_64, at_65, at_67, at_69, at_71, at_72, at_74, at_76, at_78, at_79, at_81, at_83, at_85, at_86, at_88, at_90, at_92, at_93, at_95, at_97, at_99, at_100, at_102, at_103, at_104, at_107, at_109, at_110, at_111, at_114, at_115, at_117, at_119, at_122, at_124, at_126, at_127, at_129, at_130, at_133, at_134, at_135, at_137, at_138, at_139, at_141, at_143, at_145, at_148, at_151, at_153, at_154, at_155, at_157, at_159, at_161, at_164, at_167, at_169, at_170, at_171, at_173, at_175, at_177, at_180, at_183, at_185, at_186, at_187, at_189, at_191, at_193, at_196, at_199, at_201, at_202, at_203, at_205, at_207, at_209, at_212, at_215, at_217, at_218, at_219, at_221, at_223, at_225, at_228, at_231, at_233, at_235, at_236, at_238, at_240, at_242, at_245, at_248, at_250, at_252, at_253, at_255, at_257, at_259, at_262, at_265, at_267, at_269, at_270, at_272, at_274, at_276, at_279, at_282, at_284, at_286, at_287, at_289, at_291, at_293, at_296, at_299, at_301, at_303, at_304, at_306, at_308, at_310, at_313, at_316, at_318, at_320, at_321, at_323, at_325, at_327, at_330, at_333, at_335, at_337, at_338, at_340, at_342, at_344, at_347, at_350, at_351, at_354, at_355]
set_option maxRecDepth 65536 in
set_option maxHeartbeats 4000000 in
theorem wj_12 (v oz fl off f n : Int32) (a : Addr) (en : Int32) : wpo code ci0 cj0 [] 90 330 [.val (.int v), .val (.int oz), .val (.int fl), .val (.int off), .val (.int f), .val (.ref a), .val (.int en), .val (.long (own_u v)), .second, .val (.int n)] [.int 1] (fun b M u => b = 344 ∧ M = [.val (.int v), .val (.int oz), .val (.int fl), .val (.int off), .val (.int f), .val (.ref a), .val (.int en), .val (.long (own_u v)), .second, .val (.int n)] ∧ u = [.int f, .long (own_u v), .int n, .int off, .int 12, .ref a]) := by
  simp only [r_wp0, r_wpS, r_nxt, r_stop0, r_stopS, r_go, r_goIf, r_fork, r_tgt, r_okO, r_gI, r_gJ, r_gA, r_pI, r_pJ, r_pA, r_p1r, r_p1i, r_pII, r_pJJ, r_pJI, r_fnd0, r_fndS, r_gC, r_gC0, r_gB, r_st1, r_st2, r_eq, r_ne, r_lt, r_ge, r_gt, r_le, r_eqL, r_neL, r_ltL, r_geL, r_gtL, r_leL, r_f0, r_f1, r_f2, r_f3, r_im1, r_i0, r_i1, r_i2, r_i3, r_i4, r_i5, r_i7, r_l0, r_l1, lget_z, lget_s, lput_z, lput_s, one_unset, one_int, one_ref, two_unset, two_long, cond_true, cond_false, true_and, and_true, not_true_eq_false, not_false_eq_true, true_implies, false_implies, implies_true, ne_eq, Classical.not_not, Int.cast_ofNat_Int, ite_true, seval, and_self, n_aload, n_astore, n_bastore, n_bipush, n_goto, n_i2b, n_i2l, n_iadd, n_iand, n_iconst, n_ifCond, n_if_icmp, n_iload, n_iload_n, n_invokestatic, n_ireturn, n_istore, n_istore_n, n_land, n_ldc2_w, n_lload, n_lstore, n_newarray, b_7, b_13, b_6, b_8, b_9, b_10, b_11, b_12, ci0, cj0, at_0, at_1, at_3, at_4, at_5, at_6, at_7, at_9, at_11, at_13, at_15, at_17, at_18, at_20, at_21, at_23, at_24, at_26, at_27, at_29, at_30, at_32, at_33, at_35, at_36, at_38, at_39, at_41, at_42, at_44, at_45, at_47, at_48, at_50, at_51, at_53, at_55, at_57, at_58, at_60, at_62, at_64, at_65, at_67, at_69, at_71, at_72, at_74, at_76, at_78, at_79, at_81, at_83, at_85, at_86, at_88, at_90, at_92, at_93, at_95, at_97, at_99, at_100, at_102, at_103, at_104, at_107, at_109, at_110, at_111, at_114, at_115, at_117, at_119, at_122, at_124, at_126, at_127, at_129, at_130, at_133, at_134, at_135, at_137, at_138, at_139, at_141, at_143, at_145, at_148, at_151, at_153, at_154, at_155, at_157, at_159, at_161, at_164, at_167, at_169, at_170, at_171, at_173, at_175, at_177, at_180, at_183, at_185, at_186, at_187, at_189, at_191, at_193, at_196, at_199, at_201, at_202, at_203, at_205, at_207, at_209, at_212, at_215, at_217, at_218, at_219, at_221, at_223, at_225, at_228, at_231, at_233, at_235, at_236, at_238, at_240, at_242, at_245, at_248, at_250, at_252, at_253, at_255, at_257, at_259, at_262, at_265, at_267, at_269, at_270, at_272, at_274, at_276, at_279, at_282, at_284, at_286, at_287, at_289, at_291, at_293, at_296, at_299, at_301, at_303, at_304, at_306, at_308, at_310, at_313, at_316, at_318, at_320, at_321, at_323, at_325, at_327, at_330, at_333, at_335, at_337, at_338, at_340, at_342, at_344, at_347, at_350, at_351, at_354, at_355]
set_option maxRecDepth 65536 in
set_option maxHeartbeats 4000000 in
theorem wj_13 (v oz fl off f n : Int32) (a : Addr) (en : Int32) : wpo code ci0 cj0 [] 90 347 [.val (.int v), .val (.int oz), .val (.int fl), .val (.int off), .val (.int f), .val (.ref a), .val (.int en), .val (.long (own_u v)), .second, .val (.int n)] [.int 1] (fun b M u => decode code b = .ok (.ireturn, 1) ∧ u = [.int 1]) := by
  simp only [r_wp0, r_wpS, r_nxt, r_stop0, r_stopS, r_go, r_goIf, r_fork, r_tgt, r_okO, r_gI, r_gJ, r_gA, r_pI, r_pJ, r_pA, r_p1r, r_p1i, r_pII, r_pJJ, r_pJI, r_fnd0, r_fndS, r_gC, r_gC0, r_gB, r_st1, r_st2, r_eq, r_ne, r_lt, r_ge, r_gt, r_le, r_eqL, r_neL, r_ltL, r_geL, r_gtL, r_leL, r_f0, r_f1, r_f2, r_f3, r_im1, r_i0, r_i1, r_i2, r_i3, r_i4, r_i5, r_i7, r_l0, r_l1, lget_z, lget_s, lput_z, lput_s, one_unset, one_int, one_ref, two_unset, two_long, cond_true, cond_false, true_and, and_true, not_true_eq_false, not_false_eq_true, true_implies, false_implies, implies_true, ne_eq, Classical.not_not, Int.cast_ofNat_Int, ite_true, seval, and_self, n_aload, n_astore, n_bastore, n_bipush, n_goto, n_i2b, n_i2l, n_iadd, n_iand, n_iconst, n_ifCond, n_if_icmp, n_iload, n_iload_n, n_invokestatic, n_ireturn, n_istore, n_istore_n, n_land, n_ldc2_w, n_lload, n_lstore, n_newarray, b_7, b_13, b_6, b_8, b_9, b_10, b_11, b_12, ci0, cj0, at_0, at_1, at_3, at_4, at_5, at_6, at_7, at_9, at_11, at_13, at_15, at_17, at_18, at_20, at_21, at_23, at_24, at_26, at_27, at_29, at_30, at_32, at_33, at_35, at_36, at_38, at_39, at_41, at_42, at_44, at_45, at_47, at_48, at_50, at_51, at_53, at_55, at_57, at_58, at_60, at_62, at_64, at_65, at_67, at_69, at_71, at_72, at_74, at_76, at_78, at_79, at_81, at_83, at_85, at_86, at_88, at_90, at_92, at_93, at_95, at_97, at_99, at_100, at_102, at_103, at_104, at_107, at_109, at_110, at_111, at_114, at_115, at_117, at_119, at_122, at_124, at_126, at_127, at_129, at_130, at_133, at_134, at_135, at_137, at_138, at_139, at_141, at_143, at_145, at_148, at_151, at_153, at_154, at_155, at_157, at_159, at_161, at_164, at_167, at_169, at_170, at_171, at_173, at_175, at_177, at_180, at_183, at_185, at_186, at_187, at_189, at_191, at_193, at_196, at_199, at_201, at_202, at_203, at_205, at_207, at_209, at_212, at_215, at_217, at_218, at_219, at_221, at_223, at_225, at_228, at_231, at_233, at_235, at_236, at_238, at_240, at_242, at_245, at_248, at_250, at_252, at_253, at_255, at_257, at_259, at_262, at_265, at_267, at_269, at_270, at_272, at_274, at_276, at_279, at_282, at_284, at_286, at_287, at_289, at_291, at_293, at_296, at_299, at_301, at_303, at_304, at_306, at_308, at_310, at_313, at_316, at_318, at_320, at_321, at_323, at_325, at_327, at_330, at_333, at_335, at_337, at_338, at_340, at_342, at_344, at_347, at_350, at_351, at_354, at_355, List.cons.injEq, Slot.val.injEq, Value.int.injEq, Value.long.injEq]
/-! the contracts -/
set_option maxRecDepth 65536 in
set_option maxHeartbeats 40000000 in
theorem own_loop {p : Program} {l : Launch} {e : Env} {s : State} {m : MethodId} {args : Array Value} {below : List Frame} {meth : Method} {c : Code} {Z : State} {n0 : Nat} (hx : p.tables.exec = Jvm.exec) (hZ : Z.Warmed39 s.vm) (hby : c.code = prog_41_method_16_code) (hown : s.vm.findClass "com/example/riffle/riffle/RowFormat" = some m.cls) (hI : ∀ q ∈ ci1, (Jvm.Cond.constant "com/example/riffle/riffle/RowFormat" q.1 q.2).before args s = true) (hJ : ∀ q ∈ cj1, (Jvm.Cond.constantLong "com/example/riffle/riffle/RowFormat" q.1 q.2).before args s = true) (a : Addr) (ga : n0 ≤ a) (o v0 : Int32) :
    ∀ (n : Nat) (T : State) (locs : List Loc) (G : Nat → Int32) (i : Nat) (q v : Int32), Stand p l e room0 s m args below meth c T locs 0 0 → Fr n0 locs → AI Z T.heap a .byte 13 G → Fits n v → i + n < 13 → q.toInt = i →
      ∃ (T' : State) (locs' : List Loc) (q' v' : Int32), Stand p l e room0 s m args below meth c T' locs' 0 0 ∧ Fr n0 locs' ∧ AI Z T'.heap a .byte 13 (own_wr n G i v) ∧ q'.toInt = (i + n : Nat) ∧ ∀ t, Steps p.tables e below (T'.setTop (mkF m 48 #[.val (.ref a), .val (.int o), .val (.int v0), .val (.int (q' + 1)), .val (.int v')] [])) t → Steps p.tables e below (T.setTop (mkF m 5 #[.val (.ref a), .val (.int o), .val (.int v0), .val (.int q), .val (.int v)] [])) t
  | 0, T, locs, G, i, q, v, X, N, A, hf, hi, hq => by
    obtain ⟨T1, l1, X1, N1, A1, -, t1⟩ := putB (rest := []) (Ls := #[.val (.ref a), .val (.int o), .val (.int v0), .val (.int (q + 1)), .val (.int v)]) X hx hZ A (idx32 hq).1 (idx32 hq).2 (by omega) N ga (own_by v) (hb hby d1_47)
    rw [own_byby] at A1
    refine ⟨T1, l1, q, v, X1, N1, A1, hq, fun t k => ?_⟩
    refine sego X hx hby hown hI hJ (ww_3 a o v0 q v hf) _ ?_
    exact t1 _ k
  | n + 1, T, locs, G, i, q, v, X, N, A, hf, hi, hq => by
    obtain ⟨T1, l1, X1, N1, A1, -, t1⟩ := putB (rest := []) (Ls := #[.val (.ref a), .val (.int o), .val (.int v0), .val (.int (q + 1)), .val (.int v)]) X hx hZ A (idx32 hq).1 (idx32 hq).2 (by omega) N ga (own_by ((v &&& 127) ||| 128)) (hb hby d1_28)
    rw [own_byby] at A1
    have tt : (1 : Int32).toInt = 1 := by decide
    obtain ⟨T2, l2, q2, v2, X2, N2, A2, hq2, t2⟩ := own_loop hx hZ hby hown hI hJ a ga o v0 n T1 l1 _ (i + 1) (q + 1) (oushr v 7) X1 N1 A1 hf.2 (by omega) (by rw [Jvm.Kit.i32_add (by rw [tt]; omega) (by rw [tt]; omega), hq, tt]; omega)
    refine ⟨T2, l2, q2, v2, X2, N2, A2, by rw [hq2]; omega, fun t k => ?_⟩
    refine sego X hx hby hown hI hJ (ww_1 a o v0 q v hf.1) _ ?_
    refine t1 _ ?_
    refine sego X1 hx hby hown hI hJ (ww_2 a o v0 q v) _ ?_
    exact t2 _ k
def QW (Z : State) (a : Addr) (G : Nat → Int32) (i n : Nat) (v : Int32) (n0 : Nat) (r : Option Value) (h : Heap) (L : List Loc) : Prop := (∃ en : Int32, r = some (.int en) ∧ en.toInt = (i + n + 1 : Nat)) ∧ Fr n0 L ∧ AI Z h a .byte 13 (own_wr n G i v)
set_option maxRecDepth 65536 in
set_option maxHeartbeats 40000000 in
theorem rm1 (l : Launch) (Z : State) (a0 : Array Value) (hw : ∀ d ∈ tables_1, d.before a0 Z = true) (ws : List Jvm.Cond) (a : Addr) (o v : Int32) (h0 : Heap) (n0 : Nat) (G : Nat → Int32) (A : AI Z h0 a .byte 13 G) (i n : Nat) (ga : n0 ≤ a) (hf : Fits n v) (hi : i + n < 13) (ho : o.toInt = i) :
    MetFree l (⟨"com/example/riffle/riffle/RowFormat", "writeVarint", "([BII)I"⟩ : MethodName) (head1 (Jvm.Cond.code (⟨"com/example/riffle/riffle/RowFormat", "writeVarint", "([BII)I"⟩ : MethodName) prog_41_method_16_code 5 (some .int) :: ws) room0) (fun a' U => a' = #[(.ref a), (.int o), (.int v)] ∧ Z.Warmed39 U.vm ∧ U.heap = h0) (fun _ _ _ _ _ => True) (fun _ U o U' => ∃ r L, o = .returned r ∧ QW Z a G i n v n0 r U'.heap L ∧ FrameEnd U o U' L room0.cells room0.slots) := by
  refine MetFree.of_bodySF (plainFor_of_name pn_1) hisR ?_
  intro p e s m args below meth c s₁ Bd hml0 hP hK
  obtain ⟨rfl, hZ, hh⟩ := hP
  have hx := Bd.exec
  have hby := Bd.bytes
  have hown : s.vm.findClass "com/example/riffle/riffle/RowFormat" = some m.cls := findClass_of_methodNamed Bd.named
  have X0 : Stand p l e room0 s m #[(.ref a), (.int o), (.int v)] below meth c s₁ [] 0 0 := Stand.of_body Bd
  have e0 : s₁.heap = h0 := by rw [← hh, Bd.state]; rfl
  rw [← e0] at A
  have hI := cI (args := #[(.ref a), (.int o), (.int v)]) (s := s) (own := "com/example/riffle/riffle/RowFormat") (ci := ci1) hZ hw (by decide +kernel)
  have hJ := cJ (args := #[(.ref a), (.int o), (.int v)]) (s := s) (own := "com/example/riffle/riffle/RowFormat") (cj := cj1) hZ hw (by decide +kernel)
  obtain ⟨T1, l1, q1, v1, X1, N1, A1, hq1, t1⟩ := own_loop hx hZ hby hown hI hJ a ga o v n s₁ [] G i o v X0 (Fr.nil n0) A hf hi ho
  have tt : (1 : Int32).toInt = 1 := by decide
  obtain ⟨fs, hr, hrun, hended, hW, hsame⟩ := X1.leave (v := some (.int (q1 + 1))) (fun h => by rw [Bd.returns] at h; cases h)
  refine ⟨_, _, castTop (ef_1 m a o v) ?_, hrun, hended, _, _, rfl, ⟨⟨q1 + 1, rfl, by rw [Jvm.Kit.i32_add (by rw [tt]; omega) (by rw [tt]; omega), hq1, tt]; omega⟩, N1, A1⟩, ⟨_, rfl⟩, hW, hsame.mono (by decide) (by decide)⟩
  refine sego X0 hx hby hown hI hJ (ww_0 a o v) _ ?_
  refine t1 _ ?_
  exact endI X1 hx hby hown hI hJ (ww_4 a o v q1 v1) Bd.returns hr
set_option maxRecDepth 65536 in
set_option maxHeartbeats 40000000 in
theorem rm3 (l : Launch) (Z : State) (a0 : Array Value) (hw : ∀ d ∈ tables_1, d.before a0 Z = true) (ws : List Jvm.Cond) (a : Addr) (j o n : Int32) (w : Int64) (f : Int32) (h0 : Heap) (G : Nat → Int32) (A : AI Z h0 a .byte 13 G) (i : Nat) (hi : i < 13) (hj : j.toInt = i) (hG : G i = own_want (j - o) n w f) :
    Pays l Z (⟨"com/example/riffle/riffle/RowFormatWriteVarintPinLaw", "at", "([BIIIJB)Z"⟩ : MethodName) method_4_code 10 (some .boolean) ws #[(.ref a), (.int j), (.int o), (.int n), (.long w), (.int f)] h0 (.int 1) := by
  refine MetFree.of_bodySF (plainFor_of_name pn_3) hisR ?_
  intro p e s m args below meth c s₁ Bd hml0 hP hK
  obtain ⟨rfl, hZ, hh⟩ := hP
  have hx := Bd.exec
  have hby := Bd.bytes
  have hown : s.vm.findClass "com/example/riffle/riffle/RowFormatWriteVarintPinLaw" = some m.cls := findClass_of_methodNamed Bd.named
  have X0 : Stand p l e room0 s m #[(.ref a), (.int j), (.int o), (.int n), (.long w), (.int f)] below meth c s₁ [] 0 0 := Stand.of_body Bd
  have e0 : s₁.heap = h0 := by rw [← hh, Bd.state]; rfl
  have A' : AI Z s₁.heap a .byte 13 G := by rw [e0]; exact A
  have hI := cI (args := #[(.ref a), (.int j), (.int o), (.int n), (.long w), (.int f)]) (s := s) (own := "com/example/riffle/riffle/RowFormatWriteVarintPinLaw") (ci := ci3) hZ hw (by decide +kernel)
  have hJ := cJ (args := #[(.ref a), (.int j), (.int o), (.int n), (.long w), (.int f)]) (s := s) (own := "com/example/riffle/riffle/RowFormatWriteVarintPinLaw") (cj := cj3) hZ hw (by decide +kernel)
  obtain ⟨fs, hr, hrun, hended, hW, hsame⟩ := X0.leave (v := some (.int (1 : Int32))) (fun h => by rw [Bd.returns] at h; cases h)
  refine ⟨_, _, castTop (ef_3 m a j o n w f) ?_, hrun, hended, _, _, rfl, ⟨rfl, rfl, e0⟩, ⟨_, rfl⟩, hW, hsame.mono (by decide) (by decide)⟩
  by_cases h : j - o < 0 ∨ ¬ j - o < n
  · refine sego X0 hx hby hown hI hJ (wt_0 a j o n w f h) _ ?_
    refine getB X0 hx hZ A' (idx32 hj).1 (idx32 hj).2 hi (hb hby d3_62) _ ?_
    rw [hG]
    exact endN X0 hx hby hown hI hJ (wt_2 a j o n w f _ _ _) Bd.returns (by simp) hr
  · refine sego X0 hx hby hown hI hJ (wt_1 a j o n w f (fun q => h (Or.inl q)) (Decidable.of_not_not fun q => h (Or.inr q))) _ ?_
    refine getB X0 hx hZ A' (idx32 hj).1 (idx32 hj).2 hi (hb hby d3_62) _ ?_
    rw [hG]
    exact endN X0 hx hby hown hI hJ (wt_2 a j o n w f _ _ _) Bd.returns (by simp) hr
set_option maxRecDepth 65536 in
set_option maxHeartbeats 40000000 in
theorem rm0 (l : Launch) (Z : State) (a0 : Array Value) (hw : ∀ d ∈ tables_1, d.before a0 Z = true) (ws : List Jvm.Cond) (v oz fl : Int32) (h0 : Heap) (n0 : Nat) (Z0 : n0 ≤ h0.size) :
    MetFree l x (head1 (Jvm.Cond.code x code maxLocals ret :: ws) room_1) (fun a U => a = #[(.int v), (.int oz), (.int fl)] ∧ Z.Warmed39 U.vm ∧ U.heap = h0) (fun _ _ _ _ _ => True) (fun _ U o U' => ∃ v L, o = .returned v ∧ (v = some (.int (1 : Int32)) ∧ Fr n0 L) ∧ FrameEnd U o U' L room_1.cells room_1.slots) := by
  refine MetFree.of_bodySF (plainFor_of_name pn_0) hisR ?_
  intro p e s m args below meth c s₁ Bd hml0 hP hK
  obtain ⟨rfl, hZ, hh⟩ := hP
  have hx := Bd.exec
  have hby := Bd.bytes
  have hml : c.maxLocals = 10 := hml0
  have hown : s.vm.findClass "com/example/riffle/riffle/RowFormatWriteVarintPinLaw" = some m.cls := findClass_of_methodNamed Bd.named
  have X0 : Stand p l e room_1 s m #[(.int v), (.int oz), (.int fl)] below meth c s₁ [] 0 0 := Stand.of_body Bd
  have e0 : s₁.heap = h0 := by rw [← hh, Bd.state]; rfl
  have Y0 : n0 ≤ s₁.heap.size := by rw [e0]; exact Z0
  have hI := cI (args := #[(.int v), (.int oz), (.int fl)]) (s := s) (own := "com/example/riffle/riffle/RowFormatWriteVarintPinLaw") (ci := ci0) hZ hw (by decide +kernel)
  have hJ := cJ (args := #[(.int v), (.int oz), (.int fl)]) (s := s) (own := "com/example/riffle/riffle/RowFormatWriteVarintPinLaw") (cj := cj0) hZ hw (by decide +kernel)
  have N0 := Fr.nil n0
  obtain ⟨F, bF, eF⟩ : ∃ F : Nat, F ≤ 7 ∧ (oz &&& 7).toInt = F := by
    have e : (oz &&& 7).toInt = oz.toInt % 2 ^ 3 := Jvm.Kit.i32_mask oz 7 (k := 3) (by decide) (by decide)
    exact ⟨(oz &&& 7).toInt.toNat, by omega, by omega⟩
  obtain ⟨n, bn, esz, hfit, hlast⟩ := own_sizes v
  obtain ⟨TA, b, XA, gb, -, -, AA, -, tA⟩ := mkArr (rest := []) (Ls := #[.val (.int v), .val (.int oz), .val (.int fl), .val (.int (oz &&& 7)), .val (.int (own_by fl)), .unset, .unset, .unset, .unset, .unset]) X0 hx hZ (hw _ (List.mem_of_getElem? (i := 0) rfl)) Y0 (hb hby at_11) (z := 13) (n := 13) (by decide) (by decide) (by decide) (by decide) (by decide)
  have A0 : AI Z TA.heap b .byte 13 (fun _ => 0) := AA
  obtain ⟨T1, l1, X1, N1, A1, -, t1⟩ := putB (rest := []) (Ls := #[.val (.int v), .val (.int oz), .val (.int fl), .val (.int (oz &&& 7)), .val (.int (own_by fl)), .val (.ref b), .unset, .unset, .unset, .unset]) XA hx hZ A0 (j := 0) (i := 0) (by decide) (by decide) (by decide) N0 gb (own_by fl) (hb hby at_20)
  obtain ⟨T2, l2, X2, N2, A2, -, t2⟩ := putB (rest := []) (Ls := #[.val (.int v), .val (.int oz), .val (.int fl), .val (.int (oz &&& 7)), .val (.int (own_by fl)), .val (.ref b), .unset, .unset, .unset, .unset]) X1 hx hZ A1 (j := 1) (i := 1) (by decide) (by decide) (by decide) N1 gb (own_by fl) (hb hby at_26)
  obtain ⟨T3, l3, X3, N3, A3, -, t3⟩ := putB (rest := []) (Ls := #[.val (.int v), .val (.int oz), .val (.int fl), .val (.int (oz &&& 7)), .val (.int (own_by fl)), .val (.ref b), .unset, .unset, .unset, .unset]) X2 hx hZ A2 (j := 2) (i := 2) (by decide) (by decide) (by decide) N2 gb (own_by fl) (hb hby at_32)
  obtain ⟨T4, l4, X4, N4, A4, -, t4⟩ := putB (rest := []) (Ls := #[.val (.int v), .val (.int oz), .val (.int fl), .val (.int (oz &&& 7)), .val (.int (own_by fl)), .val (.ref b), .unset, .unset, .unset, .unset]) X3 hx hZ A3 (j := 3) (i := 3) (by decide) (by decide) (by decide) N3 gb (own_by fl) (hb hby at_38)
  obtain ⟨T5, l5, X5, N5, A5, -, t5⟩ := putB (rest := []) (Ls := #[.val (.int v), .val (.int oz), .val (.int fl), .val (.int (oz &&& 7)), .val (.int (own_by fl)), .val (.ref b), .unset, .unset, .unset, .unset]) X4 hx hZ A4 (j := 4) (i := 4) (by decide) (by decide) (by decide) N4 gb (own_by fl) (hb hby at_44)
  obtain ⟨T6, l6, X6, N6, A6, -, t6⟩ := putB (rest := []) (Ls := #[.val (.int v), .val (.int oz), .val (.int fl), .val (.int (oz &&& 7)), .val (.int (own_by fl)), .val (.ref b), .unset, .unset, .unset, .unset]) X5 hx hZ A5 (j := 5) (i := 5) (by decide) (by decide) (by decide) N5 gb (own_by fl) (hb hby at_50)
  obtain ⟨T7, l7, X7, N7, A7, -, t7⟩ := putB (rest := []) (Ls := #[.val (.int v), .val (.int oz), .val (.int fl), .val (.int (oz &&& 7)), .val (.int (own_by fl)), .val (.ref b), .unset, .unset, .unset, .unset]) X6 hx hZ A6 (j := 6) (i := 6) (by decide) (by decide) (by decide) N6 gb (own_by fl) (hb hby at_57)
  obtain ⟨T8, l8, X8, N8, A8, -, t8⟩ := putB (rest := []) (Ls := #[.val (.int v), .val (.int oz), .val (.int fl), .val (.int (oz &&& 7)), .val (.int (own_by fl)), .val (.ref b), .unset, .unset, .unset, .unset]) X7 hx hZ A7 (j := 7) (i := 7) (by decide) (by decide) (by decide) N7 gb (own_by fl) (hb hby at_64)
  obtain ⟨T9, l9, X9, N9, A9, -, t9⟩ := putB (rest := []) (Ls := #[.val (.int v), .val (.int oz), .val (.int fl), .val (.int (oz &&& 7)), .val (.int (own_by fl)), .val (.ref b), .unset, .unset, .unset, .unset]) X8 hx hZ A8 (j := 8) (i := 8) (by decide) (by decide) (by decide) N8 gb (own_by fl) (hb hby at_71)
  obtain ⟨T10, l10, X10, N10, A10, -, t10⟩ := putB (rest := []) (Ls := #[.val (.int v), .val (.int oz), .val (.int fl), .val (.int (oz &&& 7)), .val (.int (own_by fl)), .val (.ref b), .unset, .unset, .unset, .unset]) X9 hx hZ A9 (j := 9) (i := 9) (by decide) (by decide) (by decide) N9 gb (own_by fl) (hb hby at_78)
  obtain ⟨T11, l11, X11, N11, A11, -, t11⟩ := putB (rest := []) (Ls := #[.val (.int v), .val (.int oz), .val (.int fl), .val (.int (oz &&& 7)), .val (.int (own_by fl)), .val (.ref b), .unset, .unset, .unset, .unset]) X10 hx hZ A10 (j := 10) (i := 10) (by decide) (by decide) (by decide) N10 gb (own_by fl) (hb hby at_85)
  obtain ⟨T12, l12, X12, N12, A12, -, t12⟩ := putB (rest := []) (Ls := #[.val (.int v), .val (.int oz), .val (.int fl), .val (.int (oz &&& 7)), .val (.int (own_by fl)), .val (.ref b), .unset, .unset, .unset, .unset]) X11 hx hZ A11 (j := 11) (i := 11) (by decide) (by decide) (by decide) N11 gb (own_by fl) (hb hby at_92)
  obtain ⟨T13, l13, X13, N13, A13, -, t13⟩ := putB (rest := []) (Ls := #[.val (.int v), .val (.int oz), .val (.int fl), .val (.int (oz &&& 7)), .val (.int (own_by fl)), .val (.ref b), .unset, .unset, .unset, .unset]) X12 hx hZ A12 (j := 12) (i := 12) (by decide) (by decide) (by decide) N12 gb (own_by fl) (hb hby at_99)
  rw [own_byby] at A13
  obtain ⟨G, hGe⟩ : ∃ G : Nat → Int32, G = (oupd (oupd (oupd (oupd (oupd (oupd (oupd (oupd (oupd (oupd (oupd (oupd (oupd (fun _ => 0) 0 (own_by fl)) 1 (own_by fl)) 2 (own_by fl)) 3 (own_by fl)) 4 (own_by fl)) 5 (own_by fl)) 6 (own_by fl)) 7 (own_by fl)) 8 (own_by fl)) 9 (own_by fl)) 10 (own_by fl)) 11 (own_by fl)) 12 (own_by fl)) := ⟨_, rfl⟩
  rw [← hGe] at A13
  have hG : ∀ k, k < 13 → G k = (own_by fl) := by
    intro k hk
    rw [hGe]
    rcases (by omega : k = 0 ∨ k = 1 ∨ k = 2 ∨ k = 3 ∨ k = 4 ∨ k = 5 ∨ k = 6 ∨ k = 7 ∨ k = 8 ∨ k = 9 ∨ k = 10 ∨ k = 11 ∨ k = 12) with rfl | rfl | rfl | rfl | rfl | rfl | rfl | rfl | rfl | rfl | rfl | rfl | rfl <;> rfl
  obtain ⟨_, _, ⟨TD, LD, kD, nD⟩, -, XD, ⟨LcD, hQD, lD, yD, zD⟩, stD⟩ := Jvm.LawKit.callS X13 hx (y := (⟨"com/example/riffle/riffle/RowFormat", "writeVarint", "([BII)I"⟩ : MethodName)) hown (mvT hZ (hw _ (List.mem_of_getElem? (i := 1) rfl))) (mvT hZ (hw _ (List.mem_of_getElem? (i := 2) rfl))) (mvT hZ (hw _ (List.mem_of_getElem? (i := 3) rfl))) (mvT hZ (hw _ (List.mem_of_getElem? (i := 4) rfl))) (by decide) (backOf (W := 0) (rm1 l Z a0 hw [] b (oz &&& 7) v T13.heap n0 G A13 F n gb hfit (by omega) eF) hZ (hw _ (List.mem_of_getElem? (i := 4) rfl)) (hw _ (List.mem_of_getElem? (i := 3) rfl)) (by decide) (by decide)) (g := mkF m 104 #[.val (.int v), .val (.int oz), .val (.int fl), .val (.int (oz &&& 7)), .val (.int (own_by fl)), .val (.ref b), .unset, .unset, .unset, .unset] [.int v, .int (oz &&& 7), .ref b]) rfl (by rw [hml]; rfl) (argsL := [.ref b, .int (oz &&& 7), .int v]) (rest := []) (lenOf pd_1 rfl) rfl (by show 2 * 0 + _ ≤ _; exact Nat.le_of_eq rfl) (hb hby at_104) (fun _ _ => ⟨rfl, rfl, (by decide : 1 + 0 ≤ _), (by decide : 13 + 0 ≤ _)⟩)
  dsimp only [Pt.U, Pt.locs, Pt.cells, Pt.slots] at XD lD yD zD stD hQD
  subst lD yD zD
  obtain ⟨⟨en, rfl, een⟩, ND, AD⟩ := hQD
  have NE := Fr.app N13 ND
  obtain ⟨TS, XS', eS, tS⟩ := callPure XD hx hZ hown (y := (⟨"com/example/riffle/riffle/RowFormatWriteVarintPinLaw", "size", "(J)I"⟩ : MethodName)) (hw _ (List.mem_of_getElem? (i := 6) rfl)) (hw _ (List.mem_of_getElem? (i := 7) rfl)) (hw _ (List.mem_of_getElem? (i := 8) rfl)) (hw _ (List.mem_of_getElem? (i := 9) rfl)) (by decide) rfl (argsL := [.long (own_u v)]) (rest := []) (pureI pn_2 hw (ci := ci2) (cj := cj2) (by decide +kernel) (by decide +kernel) (fun m => ef_2 m (own_u v)) rfl (wsz (own_u v))) (W := 0) (by decide) (by decide) (by decide) (by decide) (pc := 119) (Ls := #[.val (.int v), .val (.int oz), .val (.int fl), .val (.int (oz &&& 7)), .val (.int (own_by fl)), .val (.ref b), .val (.int en), .val (.long (own_u v)), .second, .unset]) (by rw [hml]; rfl) (lenOf pd_2 rfl) rfl (by decide) (hb hby at_119)
  rw [esz] at tS
  have hen : en = (oz &&& 7) + (Int32.ofNat (n + 1)) := by
    apply Int32.toInt_inj.mp
    have q : (Int32.ofNat (n + 1)).toInt = (n : Int) + 1 := by rw [Int32.toInt_ofNat_of_lt (by omega)]; omega
    rw [Jvm.Kit.i32_add (by rw [eF, q]; omega) (by rw [eF, q]; omega), eF, q, een]; omega
  obtain ⟨TJ0, XJ0, eJ0, tJ0⟩ := callPure XS' hx hZ hown (y := (⟨"com/example/riffle/riffle/RowFormatWriteVarintPinLaw", "at", "([BIIIJB)Z"⟩ : MethodName)) (hw _ (List.mem_of_getElem? (i := 11) rfl)) (hw _ (List.mem_of_getElem? (i := 12) rfl)) (hw _ (List.mem_of_getElem? (i := 8) rfl)) (hw _ (List.mem_of_getElem? (i := 13) rfl)) (by decide) eS (argsL := [.ref b, .int 0, .int (oz &&& 7), .int (Int32.ofNat (n + 1)), .long (own_u v), .int (own_by fl)]) (rest := []) (rm3 l Z a0 hw [] b 0 (oz &&& 7) (Int32.ofNat (n + 1)) (own_u v) (own_by fl) TD.heap _ AD 0 (by decide) (by decide) (own_law v (oz &&& 7) (own_by fl) 0 G F n 0 bn eF bF (by decide) (by decide) (hG 0 (by decide)) hlast)) (W := 0) (by decide) (by decide) (by decide) (by decide) (pc := 145) (Ls := #[.val (.int v), .val (.int oz), .val (.int fl), .val (.int (oz &&& 7)), .val (.int (own_by fl)), .val (.ref b), .val (.int en), .val (.long (own_u v)), .second, .val (.int (Int32.ofNat (n + 1)))]) (by rw [hml]; rfl) (lenOf pd_3 rfl) rfl (by decide) (hb hby at_145)
  obtain ⟨TJ1, XJ1, eJ1, tJ1⟩ := callPure XJ0 hx hZ hown (y := (⟨"com/example/riffle/riffle/RowFormatWriteVarintPinLaw", "at", "([BIIIJB)Z"⟩ : MethodName)) (hw _ (List.mem_of_getElem? (i := 11) rfl)) (hw _ (List.mem_of_getElem? (i := 12) rfl)) (hw _ (List.mem_of_getElem? (i := 8) rfl)) (hw _ (List.mem_of_getElem? (i := 13) rfl)) (by decide) eJ0 (argsL := [.ref b, .int 1, .int (oz &&& 7), .int (Int32.ofNat (n + 1)), .long (own_u v), .int (own_by fl)]) (rest := []) (rm3 l Z a0 hw [] b 1 (oz &&& 7) (Int32.ofNat (n + 1)) (own_u v) (own_by fl) TD.heap _ AD 1 (by decide) (by decide) (own_law v (oz &&& 7) (own_by fl) 1 G F n 1 bn eF bF (by decide) (by decide) (hG 1 (by decide)) hlast)) (W := 0) (by decide) (by decide) (by decide) (by decide) (pc := 161) (Ls := #[.val (.int v), .val (.int oz), .val (.int fl), .val (.int (oz &&& 7)), .val (.int (own_by fl)), .val (.ref b), .val (.int en), .val (.long (own_u v)), .second, .val (.int (Int32.ofNat (n + 1)))]) (by rw [hml]; rfl) (lenOf pd_3 rfl) rfl (by decide) (hb hby at_161)
  obtain ⟨TJ2, XJ2, eJ2, tJ2⟩ := callPure XJ1 hx hZ hown (y := (⟨"com/example/riffle/riffle/RowFormatWriteVarintPinLaw", "at", "([BIIIJB)Z"⟩ : MethodName)) (hw _ (List.mem_of_getElem? (i := 11) rfl)) (hw _ (List.mem_of_getElem? (i := 12) rfl)) (hw _ (List.mem_of_getElem? (i := 8) rfl)) (hw _ (List.mem_of_getElem? (i := 13) rfl)) (by decide) eJ1 (argsL := [.ref b, .int 2, .int (oz &&& 7), .int (Int32.ofNat (n + 1)), .long (own_u v), .int (own_by fl)]) (rest := []) (rm3 l Z a0 hw [] b 2 (oz &&& 7) (Int32.ofNat (n + 1)) (own_u v) (own_by fl) TD.heap _ AD 2 (by decide) (by decide) (own_law v (oz &&& 7) (own_by fl) 2 G F n 2 bn eF bF (by decide) (by decide) (hG 2 (by decide)) hlast)) (W := 0) (by decide) (by decide) (by decide) (by decide) (pc := 177) (Ls := #[.val (.int v), .val (.int oz), .val (.int fl), .val (.int (oz &&& 7)), .val (.int (own_by fl)), .val (.ref b), .val (.int en), .val (.long (own_u v)), .second, .val (.int (Int32.ofNat (n + 1)))]) (by rw [hml]; rfl) (lenOf pd_3 rfl) rfl (by decide) (hb hby at_177)
  obtain ⟨TJ3, XJ3, eJ3, tJ3⟩ := callPure XJ2 hx hZ hown (y := (⟨"com/example/riffle/riffle/RowFormatWriteVarintPinLaw", "at", "([BIIIJB)Z"⟩ : MethodName)) (hw _ (List.mem_of_getElem? (i := 11) rfl)) (hw _ (List.mem_of_getElem? (i := 12) rfl)) (hw _ (List.mem_of_getElem? (i := 8) rfl)) (hw _ (List.mem_of_getElem? (i := 13) rfl)) (by decide) eJ2 (argsL := [.ref b, .int 3, .int (oz &&& 7), .int (Int32.ofNat (n + 1)), .long (own_u v), .int (own_by fl)]) (rest := []) (rm3 l Z a0 hw [] b 3 (oz &&& 7) (Int32.ofNat (n + 1)) (own_u v) (own_by fl) TD.heap _ AD 3 (by decide) (by decide) (own_law v (oz &&& 7) (own_by fl) 3 G F n 3 bn eF bF (by decide) (by decide) (hG 3 (by decide)) hlast)) (W := 0) (by decide) (by decide) (by decide) (by decide) (pc := 193) (Ls := #[.val (.int v), .val (.int oz), .val (.int fl), .val (.int (oz &&& 7)), .val (.int (own_by fl)), .val (.ref b), .val (.int en), .val (.long (own_u v)), .second, .val (.int (Int32.ofNat (n + 1)))]) (by rw [hml]; rfl) (lenOf pd_3 rfl) rfl (by decide) (hb hby at_193)
  obtain ⟨TJ4, XJ4, eJ4, tJ4⟩ := callPure XJ3 hx hZ hown (y := (⟨"com/example/riffle/riffle/RowFormatWriteVarintPinLaw", "at", "([BIIIJB)Z"⟩ : MethodName)) (hw _ (List.mem_of_getElem? (i := 11) rfl)) (hw _ (List.mem_of_getElem? (i := 12) rfl)) (hw _ (List.mem_of_getElem? (i := 8) rfl)) (hw _ (List.mem_of_getElem? (i := 13) rfl)) (by decide) eJ3 (argsL := [.ref b, .int 4, .int (oz &&& 7), .int (Int32.ofNat (n + 1)), .long (own_u v), .int (own_by fl)]) (rest := []) (rm3 l Z a0 hw [] b 4 (oz &&& 7) (Int32.ofNat (n + 1)) (own_u v) (own_by fl) TD.heap _ AD 4 (by decide) (by decide) (own_law v (oz &&& 7) (own_by fl) 4 G F n 4 bn eF bF (by decide) (by decide) (hG 4 (by decide)) hlast)) (W := 0) (by decide) (by decide) (by decide) (by decide) (pc := 209) (Ls := #[.val (.int v), .val (.int oz), .val (.int fl), .val (.int (oz &&& 7)), .val (.int (own_by fl)), .val (.ref b), .val (.int en), .val (.long (own_u v)), .second, .val (.int (Int32.ofNat (n + 1)))]) (by rw [hml]; rfl) (lenOf pd_3 rfl) rfl (by decide) (hb hby at_209)
  obtain ⟨TJ5, XJ5, eJ5, tJ5⟩ := callPure XJ4 hx hZ hown (y := (⟨"com/example/riffle/riffle/RowFormatWriteVarintPinLaw", "at", "([BIIIJB)Z"⟩ : MethodName)) (hw _ (List.mem_of_getElem? (i := 11) rfl)) (hw _ (List.mem_of_getElem? (i := 12) rfl)) (hw _ (List.mem_of_getElem? (i := 8) rfl)) (hw _ (List.mem_of_getElem? (i := 13) rfl)) (by decide) eJ4 (argsL := [.ref b, .int 5, .int (oz &&& 7), .int (Int32.ofNat (n + 1)), .long (own_u v), .int (own_by fl)]) (rest := []) (rm3 l Z a0 hw [] b 5 (oz &&& 7) (Int32.ofNat (n + 1)) (own_u v) (own_by fl) TD.heap _ AD 5 (by decide) (by decide) (own_law v (oz &&& 7) (own_by fl) 5 G F n 5 bn eF bF (by decide) (by decide) (hG 5 (by decide)) hlast)) (W := 0) (by decide) (by decide) (by decide) (by decide) (pc := 225) (Ls := #[.val (.int v), .val (.int oz), .val (.int fl), .val (.int (oz &&& 7)), .val (.int (own_by fl)), .val (.ref b), .val (.int en), .val (.long (own_u v)), .second, .val (.int (Int32.ofNat (n + 1)))]) (by rw [hml]; rfl) (lenOf pd_3 rfl) rfl (by decide) (hb hby at_225)
  obtain ⟨TJ6, XJ6, eJ6, tJ6⟩ := callPure XJ5 hx hZ hown (y := (⟨"com/example/riffle/riffle/RowFormatWriteVarintPinLaw", "at", "([BIIIJB)Z"⟩ : MethodName)) (hw _ (List.mem_of_getElem? (i := 11) rfl)) (hw _ (List.mem_of_getElem? (i := 12) rfl)) (hw _ (List.mem_of_getElem? (i := 8) rfl)) (hw _ (List.mem_of_getElem? (i := 13) rfl)) (by decide) eJ5 (argsL := [.ref b, .int 6, .int (oz &&& 7), .int (Int32.ofNat (n + 1)), .long (own_u v), .int (own_by fl)]) (rest := []) (rm3 l Z a0 hw [] b 6 (oz &&& 7) (Int32.ofNat (n + 1)) (own_u v) (own_by fl) TD.heap _ AD 6 (by decide) (by decide) (own_law v (oz &&& 7) (own_by fl) 6 G F n 6 bn eF bF (by decide) (by decide) (hG 6 (by decide)) hlast)) (W := 0) (by decide) (by decide) (by decide) (by decide) (pc := 242) (Ls := #[.val (.int v), .val (.int oz), .val (.int fl), .val (.int (oz &&& 7)), .val (.int (own_by fl)), .val (.ref b), .val (.int en), .val (.long (own_u v)), .second, .val (.int (Int32.ofNat (n + 1)))]) (by rw [hml]; rfl) (lenOf pd_3 rfl) rfl (by decide) (hb hby at_242)
  obtain ⟨TJ7, XJ7, eJ7, tJ7⟩ := callPure XJ6 hx hZ hown (y := (⟨"com/example/riffle/riffle/RowFormatWriteVarintPinLaw", "at", "([BIIIJB)Z"⟩ : MethodName)) (hw _ (List.mem_of_getElem? (i := 11) rfl)) (hw _ (List.mem_of_getElem? (i := 12) rfl)) (hw _ (List.mem_of_getElem? (i := 8) rfl)) (hw _ (List.mem_of_getElem? (i := 13) rfl)) (by decide) eJ6 (argsL := [.ref b, .int 7, .int (oz &&& 7), .int (Int32.ofNat (n + 1)), .long (own_u v), .int (own_by fl)]) (rest := []) (rm3 l Z a0 hw [] b 7 (oz &&& 7) (Int32.ofNat (n + 1)) (own_u v) (own_by fl) TD.heap _ AD 7 (by decide) (by decide) (own_law v (oz &&& 7) (own_by fl) 7 G F n 7 bn eF bF (by decide) (by decide) (hG 7 (by decide)) hlast)) (W := 0) (by decide) (by decide) (by decide) (by decide) (pc := 259) (Ls := #[.val (.int v), .val (.int oz), .val (.int fl), .val (.int (oz &&& 7)), .val (.int (own_by fl)), .val (.ref b), .val (.int en), .val (.long (own_u v)), .second, .val (.int (Int32.ofNat (n + 1)))]) (by rw [hml]; rfl) (lenOf pd_3 rfl) rfl (by decide) (hb hby at_259)
  obtain ⟨TJ8, XJ8, eJ8, tJ8⟩ := callPure XJ7 hx hZ hown (y := (⟨"com/example/riffle/riffle/RowFormatWriteVarintPinLaw", "at", "([BIIIJB)Z"⟩ : MethodName)) (hw _ (List.mem_of_getElem? (i := 11) rfl)) (hw _ (List.mem_of_getElem? (i := 12) rfl)) (hw _ (List.mem_of_getElem? (i := 8) rfl)) (hw _ (List.mem_of_getElem? (i := 13) rfl)) (by decide) eJ7 (argsL := [.ref b, .int 8, .int (oz &&& 7), .int (Int32.ofNat (n + 1)), .long (own_u v), .int (own_by fl)]) (rest := []) (rm3 l Z a0 hw [] b 8 (oz &&& 7) (Int32.ofNat (n + 1)) (own_u v) (own_by fl) TD.heap _ AD 8 (by decide) (by decide) (own_law v (oz &&& 7) (own_by fl) 8 G F n 8 bn eF bF (by decide) (by decide) (hG 8 (by decide)) hlast)) (W := 0) (by decide) (by decide) (by decide) (by decide) (pc := 276) (Ls := #[.val (.int v), .val (.int oz), .val (.int fl), .val (.int (oz &&& 7)), .val (.int (own_by fl)), .val (.ref b), .val (.int en), .val (.long (own_u v)), .second, .val (.int (Int32.ofNat (n + 1)))]) (by rw [hml]; rfl) (lenOf pd_3 rfl) rfl (by decide) (hb hby at_276)
  obtain ⟨TJ9, XJ9, eJ9, tJ9⟩ := callPure XJ8 hx hZ hown (y := (⟨"com/example/riffle/riffle/RowFormatWriteVarintPinLaw", "at", "([BIIIJB)Z"⟩ : MethodName)) (hw _ (List.mem_of_getElem? (i := 11) rfl)) (hw _ (List.mem_of_getElem? (i := 12) rfl)) (hw _ (List.mem_of_getElem? (i := 8) rfl)) (hw _ (List.mem_of_getElem? (i := 13) rfl)) (by decide) eJ8 (argsL := [.ref b, .int 9, .int (oz &&& 7), .int (Int32.ofNat (n + 1)), .long (own_u v), .int (own_by fl)]) (rest := []) (rm3 l Z a0 hw [] b 9 (oz &&& 7) (Int32.ofNat (n + 1)) (own_u v) (own_by fl) TD.heap _ AD 9 (by decide) (by decide) (own_law v (oz &&& 7) (own_by fl) 9 G F n 9 bn eF bF (by decide) (by decide) (hG 9 (by decide)) hlast)) (W := 0) (by decide) (by decide) (by decide) (by decide) (pc := 293) (Ls := #[.val (.int v), .val (.int oz), .val (.int fl), .val (.int (oz &&& 7)), .val (.int (own_by fl)), .val (.ref b), .val (.int en), .val (.long (own_u v)), .second, .val (.int (Int32.ofNat (n + 1)))]) (by rw [hml]; rfl) (lenOf pd_3 rfl) rfl (by decide) (hb hby at_293)
  obtain ⟨TJ10, XJ10, eJ10, tJ10⟩ := callPure XJ9 hx hZ hown (y := (⟨"com/example/riffle/riffle/RowFormatWriteVarintPinLaw", "at", "([BIIIJB)Z"⟩ : MethodName)) (hw _ (List.mem_of_getElem? (i := 11) rfl)) (hw _ (List.mem_of_getElem? (i := 12) rfl)) (hw _ (List.mem_of_getElem? (i := 8) rfl)) (hw _ (List.mem_of_getElem? (i := 13) rfl)) (by decide) eJ9 (argsL := [.ref b, .int 10, .int (oz &&& 7), .int (Int32.ofNat (n + 1)), .long (own_u v), .int (own_by fl)]) (rest := []) (rm3 l Z a0 hw [] b 10 (oz &&& 7) (Int32.ofNat (n + 1)) (own_u v) (own_by fl) TD.heap _ AD 10 (by decide) (by decide) (own_law v (oz &&& 7) (own_by fl) 10 G F n 10 bn eF bF (by decide) (by decide) (hG 10 (by decide)) hlast)) (W := 0) (by decide) (by decide) (by decide) (by decide) (pc := 310) (Ls := #[.val (.int v), .val (.int oz), .val (.int fl), .val (.int (oz &&& 7)), .val (.int (own_by fl)), .val (.ref b), .val (.int en), .val (.long (own_u v)), .second, .val (.int (Int32.ofNat (n + 1)))]) (by rw [hml]; rfl) (lenOf pd_3 rfl) rfl (by decide) (hb hby at_310)
  obtain ⟨TJ11, XJ11, eJ11, tJ11⟩ := callPure XJ10 hx hZ hown (y := (⟨"com/example/riffle/riffle/RowFormatWriteVarintPinLaw", "at", "([BIIIJB)Z"⟩ : MethodName)) (hw _ (List.mem_of_getElem? (i := 11) rfl)) (hw _ (List.mem_of_getElem? (i := 12) rfl)) (hw _ (List.mem_of_getElem? (i := 8) rfl)) (hw _ (List.mem_of_getElem? (i := 13) rfl)) (by decide) eJ10 (argsL := [.ref b, .int 11, .int (oz &&& 7), .int (Int32.ofNat (n + 1)), .long (own_u v), .int (own_by fl)]) (rest := []) (rm3 l Z a0 hw [] b 11 (oz &&& 7) (Int32.ofNat (n + 1)) (own_u v) (own_by fl) TD.heap _ AD 11 (by decide) (by decide) (own_law v (oz &&& 7) (own_by fl) 11 G F n 11 bn eF bF (by decide) (by decide) (hG 11 (by decide)) hlast)) (W := 0) (by decide) (by decide) (by decide) (by decide) (pc := 327) (Ls := #[.val (.int v), .val (.int oz), .val (.int fl), .val (.int (oz &&& 7)), .val (.int (own_by fl)), .val (.ref b), .val (.int en), .val (.long (own_u v)), .second, .val (.int (Int32.ofNat (n + 1)))]) (by rw [hml]; rfl) (lenOf pd_3 rfl) rfl (by decide) (hb hby at_327)
  obtain ⟨TJ12, XJ12, eJ12, tJ12⟩ := callPure XJ11 hx hZ hown (y := (⟨"com/example/riffle/riffle/RowFormatWriteVarintPinLaw", "at", "([BIIIJB)Z"⟩ : MethodName)) (hw _ (List.mem_of_getElem? (i := 11) rfl)) (hw _ (List.mem_of_getElem? (i := 12) rfl)) (hw _ (List.mem_of_getElem? (i := 8) rfl)) (hw _ (List.mem_of_getElem? (i := 13) rfl)) (by decide) eJ11 (argsL := [.ref b, .int 12, .int (oz &&& 7), .int (Int32.ofNat (n + 1)), .long (own_u v), .int (own_by fl)]) (rest := []) (rm3 l Z a0 hw [] b 12 (oz &&& 7) (Int32.ofNat (n + 1)) (own_u v) (own_by fl) TD.heap _ AD 12 (by decide) (by decide) (own_law v (oz &&& 7) (own_by fl) 12 G F n 12 bn eF bF (by decide) (by decide) (hG 12 (by decide)) hlast)) (W := 0) (by decide) (by decide) (by decide) (by decide) (pc := 344) (Ls := #[.val (.int v), .val (.int oz), .val (.int fl), .val (.int (oz &&& 7)), .val (.int (own_by fl)), .val (.ref b), .val (.int en), .val (.long (own_u v)), .second, .val (.int (Int32.ofNat (n + 1)))]) (by rw [hml]; rfl) (lenOf pd_3 rfl) rfl (by decide) (hb hby at_344)
  obtain ⟨fs, hr, hrun, hended, hW, hsame⟩ := XJ12.leave (v := some (.int (1 : Int32))) (fun h => by rw [Bd.returns] at h; cases h)
  refine ⟨_, _, castTop (ef_0 m v oz fl) ?_, hrun, hended, _, _, rfl, ⟨rfl, NE⟩, ⟨_, rfl⟩, hW, hsame.mono (by decide) (by decide)⟩
  refine sego X0 hx hby hown hI hJ (wl_0 v oz fl (oz &&& 7) (own_by fl) 0 b 0) _ ?_
  refine tA _ ?_
  refine sego XA hx hby hown hI hJ (wl_1 v oz fl (oz &&& 7) (own_by fl) 0 b 0) _ ?_
  refine sego XA hx hby hown hI hJ (wl_2 v oz fl (oz &&& 7) (own_by fl) 0 b 0) _ ?_
  refine t1 _ ?_
  refine sego X1 hx hby hown hI hJ (wl_3 v oz fl (oz &&& 7) (own_by fl) 0 b 0) _ ?_
  refine t2 _ ?_
  refine sego X2 hx hby hown hI hJ (wl_4 v oz fl (oz &&& 7) (own_by fl) 0 b 0) _ ?_
  refine t3 _ ?_
  refine sego X3 hx hby hown hI hJ (wl_5 v oz fl (oz &&& 7) (own_by fl) 0 b 0) _ ?_
  refine t4 _ ?_
  refine sego X4 hx hby hown hI hJ (wl_6 v oz fl (oz &&& 7) (own_by fl) 0 b 0) _ ?_
  refine t5 _ ?_
  refine sego X5 hx hby hown hI hJ (wl_7 v oz fl (oz &&& 7) (own_by fl) 0 b 0) _ ?_
  refine t6 _ ?_
  refine sego X6 hx hby hown hI hJ (wl_8 v oz fl (oz &&& 7) (own_by fl) 0 b 0) _ ?_
  refine t7 _ ?_
  refine sego X7 hx hby hown hI hJ (wl_9 v oz fl (oz &&& 7) (own_by fl) 0 b 0) _ ?_
  refine t8 _ ?_
  refine sego X8 hx hby hown hI hJ (wl_10 v oz fl (oz &&& 7) (own_by fl) 0 b 0) _ ?_
  refine t9 _ ?_
  refine sego X9 hx hby hown hI hJ (wl_11 v oz fl (oz &&& 7) (own_by fl) 0 b 0) _ ?_
  refine t10 _ ?_
  refine sego X10 hx hby hown hI hJ (wl_12 v oz fl (oz &&& 7) (own_by fl) 0 b 0) _ ?_
  refine t11 _ ?_
  refine sego X11 hx hby hown hI hJ (wl_13 v oz fl (oz &&& 7) (own_by fl) 0 b 0) _ ?_
  refine t12 _ ?_
  refine sego X12 hx hby hown hI hJ (wl_14 v oz fl (oz &&& 7) (own_by fl) 0 b 0) _ ?_
  refine t13 _ ?_
  refine sego X13 hx hby hown hI hJ (wl_15 v oz fl (oz &&& 7) (own_by fl) 0 b 0) _ ?_
  refine stD _ ?_
  refine sego XD hx hby hown hI hJ (wl_16 v oz fl (oz &&& 7) (own_by fl) 0 b en) _ ?_
  refine tS _ ?_
  refine sego XS' hx hby hown hI hJ (wl_17 v oz fl (oz &&& 7) (own_by fl) (Int32.ofNat (n + 1)) b en hen) _ ?_
  refine tJ0 _ ?_
  refine sego XJ0 hx hby hown hI hJ (wj_1 v oz fl (oz &&& 7) (own_by fl) (Int32.ofNat (n + 1)) b en) _ ?_
  refine tJ1 _ ?_
  refine sego XJ1 hx hby hown hI hJ (wj_2 v oz fl (oz &&& 7) (own_by fl) (Int32.ofNat (n + 1)) b en) _ ?_
  refine tJ2 _ ?_
  refine sego XJ2 hx hby hown hI hJ (wj_3 v oz fl (oz &&& 7) (own_by fl) (Int32.ofNat (n + 1)) b en) _ ?_
  refine tJ3 _ ?_
  refine sego XJ3 hx hby hown hI hJ (wj_4 v oz fl (oz &&& 7) (own_by fl) (Int32.ofNat (n + 1)) b en) _ ?_
  refine tJ4 _ ?_
  refine sego XJ4 hx hby hown hI hJ (wj_5 v oz fl (oz &&& 7) (own_by fl) (Int32.ofNat (n + 1)) b en) _ ?_
  refine tJ5 _ ?_
  refine sego XJ5 hx hby hown hI hJ (wj_6 v oz fl (oz &&& 7) (own_by fl) (Int32.ofNat (n + 1)) b en) _ ?_
  refine tJ6 _ ?_
  refine sego XJ6 hx hby hown hI hJ (wj_7 v oz fl (oz &&& 7) (own_by fl) (Int32.ofNat (n + 1)) b en) _ ?_
  refine tJ7 _ ?_
  refine sego XJ7 hx hby hown hI hJ (wj_8 v oz fl (oz &&& 7) (own_by fl) (Int32.ofNat (n + 1)) b en) _ ?_
  refine tJ8 _ ?_
  refine sego XJ8 hx hby hown hI hJ (wj_9 v oz fl (oz &&& 7) (own_by fl) (Int32.ofNat (n + 1)) b en) _ ?_
  refine tJ9 _ ?_
  refine sego XJ9 hx hby hown hI hJ (wj_10 v oz fl (oz &&& 7) (own_by fl) (Int32.ofNat (n + 1)) b en) _ ?_
  refine tJ10 _ ?_
  refine sego XJ10 hx hby hown hI hJ (wj_11 v oz fl (oz &&& 7) (own_by fl) (Int32.ofNat (n + 1)) b en) _ ?_
  refine tJ11 _ ?_
  refine sego XJ11 hx hby hown hI hJ (wj_12 v oz fl (oz &&& 7) (own_by fl) (Int32.ofNat (n + 1)) b en) _ ?_
  refine tJ12 _ ?_
  exact endN XJ12 hx hby hown hI hJ (wj_13 v oz fl (oz &&& 7) (own_by fl) (Int32.ofNat (n + 1)) b en) Bd.returns (by simp) hr
set_option maxRecDepth 65536 in
set_option maxHeartbeats 40000000 in
theorem comes_1 {Post : Tables → Env → Array Value → State → Outcome → State → Prop} (hpost : ∀ tb e args s v u, (limb_1_1.after args s (.returned v) u = true ∧ limb_1_2.after args s (.returned v) u = true ∧ True) → FrameEnd s (.returned v) u (Jvm.fieldLocs frame_1_writes args s ++ Jvm.arrayLocs frame_1_arrays args s ++ Jvm.staticLocs frame_1_statics s) 16 128 → Post tb e args s (.returned v) u) :
    ArmFor flags0 classFile x code maxLocals ret World_1 tables_1 room_1 Calls_1 rest_1 Pre_1 Post := by
  intro l hfl _ _ p e ha hc hk s m args below hf hA hF happ hP
  obtain ⟨hcalls, hrest, hpre⟩ := hP
  obtain ⟨-, -, -, hnamed, -, -, -, hat⟩ := (Spec.applies_iff hf).mp happ
  obtain ⟨hg, hn⟩ := and_e (Cond.before_iff.mp (show (Jvm.Cond.and given_1 narrow_1).before args s = true from hpre))
  obtain ⟨c0, g0⟩ := and_e hg
  obtain ⟨k0, g1⟩ := and_e g0
  obtain ⟨k1, g2⟩ := and_e g1
  obtain ⟨w0, w1, w2, rfl⟩ : ∃ w0 w1 w2 : Value, args = #[w0, w1, w2] := by
    have hs : args.size = 3 := by simpa [Cond.value, given_1] using c0
    obtain ⟨L⟩ := args
    match L, hs with
    | [w0, w1, w2], _ => exact ⟨w0, w1, w2, rfl⟩
  have hw := fun d (hd : d ∈ tables_1) => atoms_spec (ws := Jvm.Cond.code x code maxLocals ret :: tables_1) hat d (List.mem_cons_of_mem _ hd)
  obtain ⟨i0, ei0⟩ := is_v k0
  obtain rfl : w0 = (.int i0) := Option.some.inj ei0
  obtain ⟨i1, ei1⟩ := is_v k1
  obtain rfl : w1 = (.int i1) := Option.some.inj ei1
  obtain ⟨i2, ei2⟩ := is_v g2
  obtain rfl : w2 = (.int i2) := Option.some.inj ei2
  obtain ⟨n, o, h1, h2, h3, _, L, rfl, ⟨rfl, N⟩, hq⟩ := rm0 l s _ hw tables_1 i0 i1 i2 s.heap s.heap.size (Nat.le_refl _) p e ha hc hk s m _ below hf ((Spec.applies_iff_loose hf).mp happ).1 ⟨rfl, State.Warmed39.refl s, rfl⟩ trivial
  refine ⟨n, _, h1, h2, h3, hpost _ _ _ _ _ _ ⟨Cond.after_iff.mpr rfl, Cond.after_iff.mpr (eq_i res_at (Term.int_eval (1)) rfl), trivial⟩ ⟨hq.1, hq.2.1, (hq.2.2.sift fun y hy => Or.inr (N y hy)).mono (by decide) (by decide)⟩⟩
theorem main_1_1 : Claimed_1_1 := comes_1 fun _ _ _ _ _ _ h hF => ⟨h.1, hF⟩
theorem main_1_2 : Claimed_1_2 := comes_1 fun _ _ _ _ _ _ h hF => ⟨h.2.1, hF⟩

end Jvm.Pilot.@@N@@
namespace Jvm.Pilot.@@N@@
open Jvm Jvm.ClassFile Sem Op Lib Jvm.Free Jvm.Stand Jvm.Pilot.@@N@@.Jvm.D
/-! MADE BY PROGRAM (witnessworld.py) out of the Statement's table words and the real class files: 9 classes; the members and pool entries that the words name. The judged class is class 1, her method 1. -/
namespace start1
open Jvm.ClassFile
def u (s : String) : CpInfo := .utf8 (stringToUtf16 s)
/-- a pool by its gaps: so many unusable entries, then the entry; so many at the end -/
def gap : Nat → List CpInfo → List CpInfo
  | 0, r => r
  | n + 1, r => .unusable :: gap n r
def poolList (es : List (Nat × CpInfo)) (last : Nat) : List CpInfo := es.foldr (fun e r => gap e.1 (e.2 :: r)) (gap last [])
def pool (es : List (Nat × CpInfo)) (last : Nat) : Array CpInfo := ⟨poolList es last⟩
def fileOf (pool : Array CpInfo) (this : Nat) (attrs : Array Attribute := #[]) (ms : Array MethodInfo := #[]) (fl : Nat := 33) (sup : Nat := 0) (ifs : Array Nat := #[]) (fds : Array FieldInfo := #[]) : ClassFile where
  minorVersion := 0
  majorVersion := 65
  constantPool := pool
  accessFlags := fl
  thisClass := this
  superClass := sup
  interfaces := ifs
  fields := fds
  methods := ms
  attributes := attrs
def plain (name : String) (sup : Option ClassId) : Class where
  name := name
  kind := .ordinary
  loader := none
  accessFlags := 33
  super := sup
  interfaces := #[]
  cf := none
  fields := #[]
  methods := #[]
  instanceTypes := #[]
  staticTypes := #[]
  resolved := #[]
  callSites := []
  init := .initialized
  statics := none
  mirror := none

def pool0 : Array CpInfo := pool [(5, u "<init>"), (0, u "()V"), (1, .class_ 10), (1, u "java/lang/Object")] 113

def k0m0 : Method := { name := "<init>", desc := "()V", sig := { parameters := [], returnType := none }, accessFlags := 1, code := none }
/-- java/lang/Object -/
def k0 : Class := { plain "java/lang/Object" none with
  accessFlags := 33
  interfaces := #[]
  cf := some (fileOf pool0 8 #[] #[{ accessFlags := 1, nameIndex := 5, descriptorIndex := 6, attributes := #[] }] 33 0 #[] #[])
  fields := #[]
  methods := #[k0m0]
  instanceTypes := #[]
  staticTypes := #[]
  resolved := Array.replicate 124 none
  statics := none }

def pool1 : Array CpInfo := pool [(2, .class_ 4), (1, u "java/lang/Object"), (0, u "<init>"), (0, u "()V"), (0, .methodref 8 9), (0, .class_ 10), (0, .nameAndType 11 12), (0, u "com/example/riffle/riffle/RowFormat"), (0, u "writeVarint"), (0, u "([BII)I"), (0, .long 4294967295), (1, .methodref 16 17), (0, .class_ 18), (0, .nameAndType 19 20), (0, u "com/example/riffle/riffle/RowFormatWriteVarintPinLaw"), (0, u "size"), (0, u "(J)I"), (0, .methodref 16 22), (0, .nameAndType 23 24), (0, u "at"), (0, u "([BIIIJB)Z"), (0, .long 128), (1, .long 16384), (1, .long 2097152), (1, .long 268435456), (1, .long 127), (3, u "law"), (0, u "(III)Z")] 5

def k1m0 : Method := { name := "<init>", desc := "()V", sig := { parameters := [], returnType := none }, accessFlags := 2, code := none }
def k1c1 : Code := { maxStack := 7, maxLocals := 10, code := code, exceptionTable := #[], attributes := #[] }
def k1m1 : Method := { name := "law", desc := "(III)Z", sig := { parameters := [.int, .int, .int], returnType := some .boolean }, accessFlags := 9, code := some k1c1 }
def k1c2 : Code := { maxStack := 4, maxLocals := 2, code := method_3_code, exceptionTable := #[], attributes := #[] }
def k1m2 : Method := { name := "size", desc := "(J)I", sig := { parameters := [.long], returnType := some .int }, accessFlags := 10, code := some k1c2 }
def k1c3 : Code := { maxStack := 4, maxLocals := 10, code := method_4_code, exceptionTable := #[], attributes := #[] }
def k1m3 : Method := { name := "at", desc := "([BIIIJB)Z", sig := { parameters := [(.array .byte), .int, .int, .int, .long, .byte], returnType := some .boolean }, accessFlags := 10, code := some k1c3 }
/-- com/example/riffle/riffle/RowFormatWriteVarintPinLaw -/
def k1 : Class := { plain "com/example/riffle/riffle/RowFormatWriteVarintPinLaw" (some 0) with
  accessFlags := 49
  interfaces := #[]
  cf := some (fileOf pool1 16 #[] #[{ accessFlags := 2, nameIndex := 5, descriptorIndex := 6, attributes := #[] }, { accessFlags := 9, nameIndex := 37, descriptorIndex := 38, attributes := #[] }, { accessFlags := 10, nameIndex := 19, descriptorIndex := 20, attributes := #[] }, { accessFlags := 10, nameIndex := 23, descriptorIndex := 24, attributes := #[] }] 49 2 #[] #[])
  fields := #[]
  methods := #[k1m0, k1m1, k1m2, k1m3]
  instanceTypes := #[]
  staticTypes := #[]
  resolved := Array.replicate 44 none
  statics := none }

def pool2 : Array CpInfo := pool [(2, .class_ 4), (1, u "java/lang/Object"), (2, .class_ 8), (0, u "com/example/riffle/riffle/RowFormat"), (2, u "record"), (0, u "[B"), (2, u "key"), (0, u "Lcom/example/riffle/riffle/KeyColumns;"), (2, u "width"), (0, u "I"), (7, u "given"), (0, u "Lcom/example/riffle/riffle/RowFields;"), (25, u "([BII)I"), (10, u "writeVarint"), (30, .class_ 98), (0, u "com/example/riffle/riffle/RowFormat$1"), (9, u "texts"), (0, u "Lcom/example/riffle/riffle/CsvReader;"), (70, u "BIG_ENDIAN_LONG"), (0, u "Ljava/lang/invoke/VarHandle;"), (38, u "MAX_VARINT_SIZE"), (2, u "END"), (0, u "B"), (1, u "ESCAPE"), (1, u "RECORD_SIZE"), (1, u "KEPT_RECORD_SIZE")] 39

def k2c0 : Code := { maxStack := 4, maxLocals := 5, code := prog_41_method_16_code, exceptionTable := #[], attributes := #[] }
def k2m0 : Method := { name := "writeVarint", desc := "([BII)I", sig := { parameters := [(.array .byte), .int, .int], returnType := some .int }, accessFlags := 8, code := some k2c0 }
/-- com/example/riffle/riffle/RowFormat -/
def k2 : Class := { plain "com/example/riffle/riffle/RowFormat" (some 0) with
  accessFlags := 48
  interfaces := #[]
  cf := some (fileOf pool2 7 #[.nestMembers #[97]] #[{ accessFlags := 8, nameIndex := 66, descriptorIndex := 55, attributes := #[] }] 48 2 #[] #[{ accessFlags := 24, nameIndex := 220, descriptorIndex := 20, attributes := #[] }, { accessFlags := 26, nameIndex := 223, descriptorIndex := 224, attributes := #[] }, { accessFlags := 26, nameIndex := 226, descriptorIndex := 224, attributes := #[] }, { accessFlags := 26, nameIndex := 180, descriptorIndex := 181, attributes := #[] }, { accessFlags := 26, nameIndex := 228, descriptorIndex := 20, attributes := #[] }, { accessFlags := 26, nameIndex := 230, descriptorIndex := 20, attributes := #[] }, { accessFlags := 18, nameIndex := 15, descriptorIndex := 16, attributes := #[] }, { accessFlags := 18, nameIndex := 19, descriptorIndex := 20, attributes := #[] }, { accessFlags := 2, nameIndex := 11, descriptorIndex := 12, attributes := #[] }, { accessFlags := 18, nameIndex := 28, descriptorIndex := 29, attributes := #[] }, { accessFlags := 2, nameIndex := 108, descriptorIndex := 109, attributes := #[] }])
  fields := #[{ name := "MAX_VARINT_SIZE", type := .int, accessFlags := 24, slot := 0, constantValue := 0 }, { name := "END", type := .byte, accessFlags := 26, slot := 1, constantValue := 0 }, { name := "ESCAPE", type := .byte, accessFlags := 26, slot := 2, constantValue := 0 }, { name := "BIG_ENDIAN_LONG", type := (.object "java/lang/invoke/VarHandle"), accessFlags := 26, slot := 3, constantValue := 0 }, { name := "RECORD_SIZE", type := .int, accessFlags := 26, slot := 4, constantValue := 0 }, { name := "KEPT_RECORD_SIZE", type := .int, accessFlags := 26, slot := 5, constantValue := 0 }, { name := "key", type := (.object "com/example/riffle/riffle/KeyColumns"), accessFlags := 18, slot := 0, constantValue := 0 }, { name := "width", type := .int, accessFlags := 18, slot := 1, constantValue := 0 }, { name := "record", type := (.array .byte), accessFlags := 2, slot := 2, constantValue := 0 }, { name := "given", type := (.object "com/example/riffle/riffle/RowFields"), accessFlags := 18, slot := 3, constantValue := 0 }, { name := "texts", type := (.object "com/example/riffle/riffle/CsvReader"), accessFlags := 2, slot := 4, constantValue := 0 }]
  methods := #[k2m0]
  instanceTypes := #[(.object "com/example/riffle/riffle/KeyColumns"), .int, (.array .byte), (.object "com/example/riffle/riffle/RowFields"), (.object "com/example/riffle/riffle/CsvReader")]
  staticTypes := #[.int, .byte, .byte, (.object "java/lang/invoke/VarHandle"), .int, .int]
  resolved := Array.replicate 270 none
  statics := none }

def pool3 : Array CpInfo := pool [(1, u "java/lang/Cloneable"), (0, .class_ 1), (0, u "java/lang/Object"), (0, .class_ 3)] 3

/-- java/lang/Cloneable -/
def k3 : Class := { plain "java/lang/Cloneable" (some 0) with
  accessFlags := 1537
  interfaces := #[]
  cf := some (fileOf pool3 2 #[] #[] 1537 4 #[] #[])
  fields := #[]
  methods := #[]
  instanceTypes := #[]
  staticTypes := #[]
  resolved := Array.replicate 8 none
  statics := none }

def pool4 : Array CpInfo := pool [(1, u "java/io/Serializable"), (0, .class_ 1), (0, u "java/lang/Object"), (0, .class_ 3)] 3

/-- java/io/Serializable -/
def k4 : Class := { plain "java/io/Serializable" (some 0) with
  accessFlags := 1537
  interfaces := #[]
  cf := some (fileOf pool4 2 #[] #[] 1537 4 #[] #[])
  fields := #[]
  methods := #[]
  instanceTypes := #[]
  staticTypes := #[]
  resolved := Array.replicate 8 none
  statics := none }

/-- the primitive byte -/
def k5 : Class := { plain "byte" none with kind := .primitive 'B', accessFlags := 0x411 }
/-- [B -/
def k6 : Class := { plain "[B" (some 0) with kind := .array 5 .byte, interfaces := #[3, 4], accessFlags := 1041 }

/-- the primitive int -/
def k7 : Class := { plain "int" none with kind := .primitive 'I', accessFlags := 0x411 }
/-- [I -/
def k8 : Class := { plain "[I" (some 0) with kind := .array 7 .int, interfaces := #[3, 4], accessFlags := 1041 }

def heap : Heap := #[]
def classes : Array Class := #[k0, k1, k2, k3, k4, k5, k6, k7, k8]
def interned : List (Array UInt16 × Addr) := []
def slotsUsed : Nat := 0
def theMethod : MethodId := ⟨1, 1⟩
def args0 : Array Value := #[.int 5, .int 6, .int 7]
def aboutOver (below : List Frame) : State where
  vm := { classes := classes, interned := interned.toArray }
  heap := heap
  slotsUsed := slotsUsed
  threads := #[{ frames := .invoking theMethod args0 :: below }]
def below0 : List Frame := [.native { method := ⟨0, 0⟩, args := #[] }]
def about1 : State := aboutOver below0
def p0 : Program := .bare "" "" ""
def e0 : Env := launch0.env 0 0 0
theorem w_frames : about1.frames = Frame.invoking theMethod args0 :: below0 := rfl
set_option maxRecDepth 65536 in
theorem w_args : argsFit about1.vm theMethod args0 = true := by decide +kernel
set_option maxRecDepth 65536 in
theorem w_heap : heapFits about1 = true := by decide +kernel
set_option maxRecDepth 65536 in
theorem w_runnable : about1.curStatus? = some .runnable := by decide +kernel
set_option maxRecDepth 65536 in
theorem w_alone : about1.alone = true := by decide +kernel
set_option maxRecDepth 65536 in
theorem w_named : about1.methodNamed? x = some theMethod := by decide +kernel
set_option maxRecDepth 65536 in
theorem w_hears : about1.hears theMethod below0 = true := by decide +kernel
set_option maxRecDepth 65536 in
theorem w_ripe : about1.ripe theMethod args0 below0 = true := by decide +kernel
theorem w_running : about1.status = .running := rfl
set_option maxRecDepth 65536 in
theorem w_room : about1.hasRoom e0.platform room_1 = true :=
  launch0.hasRoom_least _ room_1 (by decide +kernel) (by decide +kernel) (by decide +kernel) (by decide +kernel) (by decide +kernel) (by decide +kernel)
theorem allAtoms_all (ts : List Jvm.Cond) (a : Array Jvm.Value) (st : Jvm.State) : (allAtoms ts).before a st = ts.all (fun c => c.before a st) := by
  induction ts with
  | nil => rfl
  | cons c t ih =>
    show (Jvm.Cond.and c (allAtoms t)).before a st = _
    rw [Jvm.Cond.before_and, ih, List.all_cons]
def words1 : List Jvm.Cond := Jvm.Cond.code x code maxLocals ret :: tables_1
/-- a 'code' word, met by the world's own term for the bytes: nothing is compared byte by byte -/
theorem code_word {y : MethodName} {bytes : ByteArray} {mx : Nat} {rt : Option FieldType} {a : Array Value} {s : State} {m : MethodId} {meth : Method} {c : Code} (h1 : s.methodNamed? y = some m) (h2 : s.vm.method? m = some meth) (h3 : meth.code = some c) (h4 : c.code = bytes)
    (h5 : (c.maxLocals == mx && c.exceptionTable.isEmpty && decide (c.maxStack ≤ mostOperands) && decide (meth.sig.returnType = rt) && !meth.locks && decide (parseMethodDescriptor y.desc = some meth.sig)) = true) : (Jvm.Cond.code y bytes mx rt).before a s = true := by
  simp only [Bool.and_eq_true, beq_iff_eq, Bool.not_eq_true', decide_eq_true_eq] at h5
  obtain ⟨⟨⟨⟨⟨g1, g2⟩, g3⟩, g4⟩, g5⟩, g6⟩ := h5
  simp [Cond.before, Cond.holds, Cond.value, h1, h2, h3, h4, g1, g2, g3, g4, g5, g6]
def isCode : Jvm.Cond → Bool
  | .code _ _ _ _ => true
  | _ => false
theorem all_split {L : List Jvm.Cond} {P : Jvm.Cond → Bool} (h1 : L.all (fun c => isCode c || P c) = true) (h2 : ∀ c ∈ L.filter isCode, P c = true) : L.all P = true := by
  refine List.all_eq_true.mpr fun c hc => ?_
  have h := List.all_eq_true.mp h1 c hc
  rcases Bool.eq_false_or_eq_true (isCode c) with hi | hi
  · exact h2 c (List.mem_filter.mpr ⟨hc, hi⟩)
  · simpa [hi] using h
set_option maxRecDepth 65536 in
theorem w_c0 : (Jvm.Cond.code x code maxLocals ret).before args0 about1 = true := code_word (m := ⟨1, 1⟩) (meth := k1m1) (c := k1c1) (by decide +kernel) rfl rfl rfl (by decide +kernel)
set_option maxRecDepth 65536 in
theorem w_c1 : (Jvm.Cond.code ({ cls := "com/example/riffle/riffle/RowFormat", name := "writeVarint", desc := "([BII)I" } : Jvm.MethodName) prog_41_method_16_code (5 : Nat) (Option.some Jvm.ClassFile.FieldType.int)).before args0 about1 = true := code_word (m := ⟨2, 0⟩) (meth := k2m0) (c := k2c0) (by decide +kernel) rfl rfl rfl (by decide +kernel)
set_option maxRecDepth 65536 in
theorem w_c2 : (Jvm.Cond.code ({ cls := "com/example/riffle/riffle/RowFormatWriteVarintPinLaw", name := "size", desc := "(J)I" } : Jvm.MethodName) method_3_code (2 : Nat) (Option.some Jvm.ClassFile.FieldType.int)).before args0 about1 = true := code_word (m := ⟨1, 2⟩) (meth := k1m2) (c := k1c2) (by decide +kernel) rfl rfl rfl (by decide +kernel)
set_option maxRecDepth 65536 in
theorem w_c3 : (Jvm.Cond.code ({ cls := "com/example/riffle/riffle/RowFormatWriteVarintPinLaw", name := "at", desc := "([BIIIJB)Z" } : Jvm.MethodName) method_4_code (10 : Nat) (Option.some Jvm.ClassFile.FieldType.boolean)).before args0 about1 = true := code_word (m := ⟨1, 3⟩) (meth := k1m3) (c := k1c3) (by decide +kernel) rfl rfl rfl (by decide +kernel)
def codes1 : List Jvm.Cond := [Jvm.Cond.code x code maxLocals ret, Jvm.Cond.code ({ cls := "com/example/riffle/riffle/RowFormat", name := "writeVarint", desc := "([BII)I" } : Jvm.MethodName) prog_41_method_16_code (5 : Nat) (Option.some Jvm.ClassFile.FieldType.int), Jvm.Cond.code ({ cls := "com/example/riffle/riffle/RowFormatWriteVarintPinLaw", name := "size", desc := "(J)I" } : Jvm.MethodName) method_3_code (2 : Nat) (Option.some Jvm.ClassFile.FieldType.int), Jvm.Cond.code ({ cls := "com/example/riffle/riffle/RowFormatWriteVarintPinLaw", name := "at", desc := "([BIIIJB)Z" } : Jvm.MethodName) method_4_code (10 : Nat) (Option.some Jvm.ClassFile.FieldType.boolean)]
set_option maxRecDepth 65536 in
theorem codes_eq : words1.filter isCode = codes1 := rfl
theorem w_codes : ∀ c ∈ words1.filter isCode, c.before args0 about1 = true := by
  rw [codes_eq]
  intro c hc
  simp only [codes1, List.mem_cons, List.not_mem_nil, or_false] at hc
  rcases hc with rfl | rfl | rfl | rfl
  · exact w_c0
  · exact w_c1
  · exact w_c2
  · exact w_c3
set_option maxRecDepth 65536 in
theorem w_t1 : words1.all (fun c => isCode c || c.before args0 about1) = true := by decide +kernel
theorem w_tables : (allAtoms (Jvm.Cond.code x code maxLocals ret :: tables_1)).before args0 about1 = true := by
  rw [allAtoms_all]
  show words1.all (fun c => c.before args0 about1) = true
  refine all_split ?_ w_codes
  rw [w_t1]
set_option maxRecDepth 65536 in
theorem w_case : (Jvm.Cond.and given_1 narrow_1).before args0 about1 = true := by decide +kernel
theorem w_applies : (headSpec (Jvm.Cond.code x code maxLocals ret :: tables_1) room_1).applies x e0.platform about1 = true :=
  (Spec.applies_iff w_frames).mpr ⟨w_running, w_runnable, w_alone, w_named, w_hears, w_ripe, w_room, w_tables⟩
theorem atStart : AtStart classFile x code maxLocals ret World_1 tables_1 room_1 Calls_1 rest_1 Pre_1 launch0 p0 e0 about1 theMethod args0 below0 :=
  ⟨lists_1, trivial, launch0.admits_env _ _ _, launch0.least_env, fairChoices_fair.cas, fairChoices_fair.clock, w_frames, w_args, w_heap, w_applies, trivial, trivial, w_case⟩
end start1
theorem witness_1 : WitnessClaimed_1 := ⟨start1.p0, start1.e0, start1.about1, start1.theMethod, start1.args0, start1.below0, start1.atStart⟩
end Jvm.Pilot.@@N@@
