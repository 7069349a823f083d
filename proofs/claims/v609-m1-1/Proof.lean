import JvmDerived
import JvmDerived.Pilot.@@N@@Statement
import JvmDerived.Pilot.@@N@@Code
set_option linter.unusedVariables false
set_option linter.unusedSimpArgs false
@@BLOCK:NumsL.lean.txt@@
namespace Jvm.RoadKit
open Sem ClassFile Op Lib Jvm.Stand Jvm.Free Jvm.LawKit
section New
variable {p : Program} {l : Launch} {e : Env} {R : Room} {s : State} {m : MethodId} {args : Array Value} {below : List Frame} {meth : Method} {c : Code} {T : State} {locs : List Loc} {cells slots : Nat}
theorem retI (X : Stand p l e R s m args below meth c T locs cells slots) (hx : p.tables.exec = Jvm.exec) {pc : Nat} {Ls : Array Slot} {z : Int32} {rest : List Value} (hret : meth.sig.returnType = some .int) (hd : decode c.code pc = .ok (.ireturn, 1)) {fs : List Frame}
    (hl : ∀ (f : JFrame) (acts : List Action), f.method = m → f.locked = none → f.entered = [] → (doReturn e (T.setTop f) acts (some (.int z))).1 = T.setFrames fs) : Steps p.tables e below (T.setTop (mkF m pc Ls (.int z :: rest))) (T.setFrames fs) := by
  have hm' : T.vm.method? m = some meth := X.method'
  have hn : narrow .int (.int z) = .int z := rfl
  show Steps p.tables e below (T.setTop { method := m, pc := pc, locals := Ls, stack := _ :: rest, locked := none }) _
  jvm_step X.here [X.here.top, hx, hd, hm', hret, hn]
  first | (intro acts; rw [hl _ acts rfl rfl rfl]) | rw [hl _ _ rfl rfl rfl]
  exact Steps.refl _
end New
end Jvm.RoadKit
/-! OwnRun: plain steps by evaluation. 'wpo' runs the plain instructions (loads, stores of locals, arithmetic, branches) of a body as a word on what it reaches; 'runo' says that the machine follows. -/
namespace Jvm.OwnRun
open Sem ClassFile Op Lib Jvm.Stand Jvm.Free Jvm.LawKit Jvm.RoadKit
def lget : List Slot → Nat → Option Slot
  | [], _ => none
  | a :: _, 0 => some a
  | _ :: t, n + 1 => lget t n
def lput : List Slot → Nat → Slot → List Slot
  | [], _, _ => []
  | _ :: t, 0, v => v :: t
  | a :: t, n + 1, v => a :: lput t n v
theorem lget_z (a : Slot) (t : List Slot) : lget (a :: t) 0 = some a := rfl
theorem lget_s (a : Slot) (t : List Slot) (n : Nat) : lget (a :: t) (n + 1) = lget t n := rfl
theorem lput_z (a : Slot) (t : List Slot) (v : Slot) : lput (a :: t) 0 v = v :: t := rfl
theorem lput_s (a : Slot) (t : List Slot) (n : Nat) (v : Slot) : lput (a :: t) (n + 1) v = a :: lput t n v := rfl
theorem lget_eq : ∀ (L : List Slot) (k : Nat), lget L k = L[k]?
  | [], _ => by simp [lget]
  | _ :: _, 0 => rfl
  | a :: t, n + 1 => by rw [lget_s, lget_eq t n, List.getElem?_cons_succ]
theorem lput_eq : ∀ (L : List Slot) (k : Nat) (v : Slot), lput L k v = L.set k v
  | [], _, _ => by simp [lput]
  | _ :: _, 0, _ => rfl
  | a :: t, n + 1, v => by rw [lput_s, lput_eq t n v, List.set_cons_succ]
theorem arr_get {L : List Slot} {k : Nat} {o : Slot} (h : lget L k = some o) : L.toArray[k]? = some o := by
  rw [lget_eq] at h; simpa using h
theorem arr_put (L : List Slot) (k : Nat) (v : Slot) : L.toArray.setIfInBounds k v = (lput L k v).toArray := by
  rw [lput_eq]; simp
/-- a store of one word, over nothing or over one word -/
def one : Option Slot → Bool
  | some .unset => true
  | some (.val (.int _)) => true
  | some (.val (.ref _)) => true
  | some (.val .null) => true
  | _ => false
def st1 (L : List Slot) (k : Nat) (v : Value) (F : List Slot → α) (d : α) : α := bif one (lget L k) then F (lput L k (.val v)) else d
/-- a store of two words, over nothing or over a long -/
def two : Option Slot → Option Slot → Bool
  | some .unset, some .unset => true
  | some (.val (.long _)), some .second => true
  | _, _ => false
def st2 (L : List Slot) (k : Nat) (v : Int64) (F : List Slot → α) (d : α) : α := bif two (lget L k) (lget L (k + 1)) then F (lput (lput L k (.val (.long v))) (k + 1) .second) else d
theorem one_unset : one (some .unset) = true := rfl
theorem one_int (v : Int32) : one (some (.val (.int v))) = true := rfl
theorem one_ref (v : Addr) : one (some (.val (.ref v))) = true := rfl
theorem two_unset : two (some .unset) (some .unset) = true := rfl
theorem two_long (v : Int64) : two (some (.val (.long v))) (some .second) = true := rfl
theorem one_e {o : Option Slot} (h : one o = true) : ∃ w, o = some w ∧ (w = .unset ∨ ∃ v, w = .val v ∧ v.category = 1) := by
  match o, h with
  | some .unset, _ => exact ⟨_, rfl, Or.inl rfl⟩
  | some (.val (.int v)), _ => exact ⟨_, rfl, Or.inr ⟨_, rfl, rfl⟩⟩
  | some (.val (.ref v)), _ => exact ⟨_, rfl, Or.inr ⟨_, rfl, rfl⟩⟩
  | some (.val .null), _ => exact ⟨_, rfl, Or.inr ⟨_, rfl, rfl⟩⟩
theorem store_one {L : List Slot} {k : Nat} {v : Value} (h : one (lget L k) = true) (hv : v.category = 1) : storeLocals L.toArray k v = some (lput L k (.val v)).toArray := by
  obtain ⟨w, hw, ho⟩ := one_e h
  rw [XS.store1 (arr_get hw) ho hv, arr_put]
theorem store_two {L : List Slot} {k : Nat} {v : Int64} (h : two (lget L k) (lget L (k + 1)) = true) : storeLocals L.toArray k (.long v) = some (lput (lput L k (.val (.long v))) (k + 1) .second).toArray := by
  match h0 : lget L k, h1 : lget L (k + 1), h with
  | some .unset, some .unset, _ => rw [Fl.storeLocals_cat2 (arr_get h0) (arr_get h1) rfl (Or.inl ⟨trivial, trivial⟩), arr_put, arr_put]
  | some (.val (.long w)), some .second, _ => rw [Fl.storeLocals_cat2 (arr_get h0) (arr_get h1) rfl (Or.inr ⟨⟨_, rfl, rfl⟩, rfl⟩), arr_put, arr_put]
/-- Java's x >>> y on ints and longs -/
def oushr (x y : Int32) : Int32 := (x.toUInt32 >>> (y &&& 31).toUInt32).toInt32
def oushrL (x : Int64) (y : Int32) : Int64 := (x.toUInt64 >>> (y &&& 0x3f).toInt64.toUInt64).toInt64
def oshlL (x : Int64) (y : Int32) : Int64 := x <<< (y &&& 0x3f).toInt64
def oshl (x y : Int32) : Int32 := x <<< (y &&& 31)
def oshr (x y : Int32) : Int32 := x >>> (y &&& 31)
/-- what a comparison asks -/
def cnd : ClassFile.Cond → Int32 → Int32 → Prop
  | .eq, x, y => x = y
  | .ne, x, y => ¬ x = y
  | .lt, x, y => x < y
  | .ge, x, y => ¬ x < y
  | .gt, x, y => y < x
  | .le, x, y => ¬ y < x
def cndL : ClassFile.Cond → Int64 → Int64 → Prop
  | .eq, x, y => x = y
  | .ne, x, y => ¬ x = y
  | .lt, x, y => x < y
  | .ge, x, y => ¬ x < y
  | .gt, x, y => y < x
  | .le, x, y => ¬ y < x
theorem cnd_t {cd : ClassFile.Cond} {x y : Int32} (h : cnd cd x y) : if_icmp.holds cd x y = true := by
  cases cd
  · exact (teq h).1
  · exact (feq h).2
  · exact (tlt h).1
  · exact (flt h).2.1
  · exact (tlt h).2.2.1
  · exact (flt h).2.2.2
theorem cnd_f {cd : ClassFile.Cond} {x y : Int32} (h : ¬ cnd cd x y) : if_icmp.holds cd x y = false := by
  cases cd
  · exact (feq h).1
  · exact (teq (Decidable.of_not_not h)).2
  · exact (flt h).1
  · exact (tlt (Decidable.of_not_not h)).2.1
  · exact (flt h).2.2.1
  · exact (tlt (Decidable.of_not_not h)).2.2.2
theorem cndL_t {cd : ClassFile.Cond} {x y : Int64} (h : cndL cd x y) : ifCond.holds cd (XT.cmpL x y) = true := by
  cases cd
  · exact XT.ll_eq_t h
  · exact XT.ll_ne_t h
  · exact XT.ll_lt_t h
  · exact XT.ll_ge_t h
  · exact XT.ll_gt_t h
  · exact XT.ll_le_t h
theorem cndL_f {cd : ClassFile.Cond} {x y : Int64} (h : ¬ cndL cd x y) : ifCond.holds cd (XT.cmpL x y) = false := by
  cases cd
  · exact XT.ll_eq_f h
  · exact XT.ll_ne_f (Decidable.of_not_not h)
  · exact XT.ll_lt_f h
  · exact XT.ll_ge_f (Decidable.of_not_not h)
  · exact XT.ll_gt_f h
  · exact XT.ll_le_f (Decidable.of_not_not h)
/-- where one step leads: on, under a condition; or two ways -/
abbrev Rs := Option (Sum (Prop × Nat × List Slot × List Value) (Prop × Nat × Nat × List Slot × List Value))
def go (pc : Nat) (L : List Slot) (st : List Value) : Rs := some (.inl (True, pc, L, st))
def goIf (ob : Prop) (pc : Nat) (L : List Slot) (st : List Value) : Rs := some (.inl (ob, pc, L, st))
def fork (c : Prop) (a b : Nat) (L : List Slot) (st : List Value) : Rs := some (.inr (c, a, b, L, st))
def chk (a b : Nat) (r : Rs) : Rs := bif a == b then r else none
def tgt (pc : Nat) (o : Int) : Nat := ((pc : Int) + o).toNat
def okO (pc : Nat) (o : Int) (r : Rs) : Rs := if 0 ≤ (pc : Int) + o then r else none
def gI (o : Option Slot) (F : Int32 → Rs) : Rs := match o with | some (.val (.int v)) => F v | _ => none
def gJ (o : Option Slot) (F : Int64 → Rs) : Rs := match o with | some (.val (.long v)) => F v | _ => none
def gA (o : Option Slot) (F : Value → Rs) : Rs := match o with | some (.val (.ref v)) => F (.ref v) | some (.val .null) => F .null | _ => none
def pI (st : List Value) (F : Int32 → List Value → Rs) : Rs := match st with | .int x :: r => F x r | _ => none
def pJ (st : List Value) (F : Int64 → List Value → Rs) : Rs := match st with | .long x :: r => F x r | _ => none
def pA (st : List Value) (F : Value → List Value → Rs) : Rs := match st with | .ref x :: r => F (.ref x) r | .null :: r => F .null r | _ => none
def p1 (st : List Value) (F : Value → List Value → Rs) : Rs := match st with | .ref x :: r => F (.ref x) r | .null :: r => F .null r | .int x :: r => F (.int x) r | _ => none
def pII (st : List Value) (F : Int32 → Int32 → List Value → Rs) : Rs := match st with | .int y :: .int x :: r => F x y r | _ => none
def pJJ (st : List Value) (F : Int64 → Int64 → List Value → Rs) : Rs := match st with | .long y :: .long x :: r => F x y r | _ => none
def pJI (st : List Value) (F : Int64 → Int32 → List Value → Rs) : Rs := match st with | .int y :: .long x :: r => F x y r | _ => none
def fnd : List (Nat × α) → Nat → Option α
  | [], _ => none
  | q :: t, k => bif q.1 == k then some q.2 else fnd t k
def gC (o : Option α) (F : α → Rs) : Rs := match o with | some v => F v | none => none
def gB (d : Except ClassFile.DecodeError (Instr × Nat)) (F : ClassFile.Cond → Int → Rs) : Rs := match d with | .ok (.ifCond cd o, 3) => F cd o | _ => none
def nx (code : ByteArray) (ci : List (Nat × Int32)) (cj : List (Nat × Int64)) (i : Instr) (len pc : Nat) (L : List Slot) (st : List Value) : Rs :=
  match i with
  | .iload k => chk len 2 (gI (lget L k) fun v => go (pc + 2) L (.int v :: st))
  | .iload_n k => chk len 1 (gI (lget L k.val) fun v => go (pc + 1) L (.int v :: st))
  | .lload k => chk len 2 (gJ (lget L k) fun v => go (pc + 2) L (.long v :: st))
  | .lload_n k => chk len 1 (gJ (lget L k.val) fun v => go (pc + 1) L (.long v :: st))
  | .aload k => chk len 2 (gA (lget L k) fun v => go (pc + 2) L (v :: st))
  | .aload_n k => chk len 1 (gA (lget L k.val) fun v => go (pc + 1) L (v :: st))
  | .istore k => chk len 2 (pI st fun x r => st1 L k (.int x) (fun L' => go (pc + 2) L' r) none)
  | .istore_n k => chk len 1 (pI st fun x r => st1 L k.val (.int x) (fun L' => go (pc + 1) L' r) none)
  | .lstore k => chk len 2 (pJ st fun x r => st2 L k x (fun L' => go (pc + 2) L' r) none)
  | .lstore_n k => chk len 1 (pJ st fun x r => st2 L k.val x (fun L' => go (pc + 1) L' r) none)
  | .astore k => chk len 2 (pA st fun x r => st1 L k x (fun L' => go (pc + 2) L' r) none)
  | .astore_n k => chk len 1 (pA st fun x r => st1 L k.val x (fun L' => go (pc + 1) L' r) none)
  | .iconst i => chk len 1 (go (pc + 1) L (.int (Int32.ofInt i) :: st))
  | .lconst k => chk len 1 (go (pc + 1) L (.long (Int64.ofNat k) :: st))
  | .bipush i => chk len 2 (go (pc + 2) L (.int (Int8.ofInt i).toInt32 :: st))
  | .sipush i => chk len 3 (go (pc + 3) L (.int (Int16.ofInt i).toInt32 :: st))
  | .ldc k => chk len 2 (gC (fnd ci k) fun v => go (pc + 2) L (.int v :: st))
  | .ldc2_w k => chk len 3 (gC (fnd cj k) fun v => go (pc + 3) L (.long v :: st))
  | .iadd => chk len 1 (pII st fun x y r => go (pc + 1) L (.int (x + y) :: r))
  | .isub => chk len 1 (pII st fun x y r => go (pc + 1) L (.int (x - y) :: r))
  | .imul => chk len 1 (pII st fun x y r => go (pc + 1) L (.int (x * y) :: r))
  | .idiv => chk len 1 (pII st fun x y r => goIf (y ≠ 0) (pc + 1) L (.int (x / y) :: r))
  | .irem => chk len 1 (pII st fun x y r => goIf (y ≠ 0) (pc + 1) L (.int (x - (x / y) * y) :: r))
  | .iand => chk len 1 (pII st fun x y r => go (pc + 1) L (.int (x &&& y) :: r))
  | .ior => chk len 1 (pII st fun x y r => go (pc + 1) L (.int (x ||| y) :: r))
  | .ixor => chk len 1 (pII st fun x y r => go (pc + 1) L (.int (x ^^^ y) :: r))
  | .ishl => chk len 1 (pII st fun x y r => go (pc + 1) L (.int (oshl x y) :: r))
  | .ishr => chk len 1 (pII st fun x y r => go (pc + 1) L (.int (oshr x y) :: r))
  | .iushr => chk len 1 (pII st fun x y r => go (pc + 1) L (.int (oushr x y) :: r))
  | .ladd => chk len 1 (pJJ st fun x y r => go (pc + 1) L (.long (x + y) :: r))
  | .lsub => chk len 1 (pJJ st fun x y r => go (pc + 1) L (.long (x - y) :: r))
  | .lmul => chk len 1 (pJJ st fun x y r => go (pc + 1) L (.long (x * y) :: r))
  | .ldiv => chk len 1 (pJJ st fun x y r => goIf (y ≠ 0) (pc + 1) L (.long (x / y) :: r))
  | .lrem => chk len 1 (pJJ st fun x y r => goIf (y ≠ 0) (pc + 1) L (.long (x - (x / y) * y) :: r))
  | .land => chk len 1 (pJJ st fun x y r => go (pc + 1) L (.long (x &&& y) :: r))
  | .lor => chk len 1 (pJJ st fun x y r => go (pc + 1) L (.long (x ||| y) :: r))
  | .lxor => chk len 1 (pJJ st fun x y r => go (pc + 1) L (.long (x ^^^ y) :: r))
  | .lshl => chk len 1 (pJI st fun x y r => go (pc + 1) L (.long (oshlL x y) :: r))
  | .lushr => chk len 1 (pJI st fun x y r => go (pc + 1) L (.long (oushrL x y) :: r))
  | .i2l => chk len 1 (pI st fun x r => go (pc + 1) L (.long x.toInt64 :: r))
  | .l2i => chk len 1 (pJ st fun x r => go (pc + 1) L (.int x.toInt32 :: r))
  | .i2b => chk len 1 (pI st fun x r => go (pc + 1) L (.int x.toInt8.toInt32 :: r))
  | .i2c => chk len 1 (pI st fun x r => go (pc + 1) L (.int x.toUInt32.toUInt16.toUInt32.toInt32 :: r))
  | .iinc k cst => chk len 3 (gI (lget L k) fun x => st1 L k (.int (x + Int32.ofInt cst)) (fun L' => go (pc + 3) L' st) none)
  | .goto o => chk len 3 (okO pc o (go (tgt pc o) L st))
  | .ifCond cd o => chk len 3 (okO pc o (pI st fun x r => fork (cnd cd x 0) (tgt pc o) (pc + 3) L r))
  | .if_icmp cd o => chk len 3 (okO pc o (pII st fun x y r => fork (cnd cd x y) (tgt pc o) (pc + 3) L r))
  | .lcmp => chk len 1 (pJJ st fun x y r => gB (decode code (pc + 1)) fun cd o => okO (pc + 1) o (fork (cndL cd x y) (tgt (pc + 1) o) (pc + 4) L r))
  | .dup => chk len 1 (p1 st fun x r => go (pc + 1) L (x :: x :: r))
  | .pop => chk len 1 (p1 st fun _ r => go (pc + 1) L r)
  | _ => none
def nxt (code : ByteArray) (ci : List (Nat × Int32)) (cj : List (Nat × Int64)) (pc : Nat) (L : List Slot) (st : List Value) : Rs :=
  match decode code pc with
  | .ok r => nx code ci cj r.1 r.2 pc L st
  | .error _ => none
def stopAt : List Nat → Nat → Prop → Prop → Prop
  | [], _, _, B => B
  | k :: t, pc, A, B => bif k == pc then A else stopAt t pc A B
def wpo (code : ByteArray) (ci : List (Nat × Int32)) (cj : List (Nat × Int64)) (stops : List Nat) : Nat → Nat → List Slot → List Value → (Nat → List Slot → List Value → Prop) → Prop
  | 0, pc, L, st, K => K pc L st
  | n + 1, pc, L, st, K =>
    match nxt code ci cj pc L st with
    | none => K pc L st
    | some (.inl (ob, a, L', st')) => ob ∧ stopAt stops a (K a L' st') (wpo code ci cj stops n a L' st' K)
    | some (.inr (c, a, b, L', st')) => (c → stopAt stops a (K a L' st') (wpo code ci cj stops n a L' st' K)) ∧ (¬ c → stopAt stops b (K b L' st') (wpo code ci cj stops n b L' st' K))
/-! what a step's answer means -/
def Snd (P : Nat → List Slot → List Value → Prop) (pc : Nat) (L : List Slot) (st : List Value) : Rs → Prop
  | none => True
  | some (.inl (ob, a, L', st')) => ob → P a L' st' → P pc L st
  | some (.inr (c, a, b, L', st')) => (c → P a L' st' → P pc L st) ∧ (¬ c → P b L' st' → P pc L st)
section
variable {P : Nat → List Slot → List Value → Prop} {pc : Nat} {L : List Slot} {st : List Value}
theorem s_chk {a b : Nat} {r : Rs} (h : a = b → Snd P pc L st r) : Snd P pc L st (chk a b r) := by
  unfold chk
  cases e : (a == b)
  · exact trivial
  · exact h (eq_of_beq e)
theorem s_okO {o : Int} {q : Nat} {r : Rs} (h : 0 ≤ (q : Int) + o → Snd P pc L st r) : Snd P pc L st (okO q o r) := by
  unfold okO
  by_cases e : 0 ≤ (q : Int) + o
  · rw [if_pos e]; exact h e
  · rw [if_neg e]; exact trivial
theorem s_gI {o : Option Slot} {F : Int32 → Rs} (h : ∀ v, o = some (.val (.int v)) → Snd P pc L st (F v)) : Snd P pc L st (gI o F) := by
  unfold gI; split
  · exact h _ rfl
  · exact trivial
theorem s_gJ {o : Option Slot} {F : Int64 → Rs} (h : ∀ v, o = some (.val (.long v)) → Snd P pc L st (F v)) : Snd P pc L st (gJ o F) := by
  unfold gJ; split
  · exact h _ rfl
  · exact trivial
theorem s_gA {o : Option Slot} {F : Value → Rs} (h : ∀ v, o = some (.val v) → v.isRef = true → Snd P pc L st (F v)) : Snd P pc L st (gA o F) := by
  unfold gA; split
  · exact h _ rfl rfl
  · exact h _ rfl rfl
  · exact trivial
theorem s_pI {F : Int32 → List Value → Rs} (h : ∀ x r, st = .int x :: r → Snd P pc L st (F x r)) : Snd P pc L st (pI st F) := by
  unfold pI; split
  · exact h _ _ rfl
  · exact trivial
theorem s_pJ {F : Int64 → List Value → Rs} (h : ∀ x r, st = .long x :: r → Snd P pc L st (F x r)) : Snd P pc L st (pJ st F) := by
  unfold pJ; split
  · exact h _ _ rfl
  · exact trivial
theorem s_pA {F : Value → List Value → Rs} (h : ∀ x r, st = x :: r → x.isRef = true → x.category = 1 → Snd P pc L st (F x r)) : Snd P pc L st (pA st F) := by
  unfold pA; split
  · exact h _ _ rfl rfl rfl
  · exact h _ _ rfl rfl rfl
  · exact trivial
theorem s_p1 {F : Value → List Value → Rs} (h : ∀ x r, st = x :: r → x.category = 1 → Snd P pc L st (F x r)) : Snd P pc L st (p1 st F) := by
  unfold p1; split
  · exact h _ _ rfl rfl
  · exact h _ _ rfl rfl
  · exact h _ _ rfl rfl
  · exact trivial
theorem s_pII {F : Int32 → Int32 → List Value → Rs} (h : ∀ x y r, st = .int y :: .int x :: r → Snd P pc L st (F x y r)) : Snd P pc L st (pII st F) := by
  unfold pII; split
  · exact h _ _ _ rfl
  · exact trivial
theorem s_pJJ {F : Int64 → Int64 → List Value → Rs} (h : ∀ x y r, st = .long y :: .long x :: r → Snd P pc L st (F x y r)) : Snd P pc L st (pJJ st F) := by
  unfold pJJ; split
  · exact h _ _ _ rfl
  · exact trivial
theorem s_pJI {F : Int64 → Int32 → List Value → Rs} (h : ∀ x y r, st = .int y :: .long x :: r → Snd P pc L st (F x y r)) : Snd P pc L st (pJI st F) := by
  unfold pJI; split
  · exact h _ _ _ rfl
  · exact trivial
theorem s_st1 {L0 : List Slot} {k : Nat} {v : Value} {F : List Slot → Rs} (hv : v.category = 1) (h : ∀ L', storeLocals L0.toArray k v = some L'.toArray → Snd P pc L st (F L')) : Snd P pc L st (st1 L0 k v F none) := by
  unfold st1
  cases e : one (lget L0 k)
  · exact trivial
  · exact h _ (store_one e hv)
theorem s_st2 {L0 : List Slot} {k : Nat} {v : Int64} {F : List Slot → Rs} (h : ∀ L', storeLocals L0.toArray k (.long v) = some L'.toArray → Snd P pc L st (F L')) : Snd P pc L st (st2 L0 k v F none) := by
  unfold st2
  cases e : two (lget L0 k) (lget L0 (k + 1))
  · exact trivial
  · exact h _ (store_two e)
theorem s_gC {o : Option α} {F : α → Rs} (h : ∀ v, o = some v → Snd P pc L st (F v)) : Snd P pc L st (gC o F) := by
  unfold gC; split
  · exact h _ rfl
  · exact trivial
theorem s_gB {d : Except ClassFile.DecodeError (Instr × Nat)} {F : ClassFile.Cond → Int → Rs} (h : ∀ cd o, d = .ok (.ifCond cd o, 3) → Snd P pc L st (F cd o)) : Snd P pc L st (gB d F) := by
  unfold gB; split
  · exact h _ _ rfl
  · exact trivial
end
theorem fnd_mem : ∀ {l : List (Nat × α)} {k : Nat} {v : α}, fnd l k = some v → (k, v) ∈ l
  | [], _, _, h => nomatch h
  | (j, w) :: t, k, v, h => by
    unfold fnd at h
    cases e : (j == k)
    · rw [e] at h; exact List.mem_cons_of_mem _ (fnd_mem h)
    · rw [e] at h
      cases Option.some.inj h
      cases eq_of_beq e
      exact List.mem_cons_self ..
section
variable {p : Program} {l : Launch} {e : Env} {R : Room} {s : State} {m : MethodId} {args : Array Value} {below : List Frame} {meth : Method} {c : Code} {T : State} {locs : List Loc} {cells slots : Nat} {code : ByteArray} {ci : List (Nat × Int32)} {cj : List (Nat × Int64)} {own : String}
theorem nx_ok (X : Stand p l e R s m args below meth c T locs cells slots) (hx : p.tables.exec = Jvm.exec) (hby : c.code = code) (hown : s.vm.findClass own = some m.cls) (hci : ∀ q ∈ ci, (Jvm.Cond.constant own q.1 q.2).before args s = true) (hcj : ∀ q ∈ cj, (Jvm.Cond.constantLong own q.1 q.2).before args s = true)
    (target : State) (i : Instr) (len pc : Nat) (L : List Slot) (st : List Value) (hd : decode c.code pc = .ok (i, len)) :
    Snd (fun pc L st => Steps p.tables e below (T.setTop (mkF m pc L.toArray st)) target) pc L st (nx code ci cj i len pc L st) := by
  cases i
  case iload k => exact s_chk fun q => s_gI fun v hv => fun _ h => XS.iload X.here hx rfl (q ▸ hd) (arr_get hv) h
  case iload_n k => exact s_chk fun q => s_gI fun v hv => fun _ h => XS.iloadN X.here hx rfl (q ▸ hd) (arr_get hv) h
  case lload k => exact s_chk fun q => s_gJ fun v hv => fun _ h => XS.lload X.here hx rfl (q ▸ hd) (arr_get hv) h
  case lload_n k => exact s_chk fun q => s_gJ fun v hv => fun _ h => XS.lloadN X.here hx rfl (q ▸ hd) (arr_get hv) h
  case aload k => exact s_chk fun q => s_gA fun v hv hr => fun _ h => XS.aload X.here hx rfl (q ▸ hd) (arr_get hv) hr h
  case aload_n k => exact s_chk fun q => s_gA fun v hv hr => fun _ h => XS.aloadN X.here hx rfl (q ▸ hd) (arr_get hv) hr h
  case istore k => exact s_chk fun q => s_pI fun x r hs => s_st1 rfl fun L' hl => fun _ h => XS.istore X.here hx rfl (q ▸ hd) hs hl h
  case istore_n k => exact s_chk fun q => s_pI fun x r hs => s_st1 rfl fun L' hl => fun _ h => XS.istoreN X.here hx rfl (q ▸ hd) hs hl h
  case lstore k => exact s_chk fun q => s_pJ fun x r hs => s_st2 fun L' hl => fun _ h => XS.lstore X.here hx rfl (q ▸ hd) hs hl h
  case lstore_n k => exact s_chk fun q => s_pJ fun x r hs => s_st2 fun L' hl => fun _ h => XS.lstoreN X.here hx rfl (q ▸ hd) hs hl h
  case astore k => exact s_chk fun q => s_pA fun x r hs hr hc => s_st1 hc fun L' hl => fun _ h => XS.astore X.here hx rfl (q ▸ hd) hs hr hl h
  case astore_n k => exact s_chk fun q => s_pA fun x r hs hr hc => s_st1 hc fun L' hl => fun _ h => XS.astoreN X.here hx rfl (q ▸ hd) hs hr hl h
  case iconst i => exact s_chk fun q => fun _ h => XS.iconst X.here hx rfl (q ▸ hd) h
  case lconst k => exact s_chk fun q => fun _ h => XS.lconst X.here hx rfl (q ▸ hd) h
  case bipush i => exact s_chk fun q => fun _ h => XS.bipush X.here hx rfl (q ▸ hd) h
  case sipush i => exact s_chk fun q => fun _ h => XS.sipush X.here hx rfl (q ▸ hd) h
  case ldc k => exact s_chk fun q => s_gC fun v hv => fun _ h => X.ldcI hx hown (hci _ (fnd_mem hv)) rfl (q ▸ hd) h
  case ldc2_w k => exact s_chk fun q => s_gC fun v hv => fun _ h => X.ldc2J hx hown (hcj _ (fnd_mem hv)) rfl (q ▸ hd) h
  case iadd => exact s_chk fun q => s_pII fun x y r hs => fun _ h => XS.iadd X.here hx rfl (q ▸ hd) hs h
  case isub => exact s_chk fun q => s_pII fun x y r hs => fun _ h => XS.isub X.here hx rfl (q ▸ hd) hs h
  case imul => exact s_chk fun q => s_pII fun x y r hs => fun _ h => XS.imul X.here hx rfl (q ▸ hd) hs h
  case idiv => exact s_chk fun q => s_pII fun x y r hs => fun hy h => XS.idiv X.here hx rfl (q ▸ hd) hs hy h
  case irem => exact s_chk fun q => s_pII fun x y r hs => fun hy h => XS.irem X.here hx rfl (q ▸ hd) hs hy h
  case iand => exact s_chk fun q => s_pII fun x y r hs => fun _ h => XS.iand X.here hx rfl (q ▸ hd) hs h
  case ior => exact s_chk fun q => s_pII fun x y r hs => fun _ h => XS.ior X.here hx rfl (q ▸ hd) hs h
  case ixor => exact s_chk fun q => s_pII fun x y r hs => fun _ h => XS.ixor X.here hx rfl (q ▸ hd) hs h
  case ishl => exact s_chk fun q => s_pII fun x y r hs => fun _ h => XS.ishl X.here hx rfl (q ▸ hd) hs h
  case ishr => exact s_chk fun q => s_pII fun x y r hs => fun _ h => XS.ishr X.here hx rfl (q ▸ hd) hs h
  case iushr => exact s_chk fun q => s_pII fun x y r hs => fun _ h => XS.iushr X.here hx rfl (q ▸ hd) hs h
  case ladd => exact s_chk fun q => s_pJJ fun x y r hs => fun _ h => XS.ladd X.here hx rfl (q ▸ hd) hs h
  case lsub => exact s_chk fun q => s_pJJ fun x y r hs => fun _ h => XS.lsub X.here hx rfl (q ▸ hd) hs h
  case lmul => exact s_chk fun q => s_pJJ fun x y r hs => fun _ h => XS.lmul X.here hx rfl (q ▸ hd) hs h
  case ldiv => exact s_chk fun q => s_pJJ fun x y r hs => fun hy h => XS.ldiv X.here hx rfl (q ▸ hd) hs hy h
  case lrem => exact s_chk fun q => s_pJJ fun x y r hs => fun hy h => XS.lrem X.here hx rfl (q ▸ hd) hs hy h
  case land => exact s_chk fun q => s_pJJ fun x y r hs => fun _ h => XS.land X.here hx rfl (q ▸ hd) hs h
  case lor => exact s_chk fun q => s_pJJ fun x y r hs => fun _ h => XS.lor X.here hx rfl (q ▸ hd) hs h
  case lxor => exact s_chk fun q => s_pJJ fun x y r hs => fun _ h => XS.lxor X.here hx rfl (q ▸ hd) hs h
  case lshl => exact s_chk fun q => s_pJI fun x y r hs => fun _ h => XS.lshl X.here hx rfl (q ▸ hd) hs h
  case lushr => exact s_chk fun q => s_pJI fun x y r hs => fun _ h => XS.lushr X.here hx rfl (q ▸ hd) hs h
  case i2l => exact s_chk fun q => s_pI fun x r hs => fun _ h => XS.i2l X.here hx rfl (q ▸ hd) hs h
  case l2i => exact s_chk fun q => s_pJ fun x r hs => fun _ h => XS.l2i X.here hx rfl (q ▸ hd) hs h
  case i2b => exact s_chk fun q => s_pI fun x r hs => fun _ h => XS.i2b X.here hx rfl (q ▸ hd) hs h
  case i2c => exact s_chk fun q => s_pI fun x r hs => fun _ h => XS.i2c X.here hx rfl (q ▸ hd) hs h
  case iinc k cst => exact s_chk fun q => s_gI fun x hv => s_st1 rfl fun L' hl => fun _ h => XS.iinc X.here hx rfl (q ▸ hd) (arr_get hv) hl h
  case goto o => exact s_chk fun q => s_okO fun ho => fun _ h => XS.goto X.here hx rfl (pc0 := pc) rfl (q ▸ hd) ho rfl h
  case ifCond cd o => exact s_chk fun q => s_okO fun ho => s_pI fun x r hs => ⟨fun hc h => XS.ifYes X.here hx rfl (pc0 := pc) rfl (q ▸ hd) hs ((if0 _ _).trans (cnd_t hc)) ho rfl h, fun hc h => XS.ifNo X.here hx rfl (q ▸ hd) hs ((if0 _ _).trans (cnd_f hc)) h⟩
  case if_icmp cd o => exact s_chk fun q => s_okO fun ho => s_pII fun x y r hs => ⟨fun hc h => XS.icmpYes X.here hx rfl (pc0 := pc) rfl (q ▸ hd) hs (cnd_t hc) ho rfl h, fun hc h => XS.icmpNo X.here hx rfl (q ▸ hd) hs (cnd_f hc) h⟩
  case lcmp => exact s_chk fun q => s_pJJ fun x y r hs => s_gB fun cd o hd2 => s_okO fun ho => ⟨fun hc h => XS.lcmp X.here hx rfl (q ▸ hd) hs (XS.ifYes (g := mkF m (pc + 1) L.toArray (.int (XT.cmpL x y) :: r)) X.here hx rfl (pc0 := pc + 1) rfl (hby ▸ hd2) rfl (cndL_t hc) ho rfl h), fun hc h => XS.lcmp X.here hx rfl (q ▸ hd) hs (XS.ifNo (g := mkF m (pc + 1) L.toArray (.int (XT.cmpL x y) :: r)) X.here hx rfl (hby ▸ hd2) rfl (cndL_f hc) h)⟩
  case dup => exact s_chk fun q => s_p1 fun x r hs hc => fun _ h => XS.dup X.here hx rfl (q ▸ hd) hs hc h
  case pop => exact s_chk fun q => s_p1 fun x r hs hc => fun _ h => XS.pop X.here hx rfl (q ▸ hd) hs hc h
  all_goals exact trivial
theorem stop_ok {P : Prop} : ∀ {stops : List Nat} {pc : Nat} {A B : Prop}, (A → P) → (B → P) → stopAt stops pc A B → P
  | [], _, _, _, _, hB, h => hB h
  | k :: t, pc, A, B, hA, hB, h => by
    unfold stopAt at h
    cases q : (k == pc)
    · rw [q] at h; exact stop_ok hA hB h
    · rw [q] at h; exact hA h
theorem runo (X : Stand p l e R s m args below meth c T locs cells slots) (hx : p.tables.exec = Jvm.exec) (hby : c.code = code) (hown : s.vm.findClass own = some m.cls) (hci : ∀ q ∈ ci, (Jvm.Cond.constant own q.1 q.2).before args s = true) (hcj : ∀ q ∈ cj, (Jvm.Cond.constantLong own q.1 q.2).before args s = true)
    {stops : List Nat} (target : State) {K : Nat → List Slot → List Value → Prop} (hK : ∀ pc L st, K pc L st → Steps p.tables e below (T.setTop (mkF m pc L.toArray st)) target) :
    ∀ (n pc : Nat) (L : List Slot) (st : List Value), wpo code ci cj stops n pc L st K → Steps p.tables e below (T.setTop (mkF m pc L.toArray st)) target
  | 0, pc, L, st, h => hK pc L st h
  | n + 1, pc, L, st, h => by
    have ih := runo X hx hby hown hci hcj (stops := stops) target hK n
    unfold wpo at h
    cases hd : decode code pc with
    | error er =>
      have q : nxt code ci cj pc L st = none := by unfold nxt; rw [hd]
      rw [q] at h
      exact hK _ _ _ h
    | ok r =>
      obtain ⟨i, len⟩ := r
      have q : nxt code ci cj pc L st = nx code ci cj i len pc L st := by unfold nxt; rw [hd]
      rw [q] at h
      have hs := nx_ok X hx hby hown hci hcj target i len pc L st (hby ▸ hd)
      match hr : nx code ci cj i len pc L st, h, hs with
      | none, h, _ => exact hK _ _ _ h
      | some (.inl (ob, a, L', st')), h, hs => exact hs h.1 (stop_ok (hK _ _ _) (ih _ _ _) h.2)
      | some (.inr (cc, a, b, L', st')), h, hs =>
        by_cases hc : cc
        · exact hs.1 hc (stop_ok (hK _ _ _) (ih _ _ _) (h.1 hc))
        · exact hs.2 hc (stop_ok (hK _ _ _) (ih _ _ _) (h.2 hc))
/-- a stretch of plain steps with one end -/
theorem sego (X : Stand p l e R s m args below meth c T locs cells slots) (hx : p.tables.exec = Jvm.exec) (hby : c.code = code) (hown : s.vm.findClass own = some m.cls) (hci : ∀ q ∈ ci, (Jvm.Cond.constant own q.1 q.2).before args s = true) (hcj : ∀ q ∈ cj, (Jvm.Cond.constantLong own q.1 q.2).before args s = true)
    {stops : List Nat} {n pc pc' : Nat} {L L' : List Slot} {st st' : List Value} (h : wpo code ci cj stops n pc L st (fun a M u => a = pc' ∧ M = L' ∧ u = st')) (target : State) (hr : Steps p.tables e below (T.setTop (mkF m pc' L'.toArray st')) target) : Steps p.tables e below (T.setTop (mkF m pc L.toArray st)) target :=
  runo X hx hby hown hci hcj target (fun a M u q => by obtain ⟨rfl, rfl, rfl⟩ := q; exact hr) n pc L st h
/-- plain steps up to the return of an int, a narrow one, a long -/
theorem endI (X : Stand p l e R s m args below meth c T locs cells slots) (hx : p.tables.exec = Jvm.exec) (hby : c.code = code) (hown : s.vm.findClass own = some m.cls) (hci : ∀ q ∈ ci, (Jvm.Cond.constant own q.1 q.2).before args s = true) (hcj : ∀ q ∈ cj, (Jvm.Cond.constantLong own q.1 q.2).before args s = true)
    {stops : List Nat} {n pc : Nat} {L : List Slot} {st : List Value} {z : Int32} (h : wpo code ci cj stops n pc L st (fun a _ u => decode code a = .ok (.ireturn, 1) ∧ u = [.int z])) (hret : meth.sig.returnType = some .int) {fs : List Frame}
    (hl : ∀ (f : JFrame) (acts : List Action), f.method = m → f.locked = none → f.entered = [] → (doReturn e (T.setTop f) acts (some (.int z))).1 = T.setFrames fs) : Steps p.tables e below (T.setTop (mkF m pc L.toArray st)) (T.setFrames fs) :=
  runo X hx hby hown hci hcj _ (fun a M u q => by obtain ⟨q1, rfl⟩ := q; exact retI X hx hret (hb hby q1) hl) n pc L st h
theorem endN (X : Stand p l e R s m args below meth c T locs cells slots) (hx : p.tables.exec = Jvm.exec) (hby : c.code = code) (hown : s.vm.findClass own = some m.cls) (hci : ∀ q ∈ ci, (Jvm.Cond.constant own q.1 q.2).before args s = true) (hcj : ∀ q ∈ cj, (Jvm.Cond.constantLong own q.1 q.2).before args s = true)
    {stops : List Nat} {n pc : Nat} {L : List Slot} {st : List Value} {z : Int32} {t : FieldType} (h : wpo code ci cj stops n pc L st (fun a _ u => decode code a = .ok (.ireturn, 1) ∧ u = [.int z])) (hret : meth.sig.returnType = some t) (ht : t = .boolean ∨ t = .byte ∨ t = .char ∨ t = .short) {fs : List Frame}
    (hl : ∀ (f : JFrame) (acts : List Action), f.method = m → f.locked = none → f.entered = [] → (doReturn e (T.setTop f) acts (some (.int (nar t z)))).1 = T.setFrames fs) : Steps p.tables e below (T.setTop (mkF m pc L.toArray st)) (T.setFrames fs) :=
  runo X hx hby hown hci hcj _ (fun a M u q => by obtain ⟨q1, rfl⟩ := q; exact retN X hx hret ht (hb hby q1) hl) n pc L st h
theorem endJ (X : Stand p l e R s m args below meth c T locs cells slots) (hx : p.tables.exec = Jvm.exec) (hby : c.code = code) (hown : s.vm.findClass own = some m.cls) (hci : ∀ q ∈ ci, (Jvm.Cond.constant own q.1 q.2).before args s = true) (hcj : ∀ q ∈ cj, (Jvm.Cond.constantLong own q.1 q.2).before args s = true)
    {stops : List Nat} {n pc : Nat} {L : List Slot} {st : List Value} {z : Int64} (h : wpo code ci cj stops n pc L st (fun a _ u => decode code a = .ok (.lreturn, 1) ∧ u = [.long z])) (hret : meth.sig.returnType = some .long) {fs : List Frame}
    (hl : ∀ (f : JFrame) (acts : List Action), f.method = m → f.locked = none → f.entered = [] → (doReturn e (T.setTop f) acts (some (.long z))).1 = T.setFrames fs) : Steps p.tables e below (T.setTop (mkF m pc L.toArray st)) (T.setFrames fs) :=
  runo X hx hby hown hci hcj _ (fun a M u q => by obtain ⟨q1, rfl⟩ := q; exact X.lreturnOut hx hret (hb hby q1) hl) n pc L st h
end
theorem cI {Z s : State} {a0 args : Array Value} {tb : List Jvm.Cond} {own : String} {ci : List (Nat × Int32)} (hZ : Z.Warmed39 s.vm) (hw : ∀ d ∈ tb, d.before a0 Z = true) (h : ∀ q ∈ ci, Jvm.Cond.constant own q.1 q.2 ∈ tb) : ∀ q ∈ ci, (Jvm.Cond.constant own q.1 q.2).before args s = true := fun q hq => mvT hZ (hw _ (h q hq))
theorem cJ {Z s : State} {a0 args : Array Value} {tb : List Jvm.Cond} {own : String} {cj : List (Nat × Int64)} (hZ : Z.Warmed39 s.vm) (hw : ∀ d ∈ tb, d.before a0 Z = true) (h : ∀ q ∈ cj, Jvm.Cond.constantLong own q.1 q.2 ∈ tb) : ∀ q ∈ cj, (Jvm.Cond.constantLong own q.1 q.2).before args s = true := fun q hq => mvT hZ (hw _ (h q hq))
section
theorem n_iload (code : ByteArray) (ci : List (Nat × Int32)) (cj : List (Nat × Int64)) (pc : Nat) (L : List Slot) (st : List Value) (k : Nat) : nx code ci cj (.iload k) 2 pc L st = gI (lget L k) fun v => go (pc + 2) L (.int v :: st) := rfl
theorem n_iload_n (code : ByteArray) (ci : List (Nat × Int32)) (cj : List (Nat × Int64)) (pc : Nat) (L : List Slot) (st : List Value) (k : Fin 4) : nx code ci cj (.iload_n k) 1 pc L st = gI (lget L k.val) fun v => go (pc + 1) L (.int v :: st) := rfl
theorem n_lload (code : ByteArray) (ci : List (Nat × Int32)) (cj : List (Nat × Int64)) (pc : Nat) (L : List Slot) (st : List Value) (k : Nat) : nx code ci cj (.lload k) 2 pc L st = gJ (lget L k) fun v => go (pc + 2) L (.long v :: st) := rfl
theorem n_lload_n (code : ByteArray) (ci : List (Nat × Int32)) (cj : List (Nat × Int64)) (pc : Nat) (L : List Slot) (st : List Value) (k : Fin 4) : nx code ci cj (.lload_n k) 1 pc L st = gJ (lget L k.val) fun v => go (pc + 1) L (.long v :: st) := rfl
theorem n_aload (code : ByteArray) (ci : List (Nat × Int32)) (cj : List (Nat × Int64)) (pc : Nat) (L : List Slot) (st : List Value) (k : Nat) : nx code ci cj (.aload k) 2 pc L st = gA (lget L k) fun v => go (pc + 2) L (v :: st) := rfl
theorem n_aload_n (code : ByteArray) (ci : List (Nat × Int32)) (cj : List (Nat × Int64)) (pc : Nat) (L : List Slot) (st : List Value) (k : Fin 4) : nx code ci cj (.aload_n k) 1 pc L st = gA (lget L k.val) fun v => go (pc + 1) L (v :: st) := rfl
theorem n_istore (code : ByteArray) (ci : List (Nat × Int32)) (cj : List (Nat × Int64)) (pc : Nat) (L : List Slot) (st : List Value) (k : Nat) : nx code ci cj (.istore k) 2 pc L st = pI st fun x r => st1 L k (.int x) (fun L' => go (pc + 2) L' r) none := rfl
theorem n_istore_n (code : ByteArray) (ci : List (Nat × Int32)) (cj : List (Nat × Int64)) (pc : Nat) (L : List Slot) (st : List Value) (k : Fin 4) : nx code ci cj (.istore_n k) 1 pc L st = pI st fun x r => st1 L k.val (.int x) (fun L' => go (pc + 1) L' r) none := rfl
theorem n_lstore (code : ByteArray) (ci : List (Nat × Int32)) (cj : List (Nat × Int64)) (pc : Nat) (L : List Slot) (st : List Value) (k : Nat) : nx code ci cj (.lstore k) 2 pc L st = pJ st fun x r => st2 L k x (fun L' => go (pc + 2) L' r) none := rfl
theorem n_lstore_n (code : ByteArray) (ci : List (Nat × Int32)) (cj : List (Nat × Int64)) (pc : Nat) (L : List Slot) (st : List Value) (k : Fin 4) : nx code ci cj (.lstore_n k) 1 pc L st = pJ st fun x r => st2 L k.val x (fun L' => go (pc + 1) L' r) none := rfl
theorem n_astore (code : ByteArray) (ci : List (Nat × Int32)) (cj : List (Nat × Int64)) (pc : Nat) (L : List Slot) (st : List Value) (k : Nat) : nx code ci cj (.astore k) 2 pc L st = pA st fun x r => st1 L k x (fun L' => go (pc + 2) L' r) none := rfl
theorem n_astore_n (code : ByteArray) (ci : List (Nat × Int32)) (cj : List (Nat × Int64)) (pc : Nat) (L : List Slot) (st : List Value) (k : Fin 4) : nx code ci cj (.astore_n k) 1 pc L st = pA st fun x r => st1 L k.val x (fun L' => go (pc + 1) L' r) none := rfl
theorem n_iconst (code : ByteArray) (ci : List (Nat × Int32)) (cj : List (Nat × Int64)) (pc : Nat) (L : List Slot) (st : List Value) (i : Int) : nx code ci cj (.iconst i) 1 pc L st = go (pc + 1) L (.int (Int32.ofInt i) :: st) := rfl
theorem n_lconst (code : ByteArray) (ci : List (Nat × Int32)) (cj : List (Nat × Int64)) (pc : Nat) (L : List Slot) (st : List Value) (k : Fin 2) : nx code ci cj (.lconst k) 1 pc L st = go (pc + 1) L (.long (Int64.ofNat k) :: st) := rfl
theorem n_bipush (code : ByteArray) (ci : List (Nat × Int32)) (cj : List (Nat × Int64)) (pc : Nat) (L : List Slot) (st : List Value) (i : Int) : nx code ci cj (.bipush i) 2 pc L st = go (pc + 2) L (.int (Int8.ofInt i).toInt32 :: st) := rfl
theorem n_sipush (code : ByteArray) (ci : List (Nat × Int32)) (cj : List (Nat × Int64)) (pc : Nat) (L : List Slot) (st : List Value) (i : Int) : nx code ci cj (.sipush i) 3 pc L st = go (pc + 3) L (.int (Int16.ofInt i).toInt32 :: st) := rfl
theorem n_ldc (code : ByteArray) (ci : List (Nat × Int32)) (cj : List (Nat × Int64)) (pc : Nat) (L : List Slot) (st : List Value) (k : Nat) : nx code ci cj (.ldc k) 2 pc L st = gC (fnd ci k) fun v => go (pc + 2) L (.int v :: st) := rfl
theorem n_ldc2_w (code : ByteArray) (ci : List (Nat × Int32)) (cj : List (Nat × Int64)) (pc : Nat) (L : List Slot) (st : List Value) (k : Nat) : nx code ci cj (.ldc2_w k) 3 pc L st = gC (fnd cj k) fun v => go (pc + 3) L (.long v :: st) := rfl
theorem n_iadd (code : ByteArray) (ci : List (Nat × Int32)) (cj : List (Nat × Int64)) (pc : Nat) (L : List Slot) (st : List Value)  : nx code ci cj (.iadd) 1 pc L st = pII st fun x y r => go (pc + 1) L (.int (x + y) :: r) := rfl
theorem n_isub (code : ByteArray) (ci : List (Nat × Int32)) (cj : List (Nat × Int64)) (pc : Nat) (L : List Slot) (st : List Value)  : nx code ci cj (.isub) 1 pc L st = pII st fun x y r => go (pc + 1) L (.int (x - y) :: r) := rfl
theorem n_imul (code : ByteArray) (ci : List (Nat × Int32)) (cj : List (Nat × Int64)) (pc : Nat) (L : List Slot) (st : List Value)  : nx code ci cj (.imul) 1 pc L st = pII st fun x y r => go (pc + 1) L (.int (x * y) :: r) := rfl
theorem n_idiv (code : ByteArray) (ci : List (Nat × Int32)) (cj : List (Nat × Int64)) (pc : Nat) (L : List Slot) (st : List Value)  : nx code ci cj (.idiv) 1 pc L st = pII st fun x y r => goIf (y ≠ 0) (pc + 1) L (.int (x / y) :: r) := rfl
theorem n_irem (code : ByteArray) (ci : List (Nat × Int32)) (cj : List (Nat × Int64)) (pc : Nat) (L : List Slot) (st : List Value)  : nx code ci cj (.irem) 1 pc L st = pII st fun x y r => goIf (y ≠ 0) (pc + 1) L (.int (x - (x / y) * y) :: r) := rfl
theorem n_iand (code : ByteArray) (ci : List (Nat × Int32)) (cj : List (Nat × Int64)) (pc : Nat) (L : List Slot) (st : List Value)  : nx code ci cj (.iand) 1 pc L st = pII st fun x y r => go (pc + 1) L (.int (x &&& y) :: r) := rfl
theorem n_ior (code : ByteArray) (ci : List (Nat × Int32)) (cj : List (Nat × Int64)) (pc : Nat) (L : List Slot) (st : List Value)  : nx code ci cj (.ior) 1 pc L st = pII st fun x y r => go (pc + 1) L (.int (x ||| y) :: r) := rfl
theorem n_ixor (code : ByteArray) (ci : List (Nat × Int32)) (cj : List (Nat × Int64)) (pc : Nat) (L : List Slot) (st : List Value)  : nx code ci cj (.ixor) 1 pc L st = pII st fun x y r => go (pc + 1) L (.int (x ^^^ y) :: r) := rfl
theorem n_ishl (code : ByteArray) (ci : List (Nat × Int32)) (cj : List (Nat × Int64)) (pc : Nat) (L : List Slot) (st : List Value)  : nx code ci cj (.ishl) 1 pc L st = pII st fun x y r => go (pc + 1) L (.int (oshl x y) :: r) := rfl
theorem n_ishr (code : ByteArray) (ci : List (Nat × Int32)) (cj : List (Nat × Int64)) (pc : Nat) (L : List Slot) (st : List Value)  : nx code ci cj (.ishr) 1 pc L st = pII st fun x y r => go (pc + 1) L (.int (oshr x y) :: r) := rfl
theorem n_iushr (code : ByteArray) (ci : List (Nat × Int32)) (cj : List (Nat × Int64)) (pc : Nat) (L : List Slot) (st : List Value)  : nx code ci cj (.iushr) 1 pc L st = pII st fun x y r => go (pc + 1) L (.int (oushr x y) :: r) := rfl
theorem n_ladd (code : ByteArray) (ci : List (Nat × Int32)) (cj : List (Nat × Int64)) (pc : Nat) (L : List Slot) (st : List Value)  : nx code ci cj (.ladd) 1 pc L st = pJJ st fun x y r => go (pc + 1) L (.long (x + y) :: r) := rfl
theorem n_lsub (code : ByteArray) (ci : List (Nat × Int32)) (cj : List (Nat × Int64)) (pc : Nat) (L : List Slot) (st : List Value)  : nx code ci cj (.lsub) 1 pc L st = pJJ st fun x y r => go (pc + 1) L (.long (x - y) :: r) := rfl
theorem n_lmul (code : ByteArray) (ci : List (Nat × Int32)) (cj : List (Nat × Int64)) (pc : Nat) (L : List Slot) (st : List Value)  : nx code ci cj (.lmul) 1 pc L st = pJJ st fun x y r => go (pc + 1) L (.long (x * y) :: r) := rfl
theorem n_ldiv (code : ByteArray) (ci : List (Nat × Int32)) (cj : List (Nat × Int64)) (pc : Nat) (L : List Slot) (st : List Value)  : nx code ci cj (.ldiv) 1 pc L st = pJJ st fun x y r => goIf (y ≠ 0) (pc + 1) L (.long (x / y) :: r) := rfl
theorem n_lrem (code : ByteArray) (ci : List (Nat × Int32)) (cj : List (Nat × Int64)) (pc : Nat) (L : List Slot) (st : List Value)  : nx code ci cj (.lrem) 1 pc L st = pJJ st fun x y r => goIf (y ≠ 0) (pc + 1) L (.long (x - (x / y) * y) :: r) := rfl
theorem n_land (code : ByteArray) (ci : List (Nat × Int32)) (cj : List (Nat × Int64)) (pc : Nat) (L : List Slot) (st : List Value)  : nx code ci cj (.land) 1 pc L st = pJJ st fun x y r => go (pc + 1) L (.long (x &&& y) :: r) := rfl
theorem n_lor (code : ByteArray) (ci : List (Nat × Int32)) (cj : List (Nat × Int64)) (pc : Nat) (L : List Slot) (st : List Value)  : nx code ci cj (.lor) 1 pc L st = pJJ st fun x y r => go (pc + 1) L (.long (x ||| y) :: r) := rfl
theorem n_lxor (code : ByteArray) (ci : List (Nat × Int32)) (cj : List (Nat × Int64)) (pc : Nat) (L : List Slot) (st : List Value)  : nx code ci cj (.lxor) 1 pc L st = pJJ st fun x y r => go (pc + 1) L (.long (x ^^^ y) :: r) := rfl
theorem n_lshl (code : ByteArray) (ci : List (Nat × Int32)) (cj : List (Nat × Int64)) (pc : Nat) (L : List Slot) (st : List Value)  : nx code ci cj (.lshl) 1 pc L st = pJI st fun x y r => go (pc + 1) L (.long (oshlL x y) :: r) := rfl
theorem n_lushr (code : ByteArray) (ci : List (Nat × Int32)) (cj : List (Nat × Int64)) (pc : Nat) (L : List Slot) (st : List Value)  : nx code ci cj (.lushr) 1 pc L st = pJI st fun x y r => go (pc + 1) L (.long (oushrL x y) :: r) := rfl
theorem n_i2l (code : ByteArray) (ci : List (Nat × Int32)) (cj : List (Nat × Int64)) (pc : Nat) (L : List Slot) (st : List Value)  : nx code ci cj (.i2l) 1 pc L st = pI st fun x r => go (pc + 1) L (.long x.toInt64 :: r) := rfl
theorem n_l2i (code : ByteArray) (ci : List (Nat × Int32)) (cj : List (Nat × Int64)) (pc : Nat) (L : List Slot) (st : List Value)  : nx code ci cj (.l2i) 1 pc L st = pJ st fun x r => go (pc + 1) L (.int x.toInt32 :: r) := rfl
theorem n_i2b (code : ByteArray) (ci : List (Nat × Int32)) (cj : List (Nat × Int64)) (pc : Nat) (L : List Slot) (st : List Value)  : nx code ci cj (.i2b) 1 pc L st = pI st fun x r => go (pc + 1) L (.int x.toInt8.toInt32 :: r) := rfl
theorem n_i2c (code : ByteArray) (ci : List (Nat × Int32)) (cj : List (Nat × Int64)) (pc : Nat) (L : List Slot) (st : List Value)  : nx code ci cj (.i2c) 1 pc L st = pI st fun x r => go (pc + 1) L (.int x.toUInt32.toUInt16.toUInt32.toInt32 :: r) := rfl
theorem n_iinc (code : ByteArray) (ci : List (Nat × Int32)) (cj : List (Nat × Int64)) (pc : Nat) (L : List Slot) (st : List Value) (k : Nat) (cst : Int) : nx code ci cj (.iinc k cst) 3 pc L st = gI (lget L k) fun x => st1 L k (.int (x + Int32.ofInt cst)) (fun L' => go (pc + 3) L' st) none := rfl
theorem n_goto (code : ByteArray) (ci : List (Nat × Int32)) (cj : List (Nat × Int64)) (pc : Nat) (L : List Slot) (st : List Value) (o : Int) : nx code ci cj (.goto o) 3 pc L st = okO pc o (go (tgt pc o) L st) := rfl
theorem n_ifCond (code : ByteArray) (ci : List (Nat × Int32)) (cj : List (Nat × Int64)) (pc : Nat) (L : List Slot) (st : List Value) (cd : ClassFile.Cond) (o : Int) : nx code ci cj (.ifCond cd o) 3 pc L st = okO pc o (pI st fun x r => fork (cnd cd x 0) (tgt pc o) (pc + 3) L r) := rfl
theorem n_if_icmp (code : ByteArray) (ci : List (Nat × Int32)) (cj : List (Nat × Int64)) (pc : Nat) (L : List Slot) (st : List Value) (cd : ClassFile.Cond) (o : Int) : nx code ci cj (.if_icmp cd o) 3 pc L st = okO pc o (pII st fun x y r => fork (cnd cd x y) (tgt pc o) (pc + 3) L r) := rfl
theorem n_lcmp (code : ByteArray) (ci : List (Nat × Int32)) (cj : List (Nat × Int64)) (pc : Nat) (L : List Slot) (st : List Value)  : nx code ci cj (.lcmp) 1 pc L st = pJJ st fun x y r => gB (decode code (pc + 1)) fun cd o => okO (pc + 1) o (fork (cndL cd x y) (tgt (pc + 1) o) (pc + 4) L r) := rfl
theorem n_dup (code : ByteArray) (ci : List (Nat × Int32)) (cj : List (Nat × Int64)) (pc : Nat) (L : List Slot) (st : List Value)  : nx code ci cj (.dup) 1 pc L st = p1 st fun x r => go (pc + 1) L (x :: x :: r) := rfl
theorem n_pop (code : ByteArray) (ci : List (Nat × Int32)) (cj : List (Nat × Int64)) (pc : Nat) (L : List Slot) (st : List Value)  : nx code ci cj (.pop) 1 pc L st = p1 st fun _ r => go (pc + 1) L r := rfl
theorem n_invokestatic (code : ByteArray) (ci : List (Nat × Int32)) (cj : List (Nat × Int64)) (pc : Nat) (L : List Slot) (st : List Value) (k : Nat) (len : Nat) : nx code ci cj (.invokestatic k) len pc L st = none := rfl
theorem n_invokespecial (code : ByteArray) (ci : List (Nat × Int32)) (cj : List (Nat × Int64)) (pc : Nat) (L : List Slot) (st : List Value) (k : Nat) (len : Nat) : nx code ci cj (.invokespecial k) len pc L st = none := rfl
theorem n_invokevirtual (code : ByteArray) (ci : List (Nat × Int32)) (cj : List (Nat × Int64)) (pc : Nat) (L : List Slot) (st : List Value) (k : Nat) (len : Nat) : nx code ci cj (.invokevirtual k) len pc L st = none := rfl
theorem n_new (code : ByteArray) (ci : List (Nat × Int32)) (cj : List (Nat × Int64)) (pc : Nat) (L : List Slot) (st : List Value) (k : Nat) (len : Nat) : nx code ci cj (.new k) len pc L st = none := rfl
theorem n_newarray (code : ByteArray) (ci : List (Nat × Int32)) (cj : List (Nat × Int64)) (pc : Nat) (L : List Slot) (st : List Value) (k : ArrayType) (len : Nat) : nx code ci cj (.newarray k) len pc L st = none := rfl
theorem n_getfield (code : ByteArray) (ci : List (Nat × Int32)) (cj : List (Nat × Int64)) (pc : Nat) (L : List Slot) (st : List Value) (k : Nat) (len : Nat) : nx code ci cj (.getfield k) len pc L st = none := rfl
theorem n_getstatic (code : ByteArray) (ci : List (Nat × Int32)) (cj : List (Nat × Int64)) (pc : Nat) (L : List Slot) (st : List Value) (k : Nat) (len : Nat) : nx code ci cj (.getstatic k) len pc L st = none := rfl
theorem n_putstatic (code : ByteArray) (ci : List (Nat × Int32)) (cj : List (Nat × Int64)) (pc : Nat) (L : List Slot) (st : List Value) (k : Nat) (len : Nat) : nx code ci cj (.putstatic k) len pc L st = none := rfl
theorem n_putfield (code : ByteArray) (ci : List (Nat × Int32)) (cj : List (Nat × Int64)) (pc : Nat) (L : List Slot) (st : List Value) (k : Nat) (len : Nat) : nx code ci cj (.putfield k) len pc L st = none := rfl
theorem n_iaload (code : ByteArray) (ci : List (Nat × Int32)) (cj : List (Nat × Int64)) (pc : Nat) (L : List Slot) (st : List Value)  (len : Nat) : nx code ci cj (.iaload) len pc L st = none := rfl
theorem n_laload (code : ByteArray) (ci : List (Nat × Int32)) (cj : List (Nat × Int64)) (pc : Nat) (L : List Slot) (st : List Value)  (len : Nat) : nx code ci cj (.laload) len pc L st = none := rfl
theorem n_baload (code : ByteArray) (ci : List (Nat × Int32)) (cj : List (Nat × Int64)) (pc : Nat) (L : List Slot) (st : List Value)  (len : Nat) : nx code ci cj (.baload) len pc L st = none := rfl
theorem n_iastore (code : ByteArray) (ci : List (Nat × Int32)) (cj : List (Nat × Int64)) (pc : Nat) (L : List Slot) (st : List Value)  (len : Nat) : nx code ci cj (.iastore) len pc L st = none := rfl
theorem n_lastore (code : ByteArray) (ci : List (Nat × Int32)) (cj : List (Nat × Int64)) (pc : Nat) (L : List Slot) (st : List Value)  (len : Nat) : nx code ci cj (.lastore) len pc L st = none := rfl
theorem n_bastore (code : ByteArray) (ci : List (Nat × Int32)) (cj : List (Nat × Int64)) (pc : Nat) (L : List Slot) (st : List Value)  (len : Nat) : nx code ci cj (.bastore) len pc L st = none := rfl
theorem n_arraylength (code : ByteArray) (ci : List (Nat × Int32)) (cj : List (Nat × Int64)) (pc : Nat) (L : List Slot) (st : List Value)  (len : Nat) : nx code ci cj (.arraylength) len pc L st = none := rfl
theorem n_ireturn (code : ByteArray) (ci : List (Nat × Int32)) (cj : List (Nat × Int64)) (pc : Nat) (L : List Slot) (st : List Value)  (len : Nat) : nx code ci cj (.ireturn) len pc L st = none := rfl
theorem n_lreturn (code : ByteArray) (ci : List (Nat × Int32)) (cj : List (Nat × Int64)) (pc : Nat) (L : List Slot) (st : List Value)  (len : Nat) : nx code ci cj (.lreturn) len pc L st = none := rfl
theorem n_return_ (code : ByteArray) (ci : List (Nat × Int32)) (cj : List (Nat × Int64)) (pc : Nat) (L : List Slot) (st : List Value)  (len : Nat) : nx code ci cj (.return_) len pc L st = none := rfl
end
theorem r_wp0 (code : ByteArray) (ci : List (Nat × Int32)) (cj : List (Nat × Int64)) (stops : List Nat) (pc : Nat) (L : List Slot) (st : List Value) (K : Nat → List Slot → List Value → Prop) : wpo code ci cj stops 0 pc L st K = K pc L st := rfl
theorem r_wpS (code : ByteArray) (ci : List (Nat × Int32)) (cj : List (Nat × Int64)) (stops : List Nat) (n pc : Nat) (L : List Slot) (st : List Value) (K : Nat → List Slot → List Value → Prop) : wpo code ci cj stops (n + 1) pc L st K =
    match nxt code ci cj pc L st with
    | none => K pc L st
    | some (.inl (ob, a, L', st')) => ob ∧ stopAt stops a (K a L' st') (wpo code ci cj stops n a L' st' K)
    | some (.inr (c, a, b, L', st')) => (c → stopAt stops a (K a L' st') (wpo code ci cj stops n a L' st' K)) ∧ (¬ c → stopAt stops b (K b L' st') (wpo code ci cj stops n b L' st' K)) := Eq.trans rfl rfl
theorem r_nxt (code : ByteArray) (ci : List (Nat × Int32)) (cj : List (Nat × Int64)) (pc : Nat) (L : List Slot) (st : List Value) : nxt code ci cj pc L st = match decode code pc with | .ok r => nx code ci cj r.1 r.2 pc L st | .error _ => none := rfl
theorem r_stop0 (pc : Nat) (A B : Prop) : stopAt [] pc A B = B := rfl
theorem r_stopS (k : Nat) (t : List Nat) (pc : Nat) (A B : Prop) : stopAt (k :: t) pc A B = bif k == pc then A else stopAt t pc A B := rfl
theorem r_go (pc : Nat) (L : List Slot) (st : List Value) : go pc L st = some (.inl (True, pc, L, st)) := rfl
theorem r_goIf (ob : Prop) (pc : Nat) (L : List Slot) (st : List Value) : goIf ob pc L st = some (.inl (ob, pc, L, st)) := rfl
theorem r_fork (c : Prop) (a b : Nat) (L : List Slot) (st : List Value) : fork c a b L st = some (.inr (c, a, b, L, st)) := rfl
theorem r_tgt (pc : Nat) (o : Int) : tgt pc o = ((pc : Int) + o).toNat := rfl
theorem r_okO (pc : Nat) (o : Int) (r : Rs) : okO pc o r = if 0 ≤ (pc : Int) + o then r else none := rfl
theorem r_gI (v : Int32) (F : Int32 → Rs) : gI (some (.val (.int v))) F = F v := rfl
theorem r_gJ (v : Int64) (F : Int64 → Rs) : gJ (some (.val (.long v))) F = F v := rfl
theorem r_gA (v : Addr) (F : Value → Rs) : gA (some (.val (.ref v))) F = F (.ref v) := rfl
theorem r_pI (x : Int32) (r : List Value) (F : Int32 → List Value → Rs) : pI (.int x :: r) F = F x r := rfl
theorem r_pJ (x : Int64) (r : List Value) (F : Int64 → List Value → Rs) : pJ (.long x :: r) F = F x r := rfl
theorem r_pA (x : Addr) (r : List Value) (F : Value → List Value → Rs) : pA (.ref x :: r) F = F (.ref x) r := rfl
theorem r_p1r (x : Addr) (r : List Value) (F : Value → List Value → Rs) : p1 (.ref x :: r) F = F (.ref x) r := rfl
theorem r_p1i (x : Int32) (r : List Value) (F : Value → List Value → Rs) : p1 (.int x :: r) F = F (.int x) r := rfl
theorem r_pII (x y : Int32) (r : List Value) (F : Int32 → Int32 → List Value → Rs) : pII (.int y :: .int x :: r) F = F x y r := rfl
theorem r_pJJ (x y : Int64) (r : List Value) (F : Int64 → Int64 → List Value → Rs) : pJJ (.long y :: .long x :: r) F = F x y r := rfl
theorem r_pJI (x : Int64) (y : Int32) (r : List Value) (F : Int64 → Int32 → List Value → Rs) : pJI (.int y :: .long x :: r) F = F x y r := rfl
theorem r_fnd0 (k : Nat) : fnd ([] : List (Nat × α)) k = none := rfl
theorem r_fndS (j : Nat) (v : α) (t : List (Nat × α)) (k : Nat) : fnd ((j, v) :: t) k = bif j == k then some v else fnd t k := rfl
theorem r_gC (v : α) (F : α → Rs) : gC (some v) F = F v := rfl
theorem r_gC0 (F : α → Rs) : gC none F = none := rfl
theorem r_gB (cd : ClassFile.Cond) (o : Int) (F : ClassFile.Cond → Int → Rs) : gB (.ok (.ifCond cd o, 3)) F = F cd o := rfl
theorem r_st1 (L : List Slot) (k : Nat) (v : Value) (F : List Slot → Rs) (d : Rs) : st1 L k v F d = bif one (lget L k) then F (lput L k (.val v)) else d := rfl
theorem r_st2 (L : List Slot) (k : Nat) (v : Int64) (F : List Slot → Rs) (d : Rs) : st2 L k v F d = bif two (lget L k) (lget L (k + 1)) then F (lput (lput L k (.val (.long v))) (k + 1) .second) else d := rfl
theorem r_eq (x y : Int32) : cnd .eq x y = (x = y) := rfl
theorem r_ne (x y : Int32) : cnd .ne x y = (¬ x = y) := rfl
theorem r_lt (x y : Int32) : cnd .lt x y = (x < y) := rfl
theorem r_ge (x y : Int32) : cnd .ge x y = (¬ x < y) := rfl
theorem r_gt (x y : Int32) : cnd .gt x y = (y < x) := rfl
theorem r_le (x y : Int32) : cnd .le x y = (¬ y < x) := rfl
theorem r_eqL (x y : Int64) : cndL .eq x y = (x = y) := rfl
theorem r_neL (x y : Int64) : cndL .ne x y = (¬ x = y) := rfl
theorem r_ltL (x y : Int64) : cndL .lt x y = (x < y) := rfl
theorem r_geL (x y : Int64) : cndL .ge x y = (¬ x < y) := rfl
theorem r_gtL (x y : Int64) : cndL .gt x y = (y < x) := rfl
theorem r_leL (x y : Int64) : cndL .le x y = (¬ y < x) := rfl
theorem r_f0 : ((0 : Fin 4).val) = 0 := rfl
theorem r_f1 : ((1 : Fin 4).val) = 1 := rfl
theorem r_f2 : ((2 : Fin 4).val) = 2 := rfl
theorem r_f3 : ((3 : Fin 4).val) = 3 := rfl
theorem r_im1 : Int32.ofInt (-1) = -1 := rfl
theorem r_i0 : Int32.ofInt 0 = 0 := rfl
theorem r_i1 : Int32.ofInt 1 = 1 := rfl
theorem r_i2 : Int32.ofInt 2 = 2 := rfl
theorem r_i3 : Int32.ofInt 3 = 3 := rfl
theorem r_i4 : Int32.ofInt 4 = 4 := rfl
theorem r_i5 : Int32.ofInt 5 = 5 := rfl
theorem r_i7 : Int32.ofInt 7 = 7 := rfl
theorem r_l0 : Int64.ofNat ((0 : Fin 2).val) = 0 := rfl
theorem r_l1 : Int64.ofNat ((1 : Fin 2).val) = 1 := rfl
/-! contracts of bodies that only reckon, and the call of one -/
section
variable {l : Launch} {Z : State} {a0 : Array Value} {tb : List Jvm.Cond} {y : MethodName} {bytes : ByteArray} {maxL : Nat} {ret : Option FieldType} {ws : List Jvm.Cond} {as' : Array Value} {h0 : Heap} {ci : List (Nat × Int32)} {cj : List (Nat × Int64)} {L0 : List Slot} {stops : List Nat} {n : Nat}
def room0 : Room := { frames := 0, cells := 0, slots := 0, locals := 0 }
def PureQ (V : Value) (h0 : Heap) (v : Option Value) (h : Heap) (L : List Loc) : Prop := v = some V ∧ L = [] ∧ h = h0
abbrev Pays (l : Launch) (Z : State) (y : MethodName) (bytes : ByteArray) (maxL : Nat) (ret : Option FieldType) (ws : List Jvm.Cond) (as' : Array Value) (h0 : Heap) (V : Value) : Prop :=
  MetFree l y (head1 (Jvm.Cond.code y bytes maxL ret :: ws) room0) (fun a U => a = as' ∧ Z.Warmed39 U.vm ∧ U.heap = h0) (fun _ _ _ _ _ => True) (fun _ U o U' => ∃ v L, o = .returned v ∧ PureQ V h0 v U'.heap L ∧ FrameEnd U o U' L room0.cells room0.slots)
theorem pureI (hpn : plainName y.cls = true) (hw : ∀ d ∈ tb, d.before a0 Z = true) (hci : ∀ q ∈ ci, Jvm.Cond.constant y.cls q.1 q.2 ∈ tb) (hcj : ∀ q ∈ cj, Jvm.Cond.constantLong y.cls q.1 q.2 ∈ tb) (hef : ∀ m, entryFrame m as' maxL = mkF m 0 L0.toArray []) (hret : ret = some .int) {z : Int32}
    (h : wpo bytes ci cj stops n 0 L0 [] (fun a _ u => decode bytes a = .ok (.ireturn, 1) ∧ u = [.int z])) : Pays l Z y bytes maxL ret ws as' h0 (.int z) := by
  refine MetFree.of_bodySF (plainFor_of_name hpn) hisR ?_
  intro p e s m args below meth c s₁ Bd hml0 hP hK
  obtain ⟨rfl, hZ, hh⟩ := hP
  have hown : s.vm.findClass y.cls = some m.cls := findClass_of_methodNamed Bd.named
  have X0 : Stand p l e room0 s m args below meth c s₁ [] 0 0 := Stand.of_body Bd
  have e0 : s₁.heap = h0 := by rw [← hh, Bd.state]; rfl
  obtain ⟨fs, hr, hrun, hended, hW, hsame⟩ := X0.leave (v := some (.int z)) (fun h => by rw [Bd.returns, hret] at h; cases h)
  refine ⟨_, _, castTop (hef m) ?_, hrun, hended, _, _, rfl, ?_, ⟨_, rfl⟩, hW, hsame.mono (by decide) (by decide)⟩
  · exact endI X0 Bd.exec Bd.bytes hown (cI hZ hw hci) (cJ hZ hw hcj) h (Bd.returns.trans hret) hr
  · exact ⟨rfl, rfl, e0⟩
theorem pureN {t : FieldType} (ht : t = .boolean ∨ t = .byte ∨ t = .char ∨ t = .short) (hpn : plainName y.cls = true) (hw : ∀ d ∈ tb, d.before a0 Z = true) (hci : ∀ q ∈ ci, Jvm.Cond.constant y.cls q.1 q.2 ∈ tb) (hcj : ∀ q ∈ cj, Jvm.Cond.constantLong y.cls q.1 q.2 ∈ tb) (hef : ∀ m, entryFrame m as' maxL = mkF m 0 L0.toArray []) (hret : ret = some t) {z : Int32} (hz : nar t z = z)
    (h : wpo bytes ci cj stops n 0 L0 [] (fun a _ u => decode bytes a = .ok (.ireturn, 1) ∧ u = [.int z])) : Pays l Z y bytes maxL ret ws as' h0 (.int z) := by
  refine MetFree.of_bodySF (plainFor_of_name hpn) hisR ?_
  intro p e s m args below meth c s₁ Bd hml0 hP hK
  obtain ⟨rfl, hZ, hh⟩ := hP
  have hown : s.vm.findClass y.cls = some m.cls := findClass_of_methodNamed Bd.named
  have X0 : Stand p l e room0 s m args below meth c s₁ [] 0 0 := Stand.of_body Bd
  have e0 : s₁.heap = h0 := by rw [← hh, Bd.state]; rfl
  obtain ⟨fs, hr, hrun, hended, hW, hsame⟩ := X0.leave (v := some (.int z)) (fun h => by rw [Bd.returns, hret] at h; cases h)
  refine ⟨_, _, castTop (hef m) ?_, hrun, hended, _, _, rfl, ?_, ⟨_, rfl⟩, hW, hsame.mono (by decide) (by decide)⟩
  · exact endN X0 Bd.exec Bd.bytes hown (cI hZ hw hci) (cJ hZ hw hcj) h (Bd.returns.trans hret) ht (by rw [hz]; exact hr)
  · exact ⟨rfl, rfl, e0⟩
theorem pureJ (hpn : plainName y.cls = true) (hw : ∀ d ∈ tb, d.before a0 Z = true) (hci : ∀ q ∈ ci, Jvm.Cond.constant y.cls q.1 q.2 ∈ tb) (hcj : ∀ q ∈ cj, Jvm.Cond.constantLong y.cls q.1 q.2 ∈ tb) (hef : ∀ m, entryFrame m as' maxL = mkF m 0 L0.toArray []) (hret : ret = some .long) {z : Int64}
    (h : wpo bytes ci cj stops n 0 L0 [] (fun a _ u => decode bytes a = .ok (.lreturn, 1) ∧ u = [.long z])) : Pays l Z y bytes maxL ret ws as' h0 (.long z) := by
  refine MetFree.of_bodySF (plainFor_of_name hpn) hisR ?_
  intro p e s m args below meth c s₁ Bd hml0 hP hK
  obtain ⟨rfl, hZ, hh⟩ := hP
  have hown : s.vm.findClass y.cls = some m.cls := findClass_of_methodNamed Bd.named
  have X0 : Stand p l e room0 s m args below meth c s₁ [] 0 0 := Stand.of_body Bd
  have e0 : s₁.heap = h0 := by rw [← hh, Bd.state]; rfl
  obtain ⟨fs, hr, hrun, hended, hW, hsame⟩ := X0.leave (v := some (.long z)) (fun h => by rw [Bd.returns, hret] at h; cases h)
  refine ⟨_, _, castTop (hef m) ?_, hrun, hended, _, _, rfl, ?_, ⟨_, rfl⟩, hW, hsame.mono (by decide) (by decide)⟩
  · exact endJ X0 Bd.exec Bd.bytes hown (cI hZ hw hci) (cJ hZ hw hcj) h (Bd.returns.trans hret) hr
  · exact ⟨rfl, rfl, e0⟩
variable {p : Program} {e : Env} {R : Room} {s : State} {m : MethodId} {args : Array Value} {below : List Frame} {meth : Method} {c : Code} {T : State} {locs : List Loc} {cells slots : Nat} {own : String} {V : Value}
/-- the call of a static body that only reckons: the state moves, its heap doesn't -/
theorem callPure (X : Stand p l e R s m args below meth c T locs cells slots) (hx : p.tables.exec = Jvm.exec) (hZ : Z.Warmed39 s.vm) (hown : s.vm.findClass own = some m.cls) {index : Nat}
    (w1 : (Jvm.Cond.methodLink own index y).before a0 Z = true) (w2 : (Jvm.Cond.static y).before a0 Z = true) (w3 : (Jvm.Cond.initialized y.cls).before a0 Z = true) (w4 : (Jvm.Cond.code y bytes maxL ret).before a0 Z = true) (hy : y.cls ≠ "java/lang/invoke/MethodHandle" ∧ y.cls ≠ "java/lang/invoke/VarHandle")
    {h : Heap} (eT : T.heap = h) {argsL rest : List Value} (hM : Pays l Z y bytes maxL ret [] argsL.toArray h V) {W : Nat} (hf : 1 ≤ R.frames) (hl : W + (maxL + 11) ≤ R.locals) (hcl : cells ≤ R.cells) (hsl : slots ≤ R.slots)
    {pc : Nat} {Ls : Array Slot} {st : List Value} (hsize : Ls.size = c.maxLocals) (hlen : ∀ sig, parseMethodDescriptor y.desc = some sig → argsL.length = sig.parameters.length) (hst : st = argsL.reverse ++ rest) (hW : (rest.map fun v => v.category).sum ≤ W) (hd : decode c.code pc = .ok (.invokestatic index, 3)) :
    ∃ T', Stand p l e R s m args below meth c T' locs cells slots ∧ T'.heap = h ∧ ∀ target, Steps p.tables e below (T'.setTop (mkF m (pc + 3) Ls (V :: rest))) target → Steps p.tables e below (T.setTop (mkF m pc Ls st)) target := by
  obtain ⟨v, _, ⟨T5, L5, k5, n5⟩, -, X5, ⟨Lc5, hQ5, l5, y5, z5⟩, st5⟩ := Jvm.LawKit.callS X hx (y := y) hown (mvT hZ w1) (mvT hZ w2) (mvT hZ w3) (mvT hZ w4) hy (backOf (W := W) hM hZ w4 w3 hf hl) (g := mkF m pc Ls st) rfl hsize (argsL := argsL) (rest := rest) hlen hst (by show 2 * 0 + _ ≤ _; rw [Nat.mul_zero, Nat.zero_add]; exact hW) hd (fun _ _ => ⟨rfl, eT, hcl, hsl⟩)
  dsimp only [Pt.U, Pt.locs, Pt.cells, Pt.slots] at X5 l5 y5 z5 st5 hQ5
  obtain ⟨rfl, rfl, hq⟩ := hQ5
  subst y5 z5
  rw [List.append_nil] at l5
  subst l5
  exact ⟨T5, X5, hq, st5⟩
end
end Jvm.OwnRun
/-! OwnNum: shifts and remainders as integers -/
namespace Jvm.OwnRun
theorem nat32 (x : Int32) : (x.toBitVec.toNat : Int) = x.toInt % 4294967296 := by
  have h : x.toBitVec = BitVec.ofInt 32 x.toInt := (BitVec.ofInt_toInt (x := x.toBitVec)).symm
  have h2 := congrArg BitVec.toNat h
  rw [BitVec.toNat_ofInt] at h2
  omega
theorem nat64 (x : Int64) : (x.toBitVec.toNat : Int) = x.toInt % 18446744073709551616 := by
  have h : x.toBitVec = BitVec.ofInt 64 x.toInt := (BitVec.ofInt_toInt (x := x.toBitVec)).symm
  have h2 := congrArg BitVec.toNat h
  rw [BitVec.toNat_ofInt] at h2
  omega
theorem small32 (x : Int32) (h : x.toBitVec.toNat < 2147483648) : x.toInt = (x.toBitVec.toNat : Int) := by
  have h1 := nat32 x
  have h2 := x.toInt_lt
  have h3 := x.le_toInt
  omega
theorem small64 (x : Int64) (h : x.toBitVec.toNat < 9223372036854775808) : x.toInt = (x.toBitVec.toNat : Int) := by
  have h1 := nat64 x
  have h2 := x.toInt_lt
  have h3 := x.le_toInt
  omega
theorem bv_ushr (x y : Int32) {k : Nat} (hk : (y &&& 31).toBitVec.toNat = k) (h2 : k < 32) : (oushr x y).toBitVec = x.toBitVec >>> k := by
  have e : (oushr x y).toBitVec = x.toBitVec >>> ((y &&& 31).toBitVec % 32#32) := rfl
  rw [e, BitVec.ushiftRight_eq', BitVec.toNat_umod, hk]
  rw [show (32#32).toNat = 32 from rfl, Nat.mod_eq_of_lt h2]
theorem num_ushr (x y : Int32) {k : Nat} (hk : (y &&& 31).toBitVec.toNat = k) (h1 : 0 < k) (h2 : k < 32) : (oushr x y).toInt = x.toInt % 4294967296 / 2 ^ k := by
  have e := congrArg BitVec.toNat (bv_ushr x y hk h2)
  rw [BitVec.toNat_ushiftRight, Nat.shiftRight_eq_div_pow] at e
  have hp : 2 ≤ 2 ^ k := by
    obtain ⟨j, rfl⟩ : ∃ j, k = j + 1 := ⟨k - 1, by omega⟩
    have := Nat.one_le_two_pow (n := j)
    rw [Nat.pow_succ]; omega
  have hl : x.toBitVec.toNat / 2 ^ k ≤ x.toBitVec.toNat / 2 := Nat.div_le_div_left hp (by decide)
  have hx := x.toBitVec.isLt
  rw [small32 _ (by rw [e]; omega), e, ← nat32 x]
  simp
theorem bv_ushrL (x : Int64) (y : Int32) {k : Nat} (hk : (y &&& 0x3f).toInt64.toBitVec.toNat = k) (h2 : k < 64) : (oushrL x y).toBitVec = x.toBitVec >>> k := by
  have e : (oushrL x y).toBitVec = x.toBitVec >>> ((y &&& 0x3f).toInt64.toBitVec % 64#64) := rfl
  rw [e, BitVec.ushiftRight_eq', BitVec.toNat_umod, hk]
  rw [show (64#64).toNat = 64 from rfl, Nat.mod_eq_of_lt h2]
theorem num_ushrL (x : Int64) (y : Int32) {k : Nat} (hk : (y &&& 0x3f).toInt64.toBitVec.toNat = k) (h1 : 0 < k) (h2 : k < 64) : (oushrL x y).toInt = x.toInt % 18446744073709551616 / 2 ^ k := by
  have e := congrArg BitVec.toNat (bv_ushrL x y hk h2)
  rw [BitVec.toNat_ushiftRight, Nat.shiftRight_eq_div_pow] at e
  have hp : 2 ≤ 2 ^ k := by
    obtain ⟨j, rfl⟩ : ∃ j, k = j + 1 := ⟨k - 1, by omega⟩
    have := Nat.one_le_two_pow (n := j)
    rw [Nat.pow_succ]; omega
  have hl : x.toBitVec.toNat / 2 ^ k ≤ x.toBitVec.toNat / 2 := Nat.div_le_div_left hp (by decide)
  have hx := x.toBitVec.isLt
  rw [small64 _ (by rw [e]; omega), e, ← nat64 x]
  simp
theorem own_rem32 {x y : Int32} (hx : 0 ≤ x.toInt) (hy : 0 < y.toInt) : (x - x / y * y).toInt = x.toInt % y.toInt := by
  have hd : (x / y).toInt = x.toInt / y.toInt := by rw [Jvm.Kit.i32_div (by omega), Int.tdiv_eq_ediv_of_nonneg hx]
  have hn : 0 ≤ x.toInt / y.toInt := Int.ediv_nonneg hx (by omega)
  have hm : 0 ≤ x.toInt / y.toInt * y.toInt := Int.mul_nonneg hn (by omega)
  have hl : x.toInt / y.toInt * y.toInt ≤ x.toInt := Int.ediv_mul_le _ (by omega)
  have hX := x.toInt_lt
  have e1 : (x / y * y).toInt = x.toInt / y.toInt * y.toInt := by rw [Jvm.Kit.i32_mul (by rw [hd]; omega) (by rw [hd]; omega), hd]
  rw [Jvm.Kit.i32_sub (by rw [e1]; omega) (by rw [e1]; omega), e1, Int.emod_def, Int.mul_comm]
theorem own_rem64 {x y : Int64} (hx : 0 ≤ x.toInt) : (x - x / y * y).toInt = x.toInt % y.toInt := Jvm.Kit.i64_rem_nonneg hx
theorem idx32 {j : Int32} {k : Nat} (h : j.toInt = k) : ¬ j < 0 ∧ j.toNatClampNeg = k := by
  refine ⟨fun q => ?_, ?_⟩
  · rw [Int32.lt_iff_toInt_lt] at q
    have t : (0 : Int32).toInt = 0 := rfl
    omega
  · show j.toInt.toNat = k
    omega
end Jvm.OwnRun
/-! OwnArr: an array by what each place holds -/
namespace Jvm.OwnRun
open Sem ClassFile Op Lib Jvm.Stand Jvm.Free Jvm.LawKit Jvm.RoadKit
def oupd {α : Type} (f : Nat → α) (i : Nat) (v : α) (k : Nat) : α := if k = i then v else f k
def Ary (Z : State) (h : Heap) (a : Addr) (ty : FieldType) (n : Nat) (f : Nat → Value) : Prop := ∃ c : Cell, Arr Z h a c ty ∧ c.slots.size = n ∧ ∀ k, k < n → c.slots[k]? = some (f k)
abbrev AI (Z : State) (h : Heap) (a : Addr) (ty : FieldType) (n : Nat) (g : Nat → Int32) : Prop := Ary Z h a ty n (fun k => .int (g k))
abbrev AJ (Z : State) (h : Heap) (a : Addr) (n : Nat) (g : Nat → Int64) : Prop := Ary Z h a .long n (fun k => .long (g k))
section
variable {Z : State} {h h' : Heap} {a b : Addr} {ty : FieldType} {n i : Nat} {f : Nat → Value} {v : Value} {ws : List Addr}
theorem Ary.lt (A : Ary Z h a ty n f) : a < h.size := by obtain ⟨c, A, -⟩ := A; exact A.lt
theorem Ary.ext (A : Ary Z h a ty n f) (E : Ext h h') : Ary Z h' a ty n f := by obtain ⟨c, A, r⟩ := A; exact ⟨c, A.ext E, r⟩
theorem Ary.keep (A : Ary Z h a ty n f) (K : Keep h h' ws) (q : a ∉ ws) : Ary Z h' a ty n f := by obtain ⟨c, A, r⟩ := A; exact ⟨c, ⟨K.2.1 a c A.1 q, A.2⟩, r⟩
theorem Ary.set (A : Ary Z h a ty n f) (W : Wr h h' a i v) : Ary Z h' a ty n (oupd f i v) := by
  obtain ⟨c, A, S, H⟩ := A
  refine ⟨_, Arr.same W A, by rw [sz_set]; exact S, fun k hk => ?_⟩
  unfold oupd
  by_cases u : k = i
  · subst u
    have q : k < c.slots.size := by rw [S]; exact hk
    show (c.slots.setIfInBounds k v)[k]? = _
    rw [Array.getElem?_setIfInBounds_self_of_lt q, if_pos rfl]
  · show (c.slots.setIfInBounds i v)[k]? = _
    rw [Array.getElem?_setIfInBounds_ne (fun q => u q.symm), if_neg u]
    exact H k hk
theorem Ary.cast {f' : Nat → Value} (A : Ary Z h a ty n f) (q : ∀ k, k < n → f k = f' k) : Ary Z h a ty n f' := by
  obtain ⟨c, A, S, H⟩ := A
  exact ⟨c, A, S, fun k hk => (q k hk) ▸ H k hk⟩
theorem oupd_int (g : Nat → Int32) (i : Nat) (x : Int32) : oupd (fun k => Value.int (g k)) i (.int x) = fun k => .int (oupd g i x k) := by
  funext k; unfold oupd; split <;> rfl
theorem oupd_long (g : Nat → Int64) (i : Nat) (x : Int64) : oupd (fun k => Value.long (g k)) i (.long x) = fun k => .long (oupd g i x k) := by
  funext k; unfold oupd; split <;> rfl
end
section
variable {p : Program} {l : Launch} {e : Env} {R : Room} {s : State} {m : MethodId} {args : Array Value} {below : List Frame} {meth : Method} {c : Code} {T : State} {locs : List Loc} {cells slots : Nat} {Z : State} {n i n0 : Nat} {a : Addr} {j : Int32} {pc : Nat} {Ls : Array Slot} {rest st : List Value} {a0 : Array Value}
theorem in_of {c : Cell} (S : c.slots.size = n) (h0 : ¬ j < 0) (hj : j.toNatClampNeg = i) (hi : i < n) : ¬ (j < 0 ∨ c.slots.size ≤ j.toNatClampNeg) := fun q => q.elim h0 (fun q => by rw [S, hj] at q; omega)
/-- newarray of a length that is written out -/
theorem mkArr (X : Stand p l e R s m args below meth c T locs cells slots) (hx : p.tables.exec = Jvm.exec) (hZ : Z.Warmed39 s.vm) {aty : ArrayType} (w : (Jvm.Cond.arrayClass (newarray.typeOf aty)).before a0 Z = true) (Z0 : n0 ≤ T.heap.size) (hd : decode c.code pc = .ok (.newarray aty, 2)) {z : Int32} (hz : ¬ z < 0) (hn : z.toNatClampNeg = n) (hb : n * 8 ≤ 536870912) (hc : cells + 1 ≤ R.cells) (hl : slots + n ≤ R.slots) :
    ∃ T' b, Stand p l e R s m args below meth c T' locs (cells + 1) (slots + n) ∧ n0 ≤ b ∧ T.heap.size ≤ b ∧ Ext T.heap T'.heap ∧ Ary Z T'.heap b (newarray.typeOf aty) n (fun _ => defaultValue (newarray.typeOf aty)) ∧ n0 ≤ T'.heap.size ∧ ∀ t, Steps p.tables e below (T'.setTop (mkF m (pc + 2) Ls (.ref b :: rest))) t → Steps p.tables e below (T.setTop (mkF m pc Ls (.int z :: rest))) t := by
  obtain ⟨T', h', cA, X', e', E, A, st⟩ := newP X hx hZ w rfl (g := mkF m pc Ls (.int z :: rest)) rfl hd rfl hz (cap := n) (Nat.le_of_eq hn) hb hc hl
  subst e'
  refine ⟨T', _, X', Z0, Nat.le_refl _, E, ⟨_, A, by rw [sz_new, hn], fun k hk => ?_⟩, Nat.le_trans Z0 E.1, st⟩
  rw [← hn] at hk
  simp [newA, hk]
theorem putI (X : Stand p l e R s m args below meth c T locs cells slots) (hx : p.tables.exec = Jvm.exec) (hZ : Z.Warmed39 s.vm) {g : Nat → Int32} (A : AI Z T.heap a .int n g) (h0 : ¬ j < 0) (hj : j.toNatClampNeg = i) (hi : i < n) (N : Fr n0 locs) (ga : n0 ≤ a) (x : Int32) (hd : decode c.code pc = .ok (.iastore, 1)) :
    ∃ T' locs', Stand p l e R s m args below meth c T' locs' cells slots ∧ Fr n0 locs' ∧ AI Z T'.heap a .int n (oupd g i x) ∧ Keep T.heap T'.heap [a] ∧ ∀ t, Steps p.tables e below (T'.setTop (mkF m (pc + 1) Ls rest)) t → Steps p.tables e below (T.setTop (mkF m pc Ls (.int x :: .int j :: .ref a :: rest))) t := by
  obtain ⟨cl, Ar, S, H⟩ := id A
  obtain ⟨T', h', X', e', W, st⟩ := stI X hx hZ rfl Ar (in_of S h0 hj hi) (g := mkF m pc Ls (.int x :: .int j :: .ref a :: rest)) rfl rfl hd
  subst e'
  refine ⟨T', _, X', Fr.snoc X' N ga, ?_, Keep.of_wr W, st⟩
  have q := A.set W
  rw [hj, oupd_int] at q
  exact q
theorem putB (X : Stand p l e R s m args below meth c T locs cells slots) (hx : p.tables.exec = Jvm.exec) (hZ : Z.Warmed39 s.vm) {g : Nat → Int32} (A : AI Z T.heap a .byte n g) (h0 : ¬ j < 0) (hj : j.toNatClampNeg = i) (hi : i < n) (N : Fr n0 locs) (ga : n0 ≤ a) (x : Int32) (hd : decode c.code pc = .ok (.bastore, 1)) :
    ∃ T' locs', Stand p l e R s m args below meth c T' locs' cells slots ∧ Fr n0 locs' ∧ AI Z T'.heap a .byte n (oupd g i x.toInt8.toInt32) ∧ Keep T.heap T'.heap [a] ∧ ∀ t, Steps p.tables e below (T'.setTop (mkF m (pc + 1) Ls rest)) t → Steps p.tables e below (T.setTop (mkF m pc Ls (.int x :: .int j :: .ref a :: rest))) t := by
  obtain ⟨cl, Ar, S, H⟩ := id A
  obtain ⟨T', h', X', e', W, st⟩ := stB X hx hZ rfl Ar (in_of S h0 hj hi) (g := mkF m pc Ls (.int x :: .int j :: .ref a :: rest)) rfl rfl hd
  subst e'
  refine ⟨T', _, X', Fr.snoc X' N ga, ?_, Keep.of_wr W, st⟩
  have q := A.set W
  rw [hj, oupd_int] at q
  exact q
theorem putJ (X : Stand p l e R s m args below meth c T locs cells slots) (hx : p.tables.exec = Jvm.exec) (hZ : Z.Warmed39 s.vm) {g : Nat → Int64} (A : AJ Z T.heap a n g) (h0 : ¬ j < 0) (hj : j.toNatClampNeg = i) (hi : i < n) (N : Fr n0 locs) (ga : n0 ≤ a) (x : Int64) (hd : decode c.code pc = .ok (.lastore, 1)) :
    ∃ T' locs', Stand p l e R s m args below meth c T' locs' cells slots ∧ Fr n0 locs' ∧ AJ Z T'.heap a n (oupd g i x) ∧ Keep T.heap T'.heap [a] ∧ ∀ t, Steps p.tables e below (T'.setTop (mkF m (pc + 1) Ls rest)) t → Steps p.tables e below (T.setTop (mkF m pc Ls (.long x :: .int j :: .ref a :: rest))) t := by
  obtain ⟨cl, Ar, S, H⟩ := id A
  obtain ⟨T', h', X', e', W, st⟩ := stJ X hx hZ rfl Ar (in_of S h0 hj hi) (g := mkF m pc Ls (.long x :: .int j :: .ref a :: rest)) rfl rfl hd
  subst e'
  refine ⟨T', _, X', Fr.snoc X' N ga, ?_, Keep.of_wr W, st⟩
  have q := A.set W
  rw [hj, oupd_long] at q
  exact q
theorem getI (X : Stand p l e R s m args below meth c T locs cells slots) (hx : p.tables.exec = Jvm.exec) (hZ : Z.Warmed39 s.vm) {g : Nat → Int32} (A : AI Z T.heap a .int n g) (h0 : ¬ j < 0) (hj : j.toNatClampNeg = i) (hi : i < n) (hd : decode c.code pc = .ok (.iaload, 1)) (t : State) (k : Steps p.tables e below (T.setTop (mkF m (pc + 1) Ls (.int (g i) :: rest))) t) : Steps p.tables e below (T.setTop (mkF m pc Ls (.int j :: .ref a :: rest))) t := by
  obtain ⟨cl, Ar, S, H⟩ := A
  exact X.iaload hx (v := .int (g i)) Ar.1 (State.isArrayOf_alike hZ.alike Ar.2.1) Ar.2.2 (in_of S h0 hj hi) (by rw [hj]; exact H i hi) (g := mkF m pc Ls (.int j :: .ref a :: rest)) rfl rfl hd _ k
theorem getB (X : Stand p l e R s m args below meth c T locs cells slots) (hx : p.tables.exec = Jvm.exec) (hZ : Z.Warmed39 s.vm) {g : Nat → Int32} (A : AI Z T.heap a .byte n g) (h0 : ¬ j < 0) (hj : j.toNatClampNeg = i) (hi : i < n) (hd : decode c.code pc = .ok (.baload, 1)) (t : State) (k : Steps p.tables e below (T.setTop (mkF m (pc + 1) Ls (.int (g i) :: rest))) t) : Steps p.tables e below (T.setTop (mkF m pc Ls (.int j :: .ref a :: rest))) t := by
  obtain ⟨cl, Ar, S, H⟩ := A
  exact X.baloadBytes hx (v := .int (g i)) Ar.1 (State.isArrayOf_alike hZ.alike Ar.2.1) Ar.2.2 (in_of S h0 hj hi) (by rw [hj]; exact H i hi) (g := mkF m pc Ls (.int j :: .ref a :: rest)) rfl rfl hd _ k
theorem getJ (X : Stand p l e R s m args below meth c T locs cells slots) (hx : p.tables.exec = Jvm.exec) (hZ : Z.Warmed39 s.vm) {g : Nat → Int64} (A : AJ Z T.heap a n g) (h0 : ¬ j < 0) (hj : j.toNatClampNeg = i) (hi : i < n) (hd : decode c.code pc = .ok (.laload, 1)) (t : State) (k : Steps p.tables e below (T.setTop (mkF m (pc + 1) Ls (.long (g i) :: rest))) t) : Steps p.tables e below (T.setTop (mkF m pc Ls (.int j :: .ref a :: rest))) t := by
  obtain ⟨cl, Ar, S, H⟩ := A
  exact X.laload hx (v := .long (g i)) Ar.1 (State.isArrayOf_alike hZ.alike Ar.2.1) Ar.2.2 (in_of S h0 hj hi) (by rw [hj]; exact H i hi) (g := mkF m pc Ls (.int j :: .ref a :: rest)) rfl rfl hd _ k
theorem lenA (X : Stand p l e R s m args below meth c T locs cells slots) (hx : p.tables.exec = Jvm.exec) (hZ : Z.Warmed39 s.vm) {ty : FieldType} {f : Nat → Value} (A : Ary Z T.heap a ty n f) (hd : decode c.code pc = .ok (.arraylength, 1)) (t : State) (k : Steps p.tables e below (T.setTop (mkF m (pc + 1) Ls (.int n.toInt32 :: rest))) t) : Steps p.tables e below (T.setTop (mkF m pc Ls (.ref a :: rest))) t := by
  obtain ⟨cl, Ar, S, H⟩ := A
  subst S
  exact X.arraylength hx (cell := cl) Ar.1 (State.isArrayOf_alike hZ.alike Ar.2.1) (g := mkF m pc Ls (.ref a :: rest)) rfl (rest := rest) rfl hd _ k
end
end Jvm.OwnRun
namespace Jvm.Pilot.@@N@@
open Jvm Jvm.ClassFile Sem Op Lib Jvm.Free Jvm.Stand Jvm.LawKit Jvm.RoadKit Bundle Jvm.Pilot.@@N@@.Jvm.D Jvm.OwnRun

theorem d1_0 : decode method_2_code 0 = .ok (.ldc2_w 9, 3) := by decide +kernel
theorem d1_3 : decode method_2_code 3 = .ok (.iload_n 0, 1) := by decide +kernel
theorem d1_4 : decode method_2_code 4 = .ok (.i2l, 1) := by decide +kernel
theorem d1_5 : decode method_2_code 5 = .ok (.lsub, 1) := by decide +kernel
theorem d1_6 : decode method_2_code 6 = .ok (.lstore_n 2, 1) := by decide +kernel
theorem d1_7 : decode method_2_code 7 = .ok (.iload_n 0, 1) := by decide +kernel
theorem d1_8 : decode method_2_code 8 = .ok (.i2l, 1) := by decide +kernel
theorem d1_9 : decode method_2_code 9 = .ok (.lconst 1, 1) := by decide +kernel
theorem d1_10 : decode method_2_code 10 = .ok (.ladd, 1) := by decide +kernel
theorem d1_11 : decode method_2_code 11 = .ok (.iload_n 1, 1) := by decide +kernel
theorem d1_12 : decode method_2_code 12 = .ok (.i2l, 1) := by decide +kernel
theorem d1_13 : decode method_2_code 13 = .ok (.ldc2_w 9, 3) := by decide +kernel
theorem d1_16 : decode method_2_code 16 = .ok (.land, 1) := by decide +kernel
theorem d1_17 : decode method_2_code 17 = .ok (.lload_n 2, 1) := by decide +kernel
theorem d1_18 : decode method_2_code 18 = .ok (.lrem, 1) := by decide +kernel
theorem d1_19 : decode method_2_code 19 = .ok (.ladd, 1) := by decide +kernel
theorem d1_20 : decode method_2_code 20 = .ok (.l2i, 1) := by decide +kernel
theorem d1_21 : decode method_2_code 21 = .ok (.ireturn, 1) := by decide +kernel
theorem d2_0 : decode prog_86_method_16_code 0 = .ok (.iload_n 0, 1) := by decide +kernel
theorem d2_1 : decode prog_86_method_16_code 1 = .ok (.aload_n 3, 1) := by decide +kernel
theorem d2_2 : decode prog_86_method_16_code 2 = .ok (.iconst 0, 1) := by decide +kernel
theorem d2_3 : decode prog_86_method_16_code 3 = .ok (.iaload, 1) := by decide +kernel
theorem d2_4 : decode prog_86_method_16_code 4 = .ok (.if_icmp .eq 56, 3) := by decide +kernel
theorem d2_7 : decode prog_86_method_16_code 7 = .ok (.aload 4, 2) := by decide +kernel
theorem d2_9 : decode prog_86_method_16_code 9 = .ok (.iconst 0, 1) := by decide +kernel
theorem d2_10 : decode prog_86_method_16_code 10 = .ok (.iload_n 0, 1) := by decide +kernel
theorem d2_11 : decode prog_86_method_16_code 11 = .ok (.aload_n 3, 1) := by decide +kernel
theorem d2_12 : decode prog_86_method_16_code 12 = .ok (.iconst 0, 1) := by decide +kernel
theorem d2_13 : decode prog_86_method_16_code 13 = .ok (.iaload, 1) := by decide +kernel
theorem d2_14 : decode prog_86_method_16_code 14 = .ok (.isub, 1) := by decide +kernel
theorem d2_15 : decode prog_86_method_16_code 15 = .ok (.i2l, 1) := by decide +kernel
theorem d2_16 : decode prog_86_method_16_code 16 = .ok (.iconst 1, 1) := by decide +kernel
theorem d2_17 : decode prog_86_method_16_code 17 = .ok (.lshl, 1) := by decide +kernel
theorem d2_18 : decode prog_86_method_16_code 18 = .ok (.lconst 1, 1) := by decide +kernel
theorem d2_19 : decode prog_86_method_16_code 19 = .ok (.lor, 1) := by decide +kernel
theorem d2_20 : decode prog_86_method_16_code 20 = .ok (.lastore, 1) := by decide +kernel
theorem d2_21 : decode prog_86_method_16_code 21 = .ok (.aload 4, 2) := by decide +kernel
theorem d2_23 : decode prog_86_method_16_code 23 = .ok (.iconst 1, 1) := by decide +kernel
theorem d2_24 : decode prog_86_method_16_code 24 = .ok (.iload_n 1, 1) := by decide +kernel
theorem d2_25 : decode prog_86_method_16_code 25 = .ok (.i2l, 1) := by decide +kernel
theorem d2_26 : decode prog_86_method_16_code 26 = .ok (.iconst 1, 1) := by decide +kernel
theorem d2_27 : decode prog_86_method_16_code 27 = .ok (.lshl, 1) := by decide +kernel
theorem d2_28 : decode prog_86_method_16_code 28 = .ok (.iload_n 2, 1) := by decide +kernel
theorem d2_29 : decode prog_86_method_16_code 29 = .ok (.ifCond .ne 7, 3) := by decide +kernel
theorem d2_32 : decode prog_86_method_16_code 32 = .ok (.iconst 0, 1) := by decide +kernel
theorem d2_33 : decode prog_86_method_16_code 33 = .ok (.goto 4, 3) := by decide +kernel
theorem d2_36 : decode prog_86_method_16_code 36 = .ok (.iconst 1, 1) := by decide +kernel
theorem d2_37 : decode prog_86_method_16_code 37 = .ok (.i2l, 1) := by decide +kernel
theorem d2_38 : decode prog_86_method_16_code 38 = .ok (.lor, 1) := by decide +kernel
theorem d2_39 : decode prog_86_method_16_code 39 = .ok (.lastore, 1) := by decide +kernel
theorem d2_40 : decode prog_86_method_16_code 40 = .ok (.aload 4, 2) := by decide +kernel
theorem d2_42 : decode prog_86_method_16_code 42 = .ok (.iconst 2, 1) := by decide +kernel
theorem d2_43 : decode prog_86_method_16_code 43 = .ok (.iload_n 2, 1) := by decide +kernel
theorem d2_44 : decode prog_86_method_16_code 44 = .ok (.i2l, 1) := by decide +kernel
theorem d2_45 : decode prog_86_method_16_code 45 = .ok (.lastore, 1) := by decide +kernel
theorem d2_46 : decode prog_86_method_16_code 46 = .ok (.iload_n 2, 1) := by decide +kernel
theorem d2_47 : decode prog_86_method_16_code 47 = .ok (.ifCond .ne 7, 3) := by decide +kernel
theorem d2_50 : decode prog_86_method_16_code 50 = .ok (.iconst 2, 1) := by decide +kernel
theorem d2_51 : decode prog_86_method_16_code 51 = .ok (.goto 4, 3) := by decide +kernel
theorem d2_54 : decode prog_86_method_16_code 54 = .ok (.iconst 3, 1) := by decide +kernel
theorem d2_55 : decode prog_86_method_16_code 55 = .ok (.istore 5, 2) := by decide +kernel
theorem d2_57 : decode prog_86_method_16_code 57 = .ok (.goto 53, 3) := by decide +kernel
theorem d2_60 : decode prog_86_method_16_code 60 = .ok (.iload_n 1, 1) := by decide +kernel
theorem d2_61 : decode prog_86_method_16_code 61 = .ok (.aload_n 3, 1) := by decide +kernel
theorem d2_62 : decode prog_86_method_16_code 62 = .ok (.iconst 1, 1) := by decide +kernel
theorem d2_63 : decode prog_86_method_16_code 63 = .ok (.iaload, 1) := by decide +kernel
theorem d2_64 : decode prog_86_method_16_code 64 = .ok (.if_icmp .eq 31, 3) := by decide +kernel
theorem d2_67 : decode prog_86_method_16_code 67 = .ok (.aload 4, 2) := by decide +kernel
theorem d2_69 : decode prog_86_method_16_code 69 = .ok (.iconst 0, 1) := by decide +kernel
theorem d2_70 : decode prog_86_method_16_code 70 = .ok (.iload_n 1, 1) := by decide +kernel
theorem d2_71 : decode prog_86_method_16_code 71 = .ok (.aload_n 3, 1) := by decide +kernel
theorem d2_72 : decode prog_86_method_16_code 72 = .ok (.iconst 1, 1) := by decide +kernel
theorem d2_73 : decode prog_86_method_16_code 73 = .ok (.iaload, 1) := by decide +kernel
theorem d2_74 : decode prog_86_method_16_code 74 = .ok (.isub, 1) := by decide +kernel
theorem d2_75 : decode prog_86_method_16_code 75 = .ok (.i2l, 1) := by decide +kernel
theorem d2_76 : decode prog_86_method_16_code 76 = .ok (.iconst 2, 1) := by decide +kernel
theorem d2_77 : decode prog_86_method_16_code 77 = .ok (.lshl, 1) := by decide +kernel
theorem d2_78 : decode prog_86_method_16_code 78 = .ok (.ldc2_w 73, 3) := by decide +kernel
theorem d2_81 : decode prog_86_method_16_code 81 = .ok (.lor, 1) := by decide +kernel
theorem d2_82 : decode prog_86_method_16_code 82 = .ok (.lastore, 1) := by decide +kernel
theorem d2_83 : decode prog_86_method_16_code 83 = .ok (.aload 4, 2) := by decide +kernel
theorem d2_85 : decode prog_86_method_16_code 85 = .ok (.iconst 1, 1) := by decide +kernel
theorem d2_86 : decode prog_86_method_16_code 86 = .ok (.iload_n 2, 1) := by decide +kernel
theorem d2_87 : decode prog_86_method_16_code 87 = .ok (.i2l, 1) := by decide +kernel
theorem d2_88 : decode prog_86_method_16_code 88 = .ok (.lastore, 1) := by decide +kernel
theorem d2_89 : decode prog_86_method_16_code 89 = .ok (.iconst 2, 1) := by decide +kernel
theorem d2_90 : decode prog_86_method_16_code 90 = .ok (.istore 5, 2) := by decide +kernel
theorem d2_92 : decode prog_86_method_16_code 92 = .ok (.goto 18, 3) := by decide +kernel
theorem d2_95 : decode prog_86_method_16_code 95 = .ok (.aload 4, 2) := by decide +kernel
theorem d2_97 : decode prog_86_method_16_code 97 = .ok (.iconst 0, 1) := by decide +kernel
theorem d2_98 : decode prog_86_method_16_code 98 = .ok (.iload_n 2, 1) := by decide +kernel
theorem d2_99 : decode prog_86_method_16_code 99 = .ok (.aload_n 3, 1) := by decide +kernel
theorem d2_100 : decode prog_86_method_16_code 100 = .ok (.iconst 2, 1) := by decide +kernel
theorem d2_101 : decode prog_86_method_16_code 101 = .ok (.iaload, 1) := by decide +kernel
theorem d2_102 : decode prog_86_method_16_code 102 = .ok (.isub, 1) := by decide +kernel
theorem d2_103 : decode prog_86_method_16_code 103 = .ok (.i2l, 1) := by decide +kernel
theorem d2_104 : decode prog_86_method_16_code 104 = .ok (.iconst 2, 1) := by decide +kernel
theorem d2_105 : decode prog_86_method_16_code 105 = .ok (.lshl, 1) := by decide +kernel
theorem d2_106 : decode prog_86_method_16_code 106 = .ok (.lastore, 1) := by decide +kernel
theorem d2_107 : decode prog_86_method_16_code 107 = .ok (.iconst 1, 1) := by decide +kernel
theorem d2_108 : decode prog_86_method_16_code 108 = .ok (.istore 5, 2) := by decide +kernel
theorem d2_110 : decode prog_86_method_16_code 110 = .ok (.aload_n 3, 1) := by decide +kernel
theorem d2_111 : decode prog_86_method_16_code 111 = .ok (.iconst 0, 1) := by decide +kernel
theorem d2_112 : decode prog_86_method_16_code 112 = .ok (.iload_n 0, 1) := by decide +kernel
theorem d2_113 : decode prog_86_method_16_code 113 = .ok (.iastore, 1) := by decide +kernel
theorem d2_114 : decode prog_86_method_16_code 114 = .ok (.aload_n 3, 1) := by decide +kernel
theorem d2_115 : decode prog_86_method_16_code 115 = .ok (.iconst 1, 1) := by decide +kernel
theorem d2_116 : decode prog_86_method_16_code 116 = .ok (.iload_n 1, 1) := by decide +kernel
theorem d2_117 : decode prog_86_method_16_code 117 = .ok (.iastore, 1) := by decide +kernel
theorem d2_118 : decode prog_86_method_16_code 118 = .ok (.aload_n 3, 1) := by decide +kernel
theorem d2_119 : decode prog_86_method_16_code 119 = .ok (.iconst 2, 1) := by decide +kernel
theorem d2_120 : decode prog_86_method_16_code 120 = .ok (.iload_n 2, 1) := by decide +kernel
theorem d2_121 : decode prog_86_method_16_code 121 = .ok (.iastore, 1) := by decide +kernel
theorem d2_122 : decode prog_86_method_16_code 122 = .ok (.iload 5, 2) := by decide +kernel
theorem d2_124 : decode prog_86_method_16_code 124 = .ok (.ireturn, 1) := by decide +kernel
theorem b_16 : Int8.toInt32 16 = 16 := by decide
theorem b_32 : Int8.toInt32 32 = 32 := by decide
def ci0 : List (Nat × Int32) := [(11, 2147483647), (12, 65535)]
def cj0 : List (Nat × Int64) := [(9, 2147483647), (25, 3), (27, 2)]
def ci1 : List (Nat × Int32) := [(11, 2147483647), (12, 65535)]
def cj1 : List (Nat × Int64) := [(9, 2147483647), (25, 3), (27, 2)]
def ci2 : List (Nat × Int32) := []
def cj2 : List (Nat × Int64) := [(73, 2)]

theorem pn_0 : plainName "com/example/eliteset/eliteset/index/PairStreamStartPinLaw" = true := by first | (simp [plainName, overriddenIn]; done) | decide +kernel
theorem ef_0 (m : MethodId) (x0 : Int32) (x1 : Int32) (x2 : Int32) (x3 : Int32) (x4 : Int32) (x5 : Int64) : entryFrame m #[(.int x0), (.int x1), (.int x2), (.int x3), (.int x4), (.long x5)] maxLocals = mkF m 0 #[.val (.int x0), .val (.int x1), .val (.int x2), .val (.int x3), .val (.int x4), .val (.long x5), .second, .unset, .unset, .unset, .unset, .unset, .unset, .unset, .unset, .unset, .unset, .unset, .unset, .unset, .unset, .unset, .unset, .unset, .unset] [] := by first | (simp [entryFrame, mkF, argsToLocals, Value.category, maxLocals]; done) | rfl
theorem pn_1 : plainName "com/example/eliteset/eliteset/index/PairStreamStartPinLaw" = true := by first | (simp [plainName, overriddenIn]; done) | decide +kernel
theorem ef_1 (m : MethodId) (x0 : Int32) (x1 : Int32) : entryFrame m #[(.int x0), (.int x1)] 4 = mkF m 0 #[.val (.int x0), .val (.int x1), .unset, .unset] [] := by first | (simp [entryFrame, mkF, argsToLocals, Value.category]; done) | rfl
theorem pd_1 : parseMethodDescriptor "(II)I" = some ⟨[.int, .int], some .int⟩ := by decide +kernel
theorem pn_2 : plainName "com/example/eliteset/eliteset/index/PairStream" = true := by first | (simp [plainName, overriddenIn]; done) | decide +kernel
theorem ef_2 (m : MethodId) (x0 : Int32) (x1 : Int32) (x2 : Int32) (x3 : Addr) (x4 : Addr) : entryFrame m #[(.int x0), (.int x1), (.int x2), (.ref x3), (.ref x4)] 6 = mkF m 0 #[.val (.int x0), .val (.int x1), .val (.int x2), .val (.ref x3), .val (.ref x4), .unset] [] := by first | (simp [entryFrame, mkF, argsToLocals, Value.category]; done) | rfl
theorem pd_2 : parseMethodDescriptor "(III[I[J)I" = some ⟨[.int, .int, .int, .array .int, .array .long], some .int⟩ := by decide +kernel

/-! the plain functions -/
def own_above (low raw : Int32) : Int32 := (low.toInt64 + 1 + ((raw.toInt64 &&& 2147483647) - (raw.toInt64 &&& 2147483647) / (2147483647 - low.toInt64) * (2147483647 - low.toInt64))).toInt32
def own_k (kind : Int32) : Int32 := (kind &&& 65535) - (kind &&& 65535) / 3 * 3
def own_z (kind : Int32) : Int32 := if oushr kind 16 &&& 1 = 0 then 0 else 1
def own_m (x : Int32) : Int32 := (x &&& 2147483647) - (x &&& 2147483647) / 2147483647 * 2147483647
def own_pp (ps : Int64) : Int32 := (oushrL ps 32).toInt32 &&& 2147483647
def own_pa (kind : Int32) (ps : Int64) : Int32 := if own_z kind = 0 then ps.toInt32 &&& 2147483647 else 0
/-- what the law hands to the method, by its kind -/
def Good (k p d pf f pp pa : Int32) : Prop :=
  0 ≤ f.toInt ∧ 0 ≤ pa.toInt ∧
  (k = 0 → -1 ≤ p.toInt ∧ p.toInt < d.toInt ∧ d.toInt - p.toInt < 2147483648) ∧
  (k = 1 → p = d ∧ 0 ≤ pf.toInt ∧ pf.toInt < f.toInt) ∧
  (¬ k = 0 → ¬ k = 1 → p = d ∧ pf = f ∧ 0 ≤ pp.toInt ∧ pp.toInt < pa.toInt)
theorem own_mb (x : Int32) : 0 ≤ (x &&& 2147483647).toInt ∧ (x &&& 2147483647).toInt < 2147483648 := by
  have e : (x &&& 2147483647).toInt = x.toInt % 2 ^ 31 := Jvm.Kit.i32_mask x 2147483647 (k := 31) (by decide) (by decide)
  omega
theorem own_mmb (x : Int32) : 0 ≤ (own_m x).toInt ∧ (own_m x).toInt < 2147483647 := by
  have h := own_mb x
  have t : (2147483647 : Int32).toInt = 2147483647 := by decide
  have e : (own_m x).toInt = (x &&& 2147483647).toInt % (2147483647 : Int32).toInt := own_rem32 h.1 (by decide)
  rw [t] at e
  omega
theorem own_span (low : Int32) (h1 : low.toInt < 2147483647) (h0 : 0 ≤ low.toInt) : (2147483647 - low.toInt64).toInt = 2147483647 - low.toInt ∧ ¬ (2147483647 - low.toInt64) = 0 := by
  have t : (2147483647 : Int64).toInt = 2147483647 := by decide
  have e : (2147483647 - low.toInt64).toInt = 2147483647 - low.toInt := by
    rw [Jvm.Kit.i64_sub (by rw [t, Jvm.Kit.i64_of_i32]; omega) (by rw [t, Jvm.Kit.i64_of_i32]; omega), t, Jvm.Kit.i64_of_i32]
  refine ⟨e, fun q => ?_⟩
  rw [q] at e
  have t0 : (0 : Int64).toInt = 0 := by decide
  omega
theorem own_ab (low raw : Int32) (h1 : low.toInt < 2147483647) (h0 : 0 ≤ low.toInt) : low.toInt < (own_above low raw).toInt ∧ (own_above low raw).toInt < 2147483648 := by
  obtain ⟨e, hne⟩ := own_span low h1 h0
  have t1 : (1 : Int64).toInt = 1 := by decide
  have em : (raw.toInt64 &&& 2147483647).toInt = raw.toInt64.toInt % 2 ^ 31 := Jvm.Kit.i64_mask raw.toInt64 2147483647 (k := 31) (by decide) (by decide)
  have er := own_rem64 (x := raw.toInt64 &&& 2147483647) (y := 2147483647 - low.toInt64) (by omega)
  rw [e] at er
  have b1 := Int.emod_nonneg (raw.toInt64 &&& 2147483647).toInt (b := 2147483647 - low.toInt) (by omega)
  have b2 := Int.emod_lt_of_pos (raw.toInt64 &&& 2147483647).toInt (b := 2147483647 - low.toInt) (by omega)
  rw [← er] at b1 b2
  have ea : (low.toInt64 + 1).toInt = low.toInt + 1 := by rw [Jvm.Kit.i64_add (by rw [t1, Jvm.Kit.i64_of_i32]; omega) (by rw [t1, Jvm.Kit.i64_of_i32]; omega), t1, Jvm.Kit.i64_of_i32]
  unfold own_above
  generalize ((raw.toInt64 &&& 2147483647) - (raw.toInt64 &&& 2147483647) / (2147483647 - low.toInt64) * (2147483647 - low.toInt64)) = w at *
  have es : (low.toInt64 + 1 + w).toInt = low.toInt + 1 + w.toInt := by rw [Jvm.Kit.i64_add (by omega) (by omega), ea]
  rw [Jvm.Kit.i32_of_i64 (by omega) (by omega), es]
  omega
theorem own_pab (kind : Int32) (ps : Int64) : 0 ≤ (own_pa kind ps).toInt := by
  unfold own_pa
  split
  · exact (own_mb _).1
  · decide
theorem own_pm1 (x : Int32) : ((x &&& 2147483647) - 1).toInt = (x &&& 2147483647).toInt - 1 := by
  have h := own_mb x
  have t1 : (1 : Int32).toInt = 1 := by decide
  rw [Jvm.Kit.i32_sub (by rw [t1]; omega) (by rw [t1]; omega), t1]
theorem own_lt0 (x : Int32) : x < 0 ↔ x.toInt < 0 := by rw [Int32.lt_iff_toInt_lt]; exact Iff.rfl
/-- the codes that the method writes -/
def own_c00 (d p : Int32) : Int64 := oshlL (d - p).toInt64 1 ||| 1
def own_c01 (f pa : Int32) : Int64 := oshlL f.toInt64 1 ||| (if pa = 0 then (0 : Int32) else 1).toInt64
def own_c10 (f pf : Int32) : Int64 := oshlL (f - pf).toInt64 2 ||| 2
def own_c20 (pa pp : Int32) : Int64 := oshlL (pa - pp).toInt64 2
def own_cnt (d f pa : Int32) (gp : Nat → Int32) : Int32 := if d = gp 0 then (if f = gp 1 then 1 else 2) else (if pa = 0 then 2 else 3)
def own_codes (d f pa : Int32) (gp : Nat → Int32) (gc : Nat → Int64) : Nat → Int64 :=
  if d = gp 0 then (if f = gp 1 then oupd gc 0 (own_c20 pa (gp 2)) else oupd (oupd gc 0 (own_c10 f (gp 1))) 1 pa.toInt64)
  else oupd (oupd (oupd gc 0 (own_c00 d (gp 0))) 1 (own_c01 f pa)) 2 pa.toInt64
theorem own_shl (x : Int64) (y : Int32) {k : Nat} (hk : ((y &&& 0x3f).toInt64.toBitVec.smod 64#64).toNat = k) (h0 : 0 ≤ x.toInt) (h1 : x.toInt < 2147483648) (hk2 : k ≤ 2) : (oshlL x y).toInt = x.toInt * 2 ^ k := by
  have h4 : (2 : Int) ^ k = 1 ∨ (2 : Int) ^ k = 2 ∨ (2 : Int) ^ k = 4 := by
    match k, hk2 with
    | 0, _ => exact Or.inl rfl
    | 1, _ => exact Or.inr (Or.inl rfl)
    | 2, _ => exact Or.inr (Or.inr rfl)
  refine Jvm.Kit.i64_shl x _ hk ?_ ?_
  · rcases h4 with h | h | h <;> rw [h] <;> omega
  · rcases h4 with h | h | h <;> rw [h] <;> omega
/-- or with a small number under a shifted one is a sum -/
theorem own_orN (a c k : Nat) (hc : c < 2 ^ k) : a * 2 ^ k ||| c = a * 2 ^ k + c := by
  rw [Nat.mul_comm]
  exact (Nat.two_pow_add_eq_or_of_lt hc a).symm
theorem own_or (x w : Int64) (k : Nat) {X W : Nat} (hx : x.toInt = (X * 2 ^ k : Nat)) (hw : w.toInt = W) (hW : W < 2 ^ k) (hb : X * 2 ^ k + W < 9223372036854775808) : (x ||| w).toInt = (X * 2 ^ k + W : Nat) := by
  have e1 := nat64 x
  have e2 := nat64 w
  rw [hx] at e1
  rw [hw] at e2
  have n1 : x.toBitVec.toNat = X * 2 ^ k := by omega
  have n2 : w.toBitVec.toNat = W := by omega
  have n3 : (x ||| w).toBitVec.toNat = X * 2 ^ k + W := by
    rw [Int64.toBitVec_or, BitVec.toNat_or, n1, n2, own_orN _ _ _ hW]
  rw [small64 _ (by rw [n3]; exact hb), n3]

/-- the first kind -/
theorem own_n0 {p d f pa : Int32} (hf : 0 ≤ f.toInt) (h1 : -1 ≤ p.toInt) (h2 : p.toInt < d.toInt) (h3 : d.toInt - p.toInt < 2147483648) :
    0 < own_c00 d p ∧ own_c00 d p &&& 1 = 1 ∧ p.toInt64 + oushrL (own_c00 d p) 1 = d.toInt64 ∧ ¬ own_c01 f pa < 0 ∧ oushrL (own_c01 f pa) 1 = f.toInt64 ∧ (own_c01 f pa &&& 1 = 0 ↔ pa = 0) := by
  have t0 : (0 : Int64).toInt = 0 := by decide
  have t1 : (1 : Int64).toInt = 1 := by decide
  have hfl := f.toInt_lt
  have hdl := d.toInt_lt
  have ed : (d - p).toInt = d.toInt - p.toInt := Jvm.Kit.i32_sub (by omega) (by omega)
  have es : (oshlL (d - p).toInt64 1).toInt = ((d.toInt - p.toInt).toNat * 2 ^ 1 : Nat) := by
    rw [own_shl _ _ (k := 1) (by decide) (by rw [Jvm.Kit.i64_of_i32]; omega) (by rw [Jvm.Kit.i64_of_i32]; omega) (by decide), Jvm.Kit.i64_of_i32, ed]; omega
  have e0 : (own_c00 d p).toInt = ((d.toInt - p.toInt).toNat * 2 ^ 1 + 1 : Nat) := own_or _ _ 1 es (W := 1) t1 (by decide) (by omega)
  have e0s : (oushrL (own_c00 d p) 1).toInt = (own_c00 d p).toInt % 18446744073709551616 / 2 ^ 1 := num_ushrL _ _ (by decide) (by decide) (by decide)
  have e0m : (own_c00 d p &&& 1).toInt = (own_c00 d p).toInt % 2 ^ 1 := Jvm.Kit.i64_mask _ 1 (k := 1) (by decide) (by decide)
  have ef : (oshlL f.toInt64 1).toInt = (f.toInt.toNat * 2 ^ 1 : Nat) := by
    rw [own_shl _ _ (k := 1) (by decide) (by rw [Jvm.Kit.i64_of_i32]; omega) (by rw [Jvm.Kit.i64_of_i32]; omega) (by decide), Jvm.Kit.i64_of_i32]; omega
  have eb : ((if pa = 0 then (0 : Int32) else 1).toInt64).toInt = ((if pa = 0 then 0 else 1 : Nat) : Int) := by
    rw [Jvm.Kit.i64_of_i32]; split <;> rfl
  have e1 : (own_c01 f pa).toInt = (f.toInt.toNat * 2 ^ 1 + (if pa = 0 then 0 else 1) : Nat) := own_or _ _ 1 ef eb (by split <;> decide) (by split <;> omega)
  have e1s : (oushrL (own_c01 f pa) 1).toInt = (own_c01 f pa).toInt % 18446744073709551616 / 2 ^ 1 := num_ushrL _ _ (by decide) (by decide) (by decide)
  have e1m : (own_c01 f pa &&& 1).toInt = (own_c01 f pa).toInt % 2 ^ 1 := Jvm.Kit.i64_mask _ 1 (k := 1) (by decide) (by decide)
  refine ⟨by rw [Int64.lt_iff_toInt_lt, t0]; omega, Int64.toInt_inj.mp (by rw [e0m, t1]; omega), Int64.toInt_inj.mp ?_, by rw [Int64.lt_iff_toInt_lt, t0]; split at e1 <;> omega, Int64.toInt_inj.mp ?_, ?_⟩
  · rw [Jvm.Kit.i64_add (by rw [Jvm.Kit.i64_of_i32]; omega) (by rw [Jvm.Kit.i64_of_i32]; omega), Jvm.Kit.i64_of_i32, Jvm.Kit.i64_of_i32, e0s]; omega
  · rw [e1s, Jvm.Kit.i64_of_i32]; split at e1 <;> omega
  · rw [← Int64.toInt_inj, e1m, t0]
    split at e1
    · rename_i q; exact ⟨fun _ => q, fun _ => by omega⟩
    · rename_i q; exact ⟨fun u => by omega, fun u => absurd u q⟩
/-- the second and the third -/
theorem own_n1 {pf f : Int32} (h1 : 0 ≤ pf.toInt) (h2 : pf.toInt < f.toInt) :
    0 < own_c10 f pf ∧ own_c10 f pf &&& 3 = 2 ∧ pf.toInt64 + oushrL (own_c10 f pf) 2 = f.toInt64 := by
  have t0 : (0 : Int64).toInt = 0 := by decide
  have t2 : (2 : Int64).toInt = 2 := by decide
  have hfl := f.toInt_lt
  have ed : (f - pf).toInt = f.toInt - pf.toInt := Jvm.Kit.i32_sub (by omega) (by omega)
  have es : (oshlL (f - pf).toInt64 2).toInt = ((f.toInt - pf.toInt).toNat * 2 ^ 2 : Nat) := by
    rw [own_shl _ _ (k := 2) (by decide) (by rw [Jvm.Kit.i64_of_i32]; omega) (by rw [Jvm.Kit.i64_of_i32]; omega) (by decide), Jvm.Kit.i64_of_i32, ed]; omega
  have e0 : (own_c10 f pf).toInt = ((f.toInt - pf.toInt).toNat * 2 ^ 2 + 2 : Nat) := own_or _ _ 2 es (W := 2) t2 (by decide) (by omega)
  have e0s : (oushrL (own_c10 f pf) 2).toInt = (own_c10 f pf).toInt % 18446744073709551616 / 2 ^ 2 := num_ushrL _ _ (by decide) (by decide) (by decide)
  have e0m : (own_c10 f pf &&& 3).toInt = (own_c10 f pf).toInt % 2 ^ 2 := Jvm.Kit.i64_mask _ 3 (k := 2) (by decide) (by decide)
  refine ⟨by rw [Int64.lt_iff_toInt_lt, t0]; omega, Int64.toInt_inj.mp (by rw [e0m, t2]; omega), Int64.toInt_inj.mp ?_⟩
  rw [Jvm.Kit.i64_add (by rw [Jvm.Kit.i64_of_i32]; omega) (by rw [Jvm.Kit.i64_of_i32]; omega), Jvm.Kit.i64_of_i32, Jvm.Kit.i64_of_i32, e0s]; omega
theorem own_n2 {pp pa : Int32} (h1 : 0 ≤ pp.toInt) (h2 : pp.toInt < pa.toInt) :
    0 < own_c20 pa pp ∧ own_c20 pa pp &&& 3 = 0 ∧ pp.toInt64 + oushrL (own_c20 pa pp) 2 = pa.toInt64 := by
  have t0 : (0 : Int64).toInt = 0 := by decide
  have hfl := pa.toInt_lt
  have ed : (pa - pp).toInt = pa.toInt - pp.toInt := Jvm.Kit.i32_sub (by omega) (by omega)
  have e0 : (own_c20 pa pp).toInt = ((pa.toInt - pp.toInt).toNat * 2 ^ 2 : Nat) := by
    unfold own_c20
    rw [own_shl _ _ (k := 2) (by decide) (by rw [Jvm.Kit.i64_of_i32]; omega) (by rw [Jvm.Kit.i64_of_i32]; omega) (by decide), Jvm.Kit.i64_of_i32, ed]; omega
  have e0s : (oushrL (own_c20 pa pp) 2).toInt = (own_c20 pa pp).toInt % 18446744073709551616 / 2 ^ 2 := num_ushrL _ _ (by decide) (by decide) (by decide)
  have e0m : (own_c20 pa pp &&& 3).toInt = (own_c20 pa pp).toInt % 2 ^ 2 := Jvm.Kit.i64_mask _ 3 (k := 2) (by decide) (by decide)
  refine ⟨by rw [Int64.lt_iff_toInt_lt, t0]; omega, Int64.toInt_inj.mp (by rw [e0m, t0]; omega), Int64.toInt_inj.mp ?_⟩
  rw [Jvm.Kit.i64_add (by rw [Jvm.Kit.i64_of_i32]; omega) (by rw [Jvm.Kit.i64_of_i32]; omega), Jvm.Kit.i64_of_i32, Jvm.Kit.i64_of_i32, e0s]; omega
/-! the stretches -/
set_option maxRecDepth 65536 in
set_option maxHeartbeats 4000000 in
theorem wa_0 (low raw : Int32) (h : ¬ 2147483647 - low.toInt64 = 0) : wpo method_2_code ci1 cj1 [] 90 0 [.val (.int low), .val (.int raw), .unset, .unset] [] (fun b M u => decode method_2_code b = .ok (.ireturn, 1) ∧ u = [.int (own_above low raw)]) := by
  simp only [r_wp0, r_wpS, r_nxt, r_stop0, r_stopS, r_go, r_goIf, r_fork, r_tgt, r_okO, r_gI, r_gJ, r_gA, r_pI, r_pJ, r_pA, r_p1r, r_p1i, r_pII, r_pJJ, r_pJI, r_fnd0, r_fndS, r_gC, r_gC0, r_gB, r_st1, r_st2, r_eq, r_ne, r_lt, r_ge, r_gt, r_le, r_eqL, r_neL, r_ltL, r_geL, r_gtL, r_leL, r_f0, r_f1, r_f2, r_f3, r_im1, r_i0, r_i1, r_i2, r_i3, r_i4, r_i5, r_i7, r_l0, r_l1, lget_z, lget_s, lput_z, lput_s, one_unset, one_int, one_ref, two_unset, two_long, cond_true, cond_false, true_and, and_true, not_true_eq_false, not_false_eq_true, true_implies, false_implies, implies_true, ne_eq, Classical.not_not, Int.cast_ofNat_Int, ite_true, seval, and_self, n_i2l, n_iload_n, n_ireturn, n_l2i, n_ladd, n_land, n_lconst, n_ldc2_w, n_lload_n, n_lrem, n_lstore_n, n_lsub, ci1, cj1, d1_0, d1_3, d1_4, d1_5, d1_6, d1_7, d1_8, d1_9, d1_10, d1_11, d1_12, d1_13, d1_16, d1_17, d1_18, d1_19, d1_20, d1_21, h, own_above]
set_option maxRecDepth 65536 in
set_option maxHeartbeats 4000000 in
theorem ws_0 (d f pa : Int32) (pr co : Addr) : wpo prog_86_method_16_code ci2 cj2 [] 90 0 [.val (.int d), .val (.int f), .val (.int pa), .val (.ref pr), .val (.ref co), .unset] [] (fun b M u => b = 3 ∧ M = [.val (.int d), .val (.int f), .val (.int pa), .val (.ref pr), .val (.ref co), .unset] ∧ u = [.int 0, .ref pr, .int d]) := by
  simp only [r_wp0, r_wpS, r_nxt, r_stop0, r_stopS, r_go, r_goIf, r_fork, r_tgt, r_okO, r_gI, r_gJ, r_gA, r_pI, r_pJ, r_pA, r_p1r, r_p1i, r_pII, r_pJJ, r_pJI, r_fnd0, r_fndS, r_gC, r_gC0, r_gB, r_st1, r_st2, r_eq, r_ne, r_lt, r_ge, r_gt, r_le, r_eqL, r_neL, r_ltL, r_geL, r_gtL, r_leL, r_f0, r_f1, r_f2, r_f3, r_im1, r_i0, r_i1, r_i2, r_i3, r_i4, r_i5, r_i7, r_l0, r_l1, lget_z, lget_s, lput_z, lput_s, one_unset, one_int, one_ref, two_unset, two_long, cond_true, cond_false, true_and, and_true, not_true_eq_false, not_false_eq_true, true_implies, false_implies, implies_true, ne_eq, Classical.not_not, Int.cast_ofNat_Int, ite_true, seval, and_self, n_aload, n_aload_n, n_goto, n_i2l, n_iaload, n_iastore, n_iconst, n_ifCond, n_if_icmp, n_iload, n_iload_n, n_ireturn, n_istore, n_isub, n_lastore, n_lconst, n_ldc2_w, n_lor, n_lshl, ci2, cj2, d2_0, d2_1, d2_2, d2_3, d2_4, d2_7, d2_9, d2_10, d2_11, d2_12, d2_13, d2_14, d2_15, d2_16, d2_17, d2_18, d2_19, d2_20, d2_21, d2_23, d2_24, d2_25, d2_26, d2_27, d2_28, d2_29, d2_32, d2_33, d2_36, d2_37, d2_38, d2_39, d2_40, d2_42, d2_43, d2_44, d2_45, d2_46, d2_47, d2_50, d2_51, d2_54, d2_55, d2_57, d2_60, d2_61, d2_62, d2_63, d2_64, d2_67, d2_69, d2_70, d2_71, d2_72, d2_73, d2_74, d2_75, d2_76, d2_77, d2_78, d2_81, d2_82, d2_83, d2_85, d2_86, d2_87, d2_88, d2_89, d2_90, d2_92, d2_95, d2_97, d2_98, d2_99, d2_100, d2_101, d2_102, d2_103, d2_104, d2_105, d2_106, d2_107, d2_108, d2_110, d2_111, d2_112, d2_113, d2_114, d2_115, d2_116, d2_117, d2_118, d2_119, d2_120, d2_121, d2_122, d2_124]
set_option maxRecDepth 65536 in
set_option maxHeartbeats 4000000 in
theorem ws_1 (d f pa : Int32) (pr co : Addr) (g : Int32) (h : ¬ d = g) : wpo prog_86_method_16_code ci2 cj2 [] 90 4 [.val (.int d), .val (.int f), .val (.int pa), .val (.ref pr), .val (.ref co), .unset] [.int g, .int d] (fun b M u => b = 13 ∧ M = [.val (.int d), .val (.int f), .val (.int pa), .val (.ref pr), .val (.ref co), .unset] ∧ u = [.int 0, .ref pr, .int d, .int 0, .ref co]) := by
  simp only [r_wp0, r_wpS, r_nxt, r_stop0, r_stopS, r_go, r_goIf, r_fork, r_tgt, r_okO, r_gI, r_gJ, r_gA, r_pI, r_pJ, r_pA, r_p1r, r_p1i, r_pII, r_pJJ, r_pJI, r_fnd0, r_fndS, r_gC, r_gC0, r_gB, r_st1, r_st2, r_eq, r_ne, r_lt, r_ge, r_gt, r_le, r_eqL, r_neL, r_ltL, r_geL, r_gtL, r_leL, r_f0, r_f1, r_f2, r_f3, r_im1, r_i0, r_i1, r_i2, r_i3, r_i4, r_i5, r_i7, r_l0, r_l1, lget_z, lget_s, lput_z, lput_s, one_unset, one_int, one_ref, two_unset, two_long, cond_true, cond_false, true_and, and_true, not_true_eq_false, not_false_eq_true, true_implies, false_implies, implies_true, ne_eq, Classical.not_not, Int.cast_ofNat_Int, ite_true, seval, and_self, n_aload, n_aload_n, n_goto, n_i2l, n_iaload, n_iastore, n_iconst, n_ifCond, n_if_icmp, n_iload, n_iload_n, n_ireturn, n_istore, n_isub, n_lastore, n_lconst, n_ldc2_w, n_lor, n_lshl, ci2, cj2, d2_0, d2_1, d2_2, d2_3, d2_4, d2_7, d2_9, d2_10, d2_11, d2_12, d2_13, d2_14, d2_15, d2_16, d2_17, d2_18, d2_19, d2_20, d2_21, d2_23, d2_24, d2_25, d2_26, d2_27, d2_28, d2_29, d2_32, d2_33, d2_36, d2_37, d2_38, d2_39, d2_40, d2_42, d2_43, d2_44, d2_45, d2_46, d2_47, d2_50, d2_51, d2_54, d2_55, d2_57, d2_60, d2_61, d2_62, d2_63, d2_64, d2_67, d2_69, d2_70, d2_71, d2_72, d2_73, d2_74, d2_75, d2_76, d2_77, d2_78, d2_81, d2_82, d2_83, d2_85, d2_86, d2_87, d2_88, d2_89, d2_90, d2_92, d2_95, d2_97, d2_98, d2_99, d2_100, d2_101, d2_102, d2_103, d2_104, d2_105, d2_106, d2_107, d2_108, d2_110, d2_111, d2_112, d2_113, d2_114, d2_115, d2_116, d2_117, d2_118, d2_119, d2_120, d2_121, d2_122, d2_124, h]
set_option maxRecDepth 65536 in
set_option maxHeartbeats 4000000 in
theorem ws_2 (d f pa : Int32) (pr co : Addr) (g : Int32) : wpo prog_86_method_16_code ci2 cj2 [] 90 14 [.val (.int d), .val (.int f), .val (.int pa), .val (.ref pr), .val (.ref co), .unset] [.int g, .int d, .int 0, .ref co] (fun b M u => b = 20 ∧ M = [.val (.int d), .val (.int f), .val (.int pa), .val (.ref pr), .val (.ref co), .unset] ∧ u = [.long (own_c00 d g), .int 0, .ref co]) := by
  simp only [r_wp0, r_wpS, r_nxt, r_stop0, r_stopS, r_go, r_goIf, r_fork, r_tgt, r_okO, r_gI, r_gJ, r_gA, r_pI, r_pJ, r_pA, r_p1r, r_p1i, r_pII, r_pJJ, r_pJI, r_fnd0, r_fndS, r_gC, r_gC0, r_gB, r_st1, r_st2, r_eq, r_ne, r_lt, r_ge, r_gt, r_le, r_eqL, r_neL, r_ltL, r_geL, r_gtL, r_leL, r_f0, r_f1, r_f2, r_f3, r_im1, r_i0, r_i1, r_i2, r_i3, r_i4, r_i5, r_i7, r_l0, r_l1, lget_z, lget_s, lput_z, lput_s, one_unset, one_int, one_ref, two_unset, two_long, cond_true, cond_false, true_and, and_true, not_true_eq_false, not_false_eq_true, true_implies, false_implies, implies_true, ne_eq, Classical.not_not, Int.cast_ofNat_Int, ite_true, seval, and_self, n_aload, n_aload_n, n_goto, n_i2l, n_iaload, n_iastore, n_iconst, n_ifCond, n_if_icmp, n_iload, n_iload_n, n_ireturn, n_istore, n_isub, n_lastore, n_lconst, n_ldc2_w, n_lor, n_lshl, ci2, cj2, d2_0, d2_1, d2_2, d2_3, d2_4, d2_7, d2_9, d2_10, d2_11, d2_12, d2_13, d2_14, d2_15, d2_16, d2_17, d2_18, d2_19, d2_20, d2_21, d2_23, d2_24, d2_25, d2_26, d2_27, d2_28, d2_29, d2_32, d2_33, d2_36, d2_37, d2_38, d2_39, d2_40, d2_42, d2_43, d2_44, d2_45, d2_46, d2_47, d2_50, d2_51, d2_54, d2_55, d2_57, d2_60, d2_61, d2_62, d2_63, d2_64, d2_67, d2_69, d2_70, d2_71, d2_72, d2_73, d2_74, d2_75, d2_76, d2_77, d2_78, d2_81, d2_82, d2_83, d2_85, d2_86, d2_87, d2_88, d2_89, d2_90, d2_92, d2_95, d2_97, d2_98, d2_99, d2_100, d2_101, d2_102, d2_103, d2_104, d2_105, d2_106, d2_107, d2_108, d2_110, d2_111, d2_112, d2_113, d2_114, d2_115, d2_116, d2_117, d2_118, d2_119, d2_120, d2_121, d2_122, d2_124, own_c00]
set_option maxRecDepth 65536 in
set_option maxHeartbeats 4000000 in
theorem ws_3 (d f pa : Int32) (pr co : Addr) : wpo prog_86_method_16_code ci2 cj2 [] 90 21 [.val (.int d), .val (.int f), .val (.int pa), .val (.ref pr), .val (.ref co), .unset] [] (fun b M u => b = 39 ∧ M = [.val (.int d), .val (.int f), .val (.int pa), .val (.ref pr), .val (.ref co), .unset] ∧ u = [.long (own_c01 f pa), .int 1, .ref co]) := by
  simp only [r_wp0, r_wpS, r_nxt, r_stop0, r_stopS, r_go, r_goIf, r_fork, r_tgt, r_okO, r_gI, r_gJ, r_gA, r_pI, r_pJ, r_pA, r_p1r, r_p1i, r_pII, r_pJJ, r_pJI, r_fnd0, r_fndS, r_gC, r_gC0, r_gB, r_st1, r_st2, r_eq, r_ne, r_lt, r_ge, r_gt, r_le, r_eqL, r_neL, r_ltL, r_geL, r_gtL, r_leL, r_f0, r_f1, r_f2, r_f3, r_im1, r_i0, r_i1, r_i2, r_i3, r_i4, r_i5, r_i7, r_l0, r_l1, lget_z, lget_s, lput_z, lput_s, one_unset, one_int, one_ref, two_unset, two_long, cond_true, cond_false, true_and, and_true, not_true_eq_false, not_false_eq_true, true_implies, false_implies, implies_true, ne_eq, Classical.not_not, Int.cast_ofNat_Int, ite_true, seval, and_self, n_aload, n_aload_n, n_goto, n_i2l, n_iaload, n_iastore, n_iconst, n_ifCond, n_if_icmp, n_iload, n_iload_n, n_ireturn, n_istore, n_isub, n_lastore, n_lconst, n_ldc2_w, n_lor, n_lshl, ci2, cj2, d2_0, d2_1, d2_2, d2_3, d2_4, d2_7, d2_9, d2_10, d2_11, d2_12, d2_13, d2_14, d2_15, d2_16, d2_17, d2_18, d2_19, d2_20, d2_21, d2_23, d2_24, d2_25, d2_26, d2_27, d2_28, d2_29, d2_32, d2_33, d2_36, d2_37, d2_38, d2_39, d2_40, d2_42, d2_43, d2_44, d2_45, d2_46, d2_47, d2_50, d2_51, d2_54, d2_55, d2_57, d2_60, d2_61, d2_62, d2_63, d2_64, d2_67, d2_69, d2_70, d2_71, d2_72, d2_73, d2_74, d2_75, d2_76, d2_77, d2_78, d2_81, d2_82, d2_83, d2_85, d2_86, d2_87, d2_88, d2_89, d2_90, d2_92, d2_95, d2_97, d2_98, d2_99, d2_100, d2_101, d2_102, d2_103, d2_104, d2_105, d2_106, d2_107, d2_108, d2_110, d2_111, d2_112, d2_113, d2_114, d2_115, d2_116, d2_117, d2_118, d2_119, d2_120, d2_121, d2_122, d2_124, List.cons.injEq, Slot.val.injEq, Value.int.injEq, Value.long.injEq]
  all_goals (repeat' (first | refine And.intro ?_ ?_ | intro _))
  all_goals simp [own_k, own_z, own_m, own_pp, own_c01, *]
set_option maxRecDepth 65536 in
set_option maxHeartbeats 4000000 in
theorem ws_4 (d f pa : Int32) (pr co : Addr) : wpo prog_86_method_16_code ci2 cj2 [] 90 40 [.val (.int d), .val (.int f), .val (.int pa), .val (.ref pr), .val (.ref co), .unset] [] (fun b M u => b = 45 ∧ M = [.val (.int d), .val (.int f), .val (.int pa), .val (.ref pr), .val (.ref co), .unset] ∧ u = [.long pa.toInt64, .int 2, .ref co]) := by
  simp only [r_wp0, r_wpS, r_nxt, r_stop0, r_stopS, r_go, r_goIf, r_fork, r_tgt, r_okO, r_gI, r_gJ, r_gA, r_pI, r_pJ, r_pA, r_p1r, r_p1i, r_pII, r_pJJ, r_pJI, r_fnd0, r_fndS, r_gC, r_gC0, r_gB, r_st1, r_st2, r_eq, r_ne, r_lt, r_ge, r_gt, r_le, r_eqL, r_neL, r_ltL, r_geL, r_gtL, r_leL, r_f0, r_f1, r_f2, r_f3, r_im1, r_i0, r_i1, r_i2, r_i3, r_i4, r_i5, r_i7, r_l0, r_l1, lget_z, lget_s, lput_z, lput_s, one_unset, one_int, one_ref, two_unset, two_long, cond_true, cond_false, true_and, and_true, not_true_eq_false, not_false_eq_true, true_implies, false_implies, implies_true, ne_eq, Classical.not_not, Int.cast_ofNat_Int, ite_true, seval, and_self, n_aload, n_aload_n, n_goto, n_i2l, n_iaload, n_iastore, n_iconst, n_ifCond, n_if_icmp, n_iload, n_iload_n, n_ireturn, n_istore, n_isub, n_lastore, n_lconst, n_ldc2_w, n_lor, n_lshl, ci2, cj2, d2_0, d2_1, d2_2, d2_3, d2_4, d2_7, d2_9, d2_10, d2_11, d2_12, d2_13, d2_14, d2_15, d2_16, d2_17, d2_18, d2_19, d2_20, d2_21, d2_23, d2_24, d2_25, d2_26, d2_27, d2_28, d2_29, d2_32, d2_33, d2_36, d2_37, d2_38, d2_39, d2_40, d2_42, d2_43, d2_44, d2_45, d2_46, d2_47, d2_50, d2_51, d2_54, d2_55, d2_57, d2_60, d2_61, d2_62, d2_63, d2_64, d2_67, d2_69, d2_70, d2_71, d2_72, d2_73, d2_74, d2_75, d2_76, d2_77, d2_78, d2_81, d2_82, d2_83, d2_85, d2_86, d2_87, d2_88, d2_89, d2_90, d2_92, d2_95, d2_97, d2_98, d2_99, d2_100, d2_101, d2_102, d2_103, d2_104, d2_105, d2_106, d2_107, d2_108, d2_110, d2_111, d2_112, d2_113, d2_114, d2_115, d2_116, d2_117, d2_118, d2_119, d2_120, d2_121, d2_122, d2_124]
set_option maxRecDepth 65536 in
set_option maxHeartbeats 4000000 in
theorem ws_5 (d f pa : Int32) (pr co : Addr) : wpo prog_86_method_16_code ci2 cj2 [110] 90 46 [.val (.int d), .val (.int f), .val (.int pa), .val (.ref pr), .val (.ref co), .unset] [] (fun b M u => b = 110 ∧ M = [.val (.int d), .val (.int f), .val (.int pa), .val (.ref pr), .val (.ref co), .val (.int (if pa = 0 then 2 else 3))] ∧ u = []) := by
  simp only [r_wp0, r_wpS, r_nxt, r_stop0, r_stopS, r_go, r_goIf, r_fork, r_tgt, r_okO, r_gI, r_gJ, r_gA, r_pI, r_pJ, r_pA, r_p1r, r_p1i, r_pII, r_pJJ, r_pJI, r_fnd0, r_fndS, r_gC, r_gC0, r_gB, r_st1, r_st2, r_eq, r_ne, r_lt, r_ge, r_gt, r_le, r_eqL, r_neL, r_ltL, r_geL, r_gtL, r_leL, r_f0, r_f1, r_f2, r_f3, r_im1, r_i0, r_i1, r_i2, r_i3, r_i4, r_i5, r_i7, r_l0, r_l1, lget_z, lget_s, lput_z, lput_s, one_unset, one_int, one_ref, two_unset, two_long, cond_true, cond_false, true_and, and_true, not_true_eq_false, not_false_eq_true, true_implies, false_implies, implies_true, ne_eq, Classical.not_not, Int.cast_ofNat_Int, ite_true, seval, and_self, n_aload, n_aload_n, n_goto, n_i2l, n_iaload, n_iastore, n_iconst, n_ifCond, n_if_icmp, n_iload, n_iload_n, n_ireturn, n_istore, n_isub, n_lastore, n_lconst, n_ldc2_w, n_lor, n_lshl, ci2, cj2, d2_0, d2_1, d2_2, d2_3, d2_4, d2_7, d2_9, d2_10, d2_11, d2_12, d2_13, d2_14, d2_15, d2_16, d2_17, d2_18, d2_19, d2_20, d2_21, d2_23, d2_24, d2_25, d2_26, d2_27, d2_28, d2_29, d2_32, d2_33, d2_36, d2_37, d2_38, d2_39, d2_40, d2_42, d2_43, d2_44, d2_45, d2_46, d2_47, d2_50, d2_51, d2_54, d2_55, d2_57, d2_60, d2_61, d2_62, d2_63, d2_64, d2_67, d2_69, d2_70, d2_71, d2_72, d2_73, d2_74, d2_75, d2_76, d2_77, d2_78, d2_81, d2_82, d2_83, d2_85, d2_86, d2_87, d2_88, d2_89, d2_90, d2_92, d2_95, d2_97, d2_98, d2_99, d2_100, d2_101, d2_102, d2_103, d2_104, d2_105, d2_106, d2_107, d2_108, d2_110, d2_111, d2_112, d2_113, d2_114, d2_115, d2_116, d2_117, d2_118, d2_119, d2_120, d2_121, d2_122, d2_124, List.cons.injEq, Slot.val.injEq, Value.int.injEq, Value.long.injEq]
  all_goals (repeat' (first | refine And.intro ?_ ?_ | intro _))
  all_goals simp [own_k, own_z, own_m, own_pp, own_c01, *]
set_option maxRecDepth 65536 in
set_option maxHeartbeats 4000000 in
theorem ws_6 (d f pa : Int32) (pr co : Addr) : wpo prog_86_method_16_code ci2 cj2 [] 90 4 [.val (.int d), .val (.int f), .val (.int pa), .val (.ref pr), .val (.ref co), .unset] [.int d, .int d] (fun b M u => b = 63 ∧ M = [.val (.int d), .val (.int f), .val (.int pa), .val (.ref pr), .val (.ref co), .unset] ∧ u = [.int 1, .ref pr, .int f]) := by
  simp only [r_wp0, r_wpS, r_nxt, r_stop0, r_stopS, r_go, r_goIf, r_fork, r_tgt, r_okO, r_gI, r_gJ, r_gA, r_pI, r_pJ, r_pA, r_p1r, r_p1i, r_pII, r_pJJ, r_pJI, r_fnd0, r_fndS, r_gC, r_gC0, r_gB, r_st1, r_st2, r_eq, r_ne, r_lt, r_ge, r_gt, r_le, r_eqL, r_neL, r_ltL, r_geL, r_gtL, r_leL, r_f0, r_f1, r_f2, r_f3, r_im1, r_i0, r_i1, r_i2, r_i3, r_i4, r_i5, r_i7, r_l0, r_l1, lget_z, lget_s, lput_z, lput_s, one_unset, one_int, one_ref, two_unset, two_long, cond_true, cond_false, true_and, and_true, not_true_eq_false, not_false_eq_true, true_implies, false_implies, implies_true, ne_eq, Classical.not_not, Int.cast_ofNat_Int, ite_true, seval, and_self, n_aload, n_aload_n, n_goto, n_i2l, n_iaload, n_iastore, n_iconst, n_ifCond, n_if_icmp, n_iload, n_iload_n, n_ireturn, n_istore, n_isub, n_lastore, n_lconst, n_ldc2_w, n_lor, n_lshl, ci2, cj2, d2_0, d2_1, d2_2, d2_3, d2_4, d2_7, d2_9, d2_10, d2_11, d2_12, d2_13, d2_14, d2_15, d2_16, d2_17, d2_18, d2_19, d2_20, d2_21, d2_23, d2_24, d2_25, d2_26, d2_27, d2_28, d2_29, d2_32, d2_33, d2_36, d2_37, d2_38, d2_39, d2_40, d2_42, d2_43, d2_44, d2_45, d2_46, d2_47, d2_50, d2_51, d2_54, d2_55, d2_57, d2_60, d2_61, d2_62, d2_63, d2_64, d2_67, d2_69, d2_70, d2_71, d2_72, d2_73, d2_74, d2_75, d2_76, d2_77, d2_78, d2_81, d2_82, d2_83, d2_85, d2_86, d2_87, d2_88, d2_89, d2_90, d2_92, d2_95, d2_97, d2_98, d2_99, d2_100, d2_101, d2_102, d2_103, d2_104, d2_105, d2_106, d2_107, d2_108, d2_110, d2_111, d2_112, d2_113, d2_114, d2_115, d2_116, d2_117, d2_118, d2_119, d2_120, d2_121, d2_122, d2_124]
set_option maxRecDepth 65536 in
set_option maxHeartbeats 4000000 in
theorem ws_7 (d f pa : Int32) (pr co : Addr) (g : Int32) (h : ¬ f = g) : wpo prog_86_method_16_code ci2 cj2 [] 90 64 [.val (.int d), .val (.int f), .val (.int pa), .val (.ref pr), .val (.ref co), .unset] [.int g, .int f] (fun b M u => b = 73 ∧ M = [.val (.int d), .val (.int f), .val (.int pa), .val (.ref pr), .val (.ref co), .unset] ∧ u = [.int 1, .ref pr, .int f, .int 0, .ref co]) := by
  simp only [r_wp0, r_wpS, r_nxt, r_stop0, r_stopS, r_go, r_goIf, r_fork, r_tgt, r_okO, r_gI, r_gJ, r_gA, r_pI, r_pJ, r_pA, r_p1r, r_p1i, r_pII, r_pJJ, r_pJI, r_fnd0, r_fndS, r_gC, r_gC0, r_gB, r_st1, r_st2, r_eq, r_ne, r_lt, r_ge, r_gt, r_le, r_eqL, r_neL, r_ltL, r_geL, r_gtL, r_leL, r_f0, r_f1, r_f2, r_f3, r_im1, r_i0, r_i1, r_i2, r_i3, r_i4, r_i5, r_i7, r_l0, r_l1, lget_z, lget_s, lput_z, lput_s, one_unset, one_int, one_ref, two_unset, two_long, cond_true, cond_false, true_and, and_true, not_true_eq_false, not_false_eq_true, true_implies, false_implies, implies_true, ne_eq, Classical.not_not, Int.cast_ofNat_Int, ite_true, seval, and_self, n_aload, n_aload_n, n_goto, n_i2l, n_iaload, n_iastore, n_iconst, n_ifCond, n_if_icmp, n_iload, n_iload_n, n_ireturn, n_istore, n_isub, n_lastore, n_lconst, n_ldc2_w, n_lor, n_lshl, ci2, cj2, d2_0, d2_1, d2_2, d2_3, d2_4, d2_7, d2_9, d2_10, d2_11, d2_12, d2_13, d2_14, d2_15, d2_16, d2_17, d2_18, d2_19, d2_20, d2_21, d2_23, d2_24, d2_25, d2_26, d2_27, d2_28, d2_29, d2_32, d2_33, d2_36, d2_37, d2_38, d2_39, d2_40, d2_42, d2_43, d2_44, d2_45, d2_46, d2_47, d2_50, d2_51, d2_54, d2_55, d2_57, d2_60, d2_61, d2_62, d2_63, d2_64, d2_67, d2_69, d2_70, d2_71, d2_72, d2_73, d2_74, d2_75, d2_76, d2_77, d2_78, d2_81, d2_82, d2_83, d2_85, d2_86, d2_87, d2_88, d2_89, d2_90, d2_92, d2_95, d2_97, d2_98, d2_99, d2_100, d2_101, d2_102, d2_103, d2_104, d2_105, d2_106, d2_107, d2_108, d2_110, d2_111, d2_112, d2_113, d2_114, d2_115, d2_116, d2_117, d2_118, d2_119, d2_120, d2_121, d2_122, d2_124, h]
set_option maxRecDepth 65536 in
set_option maxHeartbeats 4000000 in
theorem ws_8 (d f pa : Int32) (pr co : Addr) (g : Int32) : wpo prog_86_method_16_code ci2 cj2 [] 90 74 [.val (.int d), .val (.int f), .val (.int pa), .val (.ref pr), .val (.ref co), .unset] [.int g, .int f, .int 0, .ref co] (fun b M u => b = 82 ∧ M = [.val (.int d), .val (.int f), .val (.int pa), .val (.ref pr), .val (.ref co), .unset] ∧ u = [.long (own_c10 f g), .int 0, .ref co]) := by
  simp only [r_wp0, r_wpS, r_nxt, r_stop0, r_stopS, r_go, r_goIf, r_fork, r_tgt, r_okO, r_gI, r_gJ, r_gA, r_pI, r_pJ, r_pA, r_p1r, r_p1i, r_pII, r_pJJ, r_pJI, r_fnd0, r_fndS, r_gC, r_gC0, r_gB, r_st1, r_st2, r_eq, r_ne, r_lt, r_ge, r_gt, r_le, r_eqL, r_neL, r_ltL, r_geL, r_gtL, r_leL, r_f0, r_f1, r_f2, r_f3, r_im1, r_i0, r_i1, r_i2, r_i3, r_i4, r_i5, r_i7, r_l0, r_l1, lget_z, lget_s, lput_z, lput_s, one_unset, one_int, one_ref, two_unset, two_long, cond_true, cond_false, true_and, and_true, not_true_eq_false, not_false_eq_true, true_implies, false_implies, implies_true, ne_eq, Classical.not_not, Int.cast_ofNat_Int, ite_true, seval, and_self, n_aload, n_aload_n, n_goto, n_i2l, n_iaload, n_iastore, n_iconst, n_ifCond, n_if_icmp, n_iload, n_iload_n, n_ireturn, n_istore, n_isub, n_lastore, n_lconst, n_ldc2_w, n_lor, n_lshl, ci2, cj2, d2_0, d2_1, d2_2, d2_3, d2_4, d2_7, d2_9, d2_10, d2_11, d2_12, d2_13, d2_14, d2_15, d2_16, d2_17, d2_18, d2_19, d2_20, d2_21, d2_23, d2_24, d2_25, d2_26, d2_27, d2_28, d2_29, d2_32, d2_33, d2_36, d2_37, d2_38, d2_39, d2_40, d2_42, d2_43, d2_44, d2_45, d2_46, d2_47, d2_50, d2_51, d2_54, d2_55, d2_57, d2_60, d2_61, d2_62, d2_63, d2_64, d2_67, d2_69, d2_70, d2_71, d2_72, d2_73, d2_74, d2_75, d2_76, d2_77, d2_78, d2_81, d2_82, d2_83, d2_85, d2_86, d2_87, d2_88, d2_89, d2_90, d2_92, d2_95, d2_97, d2_98, d2_99, d2_100, d2_101, d2_102, d2_103, d2_104, d2_105, d2_106, d2_107, d2_108, d2_110, d2_111, d2_112, d2_113, d2_114, d2_115, d2_116, d2_117, d2_118, d2_119, d2_120, d2_121, d2_122, d2_124, own_c10]
set_option maxRecDepth 65536 in
set_option maxHeartbeats 4000000 in
theorem ws_9 (d f pa : Int32) (pr co : Addr) : wpo prog_86_method_16_code ci2 cj2 [] 90 83 [.val (.int d), .val (.int f), .val (.int pa), .val (.ref pr), .val (.ref co), .unset] [] (fun b M u => b = 88 ∧ M = [.val (.int d), .val (.int f), .val (.int pa), .val (.ref pr), .val (.ref co), .unset] ∧ u = [.long pa.toInt64, .int 1, .ref co]) := by
  simp only [r_wp0, r_wpS, r_nxt, r_stop0, r_stopS, r_go, r_goIf, r_fork, r_tgt, r_okO, r_gI, r_gJ, r_gA, r_pI, r_pJ, r_pA, r_p1r, r_p1i, r_pII, r_pJJ, r_pJI, r_fnd0, r_fndS, r_gC, r_gC0, r_gB, r_st1, r_st2, r_eq, r_ne, r_lt, r_ge, r_gt, r_le, r_eqL, r_neL, r_ltL, r_geL, r_gtL, r_leL, r_f0, r_f1, r_f2, r_f3, r_im1, r_i0, r_i1, r_i2, r_i3, r_i4, r_i5, r_i7, r_l0, r_l1, lget_z, lget_s, lput_z, lput_s, one_unset, one_int, one_ref, two_unset, two_long, cond_true, cond_false, true_and, and_true, not_true_eq_false, not_false_eq_true, true_implies, false_implies, implies_true, ne_eq, Classical.not_not, Int.cast_ofNat_Int, ite_true, seval, and_self, n_aload, n_aload_n, n_goto, n_i2l, n_iaload, n_iastore, n_iconst, n_ifCond, n_if_icmp, n_iload, n_iload_n, n_ireturn, n_istore, n_isub, n_lastore, n_lconst, n_ldc2_w, n_lor, n_lshl, ci2, cj2, d2_0, d2_1, d2_2, d2_3, d2_4, d2_7, d2_9, d2_10, d2_11, d2_12, d2_13, d2_14, d2_15, d2_16, d2_17, d2_18, d2_19, d2_20, d2_21, d2_23, d2_24, d2_25, d2_26, d2_27, d2_28, d2_29, d2_32, d2_33, d2_36, d2_37, d2_38, d2_39, d2_40, d2_42, d2_43, d2_44, d2_45, d2_46, d2_47, d2_50, d2_51, d2_54, d2_55, d2_57, d2_60, d2_61, d2_62, d2_63, d2_64, d2_67, d2_69, d2_70, d2_71, d2_72, d2_73, d2_74, d2_75, d2_76, d2_77, d2_78, d2_81, d2_82, d2_83, d2_85, d2_86, d2_87, d2_88, d2_89, d2_90, d2_92, d2_95, d2_97, d2_98, d2_99, d2_100, d2_101, d2_102, d2_103, d2_104, d2_105, d2_106, d2_107, d2_108, d2_110, d2_111, d2_112, d2_113, d2_114, d2_115, d2_116, d2_117, d2_118, d2_119, d2_120, d2_121, d2_122, d2_124]
set_option maxRecDepth 65536 in
set_option maxHeartbeats 4000000 in
theorem ws_10 (d f pa : Int32) (pr co : Addr) : wpo prog_86_method_16_code ci2 cj2 [110] 90 89 [.val (.int d), .val (.int f), .val (.int pa), .val (.ref pr), .val (.ref co), .unset] [] (fun b M u => b = 110 ∧ M = [.val (.int d), .val (.int f), .val (.int pa), .val (.ref pr), .val (.ref co), .val (.int 2)] ∧ u = []) := by
  simp only [r_wp0, r_wpS, r_nxt, r_stop0, r_stopS, r_go, r_goIf, r_fork, r_tgt, r_okO, r_gI, r_gJ, r_gA, r_pI, r_pJ, r_pA, r_p1r, r_p1i, r_pII, r_pJJ, r_pJI, r_fnd0, r_fndS, r_gC, r_gC0, r_gB, r_st1, r_st2, r_eq, r_ne, r_lt, r_ge, r_gt, r_le, r_eqL, r_neL, r_ltL, r_geL, r_gtL, r_leL, r_f0, r_f1, r_f2, r_f3, r_im1, r_i0, r_i1, r_i2, r_i3, r_i4, r_i5, r_i7, r_l0, r_l1, lget_z, lget_s, lput_z, lput_s, one_unset, one_int, one_ref, two_unset, two_long, cond_true, cond_false, true_and, and_true, not_true_eq_false, not_false_eq_true, true_implies, false_implies, implies_true, ne_eq, Classical.not_not, Int.cast_ofNat_Int, ite_true, seval, and_self, n_aload, n_aload_n, n_goto, n_i2l, n_iaload, n_iastore, n_iconst, n_ifCond, n_if_icmp, n_iload, n_iload_n, n_ireturn, n_istore, n_isub, n_lastore, n_lconst, n_ldc2_w, n_lor, n_lshl, ci2, cj2, d2_0, d2_1, d2_2, d2_3, d2_4, d2_7, d2_9, d2_10, d2_11, d2_12, d2_13, d2_14, d2_15, d2_16, d2_17, d2_18, d2_19, d2_20, d2_21, d2_23, d2_24, d2_25, d2_26, d2_27, d2_28, d2_29, d2_32, d2_33, d2_36, d2_37, d2_38, d2_39, d2_40, d2_42, d2_43, d2_44, d2_45, d2_46, d2_47, d2_50, d2_51, d2_54, d2_55, d2_57, d2_60, d2_61, d2_62, d2_63, d2_64, d2_67, d2_69, d2_70, d2_71, d2_72, d2_73, d2_74, d2_75, d2_76, d2_77, d2_78, d2_81, d2_82, d2_83, d2_85, d2_86, d2_87, d2_88, d2_89, d2_90, d2_92, d2_95, d2_97, d2_98, d2_99, d2_100, d2_101, d2_102, d2_103, d2_104, d2_105, d2_106, d2_107, d2_108, d2_110, d2_111, d2_112, d2_113, d2_114, d2_115, d2_116, d2_117, d2_118, d2_119, d2_120, d2_121, d2_122, d2_124]
set_option maxRecDepth 65536 in
set_option maxHeartbeats 4000000 in
theorem ws_11 (d f pa : Int32) (pr co : Addr) : wpo prog_86_method_16_code ci2 cj2 [] 90 64 [.val (.int d), .val (.int f), .val (.int pa), .val (.ref pr), .val (.ref co), .unset] [.int f, .int f] (fun b M u => b = 101 ∧ M = [.val (.int d), .val (.int f), .val (.int pa), .val (.ref pr), .val (.ref co), .unset] ∧ u = [.int 2, .ref pr, .int pa, .int 0, .ref co]) := by
  simp only [r_wp0, r_wpS, r_nxt, r_stop0, r_stopS, r_go, r_goIf, r_fork, r_tgt, r_okO, r_gI, r_gJ, r_gA, r_pI, r_pJ, r_pA, r_p1r, r_p1i, r_pII, r_pJJ, r_pJI, r_fnd0, r_fndS, r_gC, r_gC0, r_gB, r_st1, r_st2, r_eq, r_ne, r_lt, r_ge, r_gt, r_le, r_eqL, r_neL, r_ltL, r_geL, r_gtL, r_leL, r_f0, r_f1, r_f2, r_f3, r_im1, r_i0, r_i1, r_i2, r_i3, r_i4, r_i5, r_i7, r_l0, r_l1, lget_z, lget_s, lput_z, lput_s, one_unset, one_int, one_ref, two_unset, two_long, cond_true, cond_false, true_and, and_true, not_true_eq_false, not_false_eq_true, true_implies, false_implies, implies_true, ne_eq, Classical.not_not, Int.cast_ofNat_Int, ite_true, seval, and_self, n_aload, n_aload_n, n_goto, n_i2l, n_iaload, n_iastore, n_iconst, n_ifCond, n_if_icmp, n_iload, n_iload_n, n_ireturn, n_istore, n_isub, n_lastore, n_lconst, n_ldc2_w, n_lor, n_lshl, ci2, cj2, d2_0, d2_1, d2_2, d2_3, d2_4, d2_7, d2_9, d2_10, d2_11, d2_12, d2_13, d2_14, d2_15, d2_16, d2_17, d2_18, d2_19, d2_20, d2_21, d2_23, d2_24, d2_25, d2_26, d2_27, d2_28, d2_29, d2_32, d2_33, d2_36, d2_37, d2_38, d2_39, d2_40, d2_42, d2_43, d2_44, d2_45, d2_46, d2_47, d2_50, d2_51, d2_54, d2_55, d2_57, d2_60, d2_61, d2_62, d2_63, d2_64, d2_67, d2_69, d2_70, d2_71, d2_72, d2_73, d2_74, d2_75, d2_76, d2_77, d2_78, d2_81, d2_82, d2_83, d2_85, d2_86, d2_87, d2_88, d2_89, d2_90, d2_92, d2_95, d2_97, d2_98, d2_99, d2_100, d2_101, d2_102, d2_103, d2_104, d2_105, d2_106, d2_107, d2_108, d2_110, d2_111, d2_112, d2_113, d2_114, d2_115, d2_116, d2_117, d2_118, d2_119, d2_120, d2_121, d2_122, d2_124]
set_option maxRecDepth 65536 in
set_option maxHeartbeats 4000000 in
theorem ws_12 (d f pa : Int32) (pr co : Addr) (g : Int32) : wpo prog_86_method_16_code ci2 cj2 [] 90 102 [.val (.int d), .val (.int f), .val (.int pa), .val (.ref pr), .val (.ref co), .unset] [.int g, .int pa, .int 0, .ref co] (fun b M u => b = 106 ∧ M = [.val (.int d), .val (.int f), .val (.int pa), .val (.ref pr), .val (.ref co), .unset] ∧ u = [.long (own_c20 pa g), .int 0, .ref co]) := by
  simp only [r_wp0, r_wpS, r_nxt, r_stop0, r_stopS, r_go, r_goIf, r_fork, r_tgt, r_okO, r_gI, r_gJ, r_gA, r_pI, r_pJ, r_pA, r_p1r, r_p1i, r_pII, r_pJJ, r_pJI, r_fnd0, r_fndS, r_gC, r_gC0, r_gB, r_st1, r_st2, r_eq, r_ne, r_lt, r_ge, r_gt, r_le, r_eqL, r_neL, r_ltL, r_geL, r_gtL, r_leL, r_f0, r_f1, r_f2, r_f3, r_im1, r_i0, r_i1, r_i2, r_i3, r_i4, r_i5, r_i7, r_l0, r_l1, lget_z, lget_s, lput_z, lput_s, one_unset, one_int, one_ref, two_unset, two_long, cond_true, cond_false, true_and, and_true, not_true_eq_false, not_false_eq_true, true_implies, false_implies, implies_true, ne_eq, Classical.not_not, Int.cast_ofNat_Int, ite_true, seval, and_self, n_aload, n_aload_n, n_goto, n_i2l, n_iaload, n_iastore, n_iconst, n_ifCond, n_if_icmp, n_iload, n_iload_n, n_ireturn, n_istore, n_isub, n_lastore, n_lconst, n_ldc2_w, n_lor, n_lshl, ci2, cj2, d2_0, d2_1, d2_2, d2_3, d2_4, d2_7, d2_9, d2_10, d2_11, d2_12, d2_13, d2_14, d2_15, d2_16, d2_17, d2_18, d2_19, d2_20, d2_21, d2_23, d2_24, d2_25, d2_26, d2_27, d2_28, d2_29, d2_32, d2_33, d2_36, d2_37, d2_38, d2_39, d2_40, d2_42, d2_43, d2_44, d2_45, d2_46, d2_47, d2_50, d2_51, d2_54, d2_55, d2_57, d2_60, d2_61, d2_62, d2_63, d2_64, d2_67, d2_69, d2_70, d2_71, d2_72, d2_73, d2_74, d2_75, d2_76, d2_77, d2_78, d2_81, d2_82, d2_83, d2_85, d2_86, d2_87, d2_88, d2_89, d2_90, d2_92, d2_95, d2_97, d2_98, d2_99, d2_100, d2_101, d2_102, d2_103, d2_104, d2_105, d2_106, d2_107, d2_108, d2_110, d2_111, d2_112, d2_113, d2_114, d2_115, d2_116, d2_117, d2_118, d2_119, d2_120, d2_121, d2_122, d2_124, own_c20]
set_option maxRecDepth 65536 in
set_option maxHeartbeats 4000000 in
theorem ws_13 (d f pa : Int32) (pr co : Addr) : wpo prog_86_method_16_code ci2 cj2 [110] 90 107 [.val (.int d), .val (.int f), .val (.int pa), .val (.ref pr), .val (.ref co), .unset] [] (fun b M u => b = 110 ∧ M = [.val (.int d), .val (.int f), .val (.int pa), .val (.ref pr), .val (.ref co), .val (.int 1)] ∧ u = []) := by
  simp only [r_wp0, r_wpS, r_nxt, r_stop0, r_stopS, r_go, r_goIf, r_fork, r_tgt, r_okO, r_gI, r_gJ, r_gA, r_pI, r_pJ, r_pA, r_p1r, r_p1i, r_pII, r_pJJ, r_pJI, r_fnd0, r_fndS, r_gC, r_gC0, r_gB, r_st1, r_st2, r_eq, r_ne, r_lt, r_ge, r_gt, r_le, r_eqL, r_neL, r_ltL, r_geL, r_gtL, r_leL, r_f0, r_f1, r_f2, r_f3, r_im1, r_i0, r_i1, r_i2, r_i3, r_i4, r_i5, r_i7, r_l0, r_l1, lget_z, lget_s, lput_z, lput_s, one_unset, one_int, one_ref, two_unset, two_long, cond_true, cond_false, true_and, and_true, not_true_eq_false, not_false_eq_true, true_implies, false_implies, implies_true, ne_eq, Classical.not_not, Int.cast_ofNat_Int, ite_true, seval, and_self, n_aload, n_aload_n, n_goto, n_i2l, n_iaload, n_iastore, n_iconst, n_ifCond, n_if_icmp, n_iload, n_iload_n, n_ireturn, n_istore, n_isub, n_lastore, n_lconst, n_ldc2_w, n_lor, n_lshl, ci2, cj2, d2_0, d2_1, d2_2, d2_3, d2_4, d2_7, d2_9, d2_10, d2_11, d2_12, d2_13, d2_14, d2_15, d2_16, d2_17, d2_18, d2_19, d2_20, d2_21, d2_23, d2_24, d2_25, d2_26, d2_27, d2_28, d2_29, d2_32, d2_33, d2_36, d2_37, d2_38, d2_39, d2_40, d2_42, d2_43, d2_44, d2_45, d2_46, d2_47, d2_50, d2_51, d2_54, d2_55, d2_57, d2_60, d2_61, d2_62, d2_63, d2_64, d2_67, d2_69, d2_70, d2_71, d2_72, d2_73, d2_74, d2_75, d2_76, d2_77, d2_78, d2_81, d2_82, d2_83, d2_85, d2_86, d2_87, d2_88, d2_89, d2_90, d2_92, d2_95, d2_97, d2_98, d2_99, d2_100, d2_101, d2_102, d2_103, d2_104, d2_105, d2_106, d2_107, d2_108, d2_110, d2_111, d2_112, d2_113, d2_114, d2_115, d2_116, d2_117, d2_118, d2_119, d2_120, d2_121, d2_122, d2_124]
set_option maxRecDepth 65536 in
set_option maxHeartbeats 4000000 in
theorem ws_14 (d f pa : Int32) (pr co : Addr) (n : Int32) : wpo prog_86_method_16_code ci2 cj2 [] 90 110 [.val (.int d), .val (.int f), .val (.int pa), .val (.ref pr), .val (.ref co), .val (.int n)] [] (fun b M u => b = 113 ∧ M = [.val (.int d), .val (.int f), .val (.int pa), .val (.ref pr), .val (.ref co), .val (.int n)] ∧ u = [.int d, .int 0, .ref pr]) := by
  simp only [r_wp0, r_wpS, r_nxt, r_stop0, r_stopS, r_go, r_goIf, r_fork, r_tgt, r_okO, r_gI, r_gJ, r_gA, r_pI, r_pJ, r_pA, r_p1r, r_p1i, r_pII, r_pJJ, r_pJI, r_fnd0, r_fndS, r_gC, r_gC0, r_gB, r_st1, r_st2, r_eq, r_ne, r_lt, r_ge, r_gt, r_le, r_eqL, r_neL, r_ltL, r_geL, r_gtL, r_leL, r_f0, r_f1, r_f2, r_f3, r_im1, r_i0, r_i1, r_i2, r_i3, r_i4, r_i5, r_i7, r_l0, r_l1, lget_z, lget_s, lput_z, lput_s, one_unset, one_int, one_ref, two_unset, two_long, cond_true, cond_false, true_and, and_true, not_true_eq_false, not_false_eq_true, true_implies, false_implies, implies_true, ne_eq, Classical.not_not, Int.cast_ofNat_Int, ite_true, seval, and_self, n_aload, n_aload_n, n_goto, n_i2l, n_iaload, n_iastore, n_iconst, n_ifCond, n_if_icmp, n_iload, n_iload_n, n_ireturn, n_istore, n_isub, n_lastore, n_lconst, n_ldc2_w, n_lor, n_lshl, ci2, cj2, d2_0, d2_1, d2_2, d2_3, d2_4, d2_7, d2_9, d2_10, d2_11, d2_12, d2_13, d2_14, d2_15, d2_16, d2_17, d2_18, d2_19, d2_20, d2_21, d2_23, d2_24, d2_25, d2_26, d2_27, d2_28, d2_29, d2_32, d2_33, d2_36, d2_37, d2_38, d2_39, d2_40, d2_42, d2_43, d2_44, d2_45, d2_46, d2_47, d2_50, d2_51, d2_54, d2_55, d2_57, d2_60, d2_61, d2_62, d2_63, d2_64, d2_67, d2_69, d2_70, d2_71, d2_72, d2_73, d2_74, d2_75, d2_76, d2_77, d2_78, d2_81, d2_82, d2_83, d2_85, d2_86, d2_87, d2_88, d2_89, d2_90, d2_92, d2_95, d2_97, d2_98, d2_99, d2_100, d2_101, d2_102, d2_103, d2_104, d2_105, d2_106, d2_107, d2_108, d2_110, d2_111, d2_112, d2_113, d2_114, d2_115, d2_116, d2_117, d2_118, d2_119, d2_120, d2_121, d2_122, d2_124]
set_option maxRecDepth 65536 in
set_option maxHeartbeats 4000000 in
theorem ws_15 (d f pa : Int32) (pr co : Addr) (n : Int32) : wpo prog_86_method_16_code ci2 cj2 [] 90 114 [.val (.int d), .val (.int f), .val (.int pa), .val (.ref pr), .val (.ref co), .val (.int n)] [] (fun b M u => b = 117 ∧ M = [.val (.int d), .val (.int f), .val (.int pa), .val (.ref pr), .val (.ref co), .val (.int n)] ∧ u = [.int f, .int 1, .ref pr]) := by
  simp only [r_wp0, r_wpS, r_nxt, r_stop0, r_stopS, r_go, r_goIf, r_fork, r_tgt, r_okO, r_gI, r_gJ, r_gA, r_pI, r_pJ, r_pA, r_p1r, r_p1i, r_pII, r_pJJ, r_pJI, r_fnd0, r_fndS, r_gC, r_gC0, r_gB, r_st1, r_st2, r_eq, r_ne, r_lt, r_ge, r_gt, r_le, r_eqL, r_neL, r_ltL, r_geL, r_gtL, r_leL, r_f0, r_f1, r_f2, r_f3, r_im1, r_i0, r_i1, r_i2, r_i3, r_i4, r_i5, r_i7, r_l0, r_l1, lget_z, lget_s, lput_z, lput_s, one_unset, one_int, one_ref, two_unset, two_long, cond_true, cond_false, true_and, and_true, not_true_eq_false, not_false_eq_true, true_implies, false_implies, implies_true, ne_eq, Classical.not_not, Int.cast_ofNat_Int, ite_true, seval, and_self, n_aload, n_aload_n, n_goto, n_i2l, n_iaload, n_iastore, n_iconst, n_ifCond, n_if_icmp, n_iload, n_iload_n, n_ireturn, n_istore, n_isub, n_lastore, n_lconst, n_ldc2_w, n_lor, n_lshl, ci2, cj2, d2_0, d2_1, d2_2, d2_3, d2_4, d2_7, d2_9, d2_10, d2_11, d2_12, d2_13, d2_14, d2_15, d2_16, d2_17, d2_18, d2_19, d2_20, d2_21, d2_23, d2_24, d2_25, d2_26, d2_27, d2_28, d2_29, d2_32, d2_33, d2_36, d2_37, d2_38, d2_39, d2_40, d2_42, d2_43, d2_44, d2_45, d2_46, d2_47, d2_50, d2_51, d2_54, d2_55, d2_57, d2_60, d2_61, d2_62, d2_63, d2_64, d2_67, d2_69, d2_70, d2_71, d2_72, d2_73, d2_74, d2_75, d2_76, d2_77, d2_78, d2_81, d2_82, d2_83, d2_85, d2_86, d2_87, d2_88, d2_89, d2_90, d2_92, d2_95, d2_97, d2_98, d2_99, d2_100, d2_101, d2_102, d2_103, d2_104, d2_105, d2_106, d2_107, d2_108, d2_110, d2_111, d2_112, d2_113, d2_114, d2_115, d2_116, d2_117, d2_118, d2_119, d2_120, d2_121, d2_122, d2_124]
set_option maxRecDepth 65536 in
set_option maxHeartbeats 4000000 in
theorem ws_16 (d f pa : Int32) (pr co : Addr) (n : Int32) : wpo prog_86_method_16_code ci2 cj2 [] 90 118 [.val (.int d), .val (.int f), .val (.int pa), .val (.ref pr), .val (.ref co), .val (.int n)] [] (fun b M u => b = 121 ∧ M = [.val (.int d), .val (.int f), .val (.int pa), .val (.ref pr), .val (.ref co), .val (.int n)] ∧ u = [.int pa, .int 2, .ref pr]) := by
  simp only [r_wp0, r_wpS, r_nxt, r_stop0, r_stopS, r_go, r_goIf, r_fork, r_tgt, r_okO, r_gI, r_gJ, r_gA, r_pI, r_pJ, r_pA, r_p1r, r_p1i, r_pII, r_pJJ, r_pJI, r_fnd0, r_fndS, r_gC, r_gC0, r_gB, r_st1, r_st2, r_eq, r_ne, r_lt, r_ge, r_gt, r_le, r_eqL, r_neL, r_ltL, r_geL, r_gtL, r_leL, r_f0, r_f1, r_f2, r_f3, r_im1, r_i0, r_i1, r_i2, r_i3, r_i4, r_i5, r_i7, r_l0, r_l1, lget_z, lget_s, lput_z, lput_s, one_unset, one_int, one_ref, two_unset, two_long, cond_true, cond_false, true_and, and_true, not_true_eq_false, not_false_eq_true, true_implies, false_implies, implies_true, ne_eq, Classical.not_not, Int.cast_ofNat_Int, ite_true, seval, and_self, n_aload, n_aload_n, n_goto, n_i2l, n_iaload, n_iastore, n_iconst, n_ifCond, n_if_icmp, n_iload, n_iload_n, n_ireturn, n_istore, n_isub, n_lastore, n_lconst, n_ldc2_w, n_lor, n_lshl, ci2, cj2, d2_0, d2_1, d2_2, d2_3, d2_4, d2_7, d2_9, d2_10, d2_11, d2_12, d2_13, d2_14, d2_15, d2_16, d2_17, d2_18, d2_19, d2_20, d2_21, d2_23, d2_24, d2_25, d2_26, d2_27, d2_28, d2_29, d2_32, d2_33, d2_36, d2_37, d2_38, d2_39, d2_40, d2_42, d2_43, d2_44, d2_45, d2_46, d2_47, d2_50, d2_51, d2_54, d2_55, d2_57, d2_60, d2_61, d2_62, d2_63, d2_64, d2_67, d2_69, d2_70, d2_71, d2_72, d2_73, d2_74, d2_75, d2_76, d2_77, d2_78, d2_81, d2_82, d2_83, d2_85, d2_86, d2_87, d2_88, d2_89, d2_90, d2_92, d2_95, d2_97, d2_98, d2_99, d2_100, d2_101, d2_102, d2_103, d2_104, d2_105, d2_106, d2_107, d2_108, d2_110, d2_111, d2_112, d2_113, d2_114, d2_115, d2_116, d2_117, d2_118, d2_119, d2_120, d2_121, d2_122, d2_124]
set_option maxRecDepth 65536 in
set_option maxHeartbeats 4000000 in
theorem ws_17 (d f pa : Int32) (pr co : Addr) (n : Int32) : wpo prog_86_method_16_code ci2 cj2 [] 90 122 [.val (.int d), .val (.int f), .val (.int pa), .val (.ref pr), .val (.ref co), .val (.int n)] [] (fun b M u => decode prog_86_method_16_code b = .ok (.ireturn, 1) ∧ u = [.int n]) := by
  simp only [r_wp0, r_wpS, r_nxt, r_stop0, r_stopS, r_go, r_goIf, r_fork, r_tgt, r_okO, r_gI, r_gJ, r_gA, r_pI, r_pJ, r_pA, r_p1r, r_p1i, r_pII, r_pJJ, r_pJI, r_fnd0, r_fndS, r_gC, r_gC0, r_gB, r_st1, r_st2, r_eq, r_ne, r_lt, r_ge, r_gt, r_le, r_eqL, r_neL, r_ltL, r_geL, r_gtL, r_leL, r_f0, r_f1, r_f2, r_f3, r_im1, r_i0, r_i1, r_i2, r_i3, r_i4, r_i5, r_i7, r_l0, r_l1, lget_z, lget_s, lput_z, lput_s, one_unset, one_int, one_ref, two_unset, two_long, cond_true, cond_false, true_and, and_true, not_true_eq_false, not_false_eq_true, true_implies, false_implies, implies_true, ne_eq, Classical.not_not, Int.cast_ofNat_Int, ite_true, seval, and_self, n_aload, n_aload_n, n_goto, n_i2l, n_iaload, n_iastore, n_iconst, n_ifCond, n_if_icmp, n_iload, n_iload_n, n_ireturn, n_istore, n_isub, n_lastore, n_lconst, n_ldc2_w, n_lor, n_lshl, ci2, cj2, d2_0, d2_1, d2_2, d2_3, d2_4, d2_7, d2_9, d2_10, d2_11, d2_12, d2_13, d2_14, d2_15, d2_16, d2_17, d2_18, d2_19, d2_20, d2_21, d2_23, d2_24, d2_25, d2_26, d2_27, d2_28, d2_29, d2_32, d2_33, d2_36, d2_37, d2_38, d2_39, d2_40, d2_42, d2_43, d2_44, d2_45, d2_46, d2_47, d2_50, d2_51, d2_54, d2_55, d2_57, d2_60, d2_61, d2_62, d2_63, d2_64, d2_67, d2_69, d2_70, d2_71, d2_72, d2_73, d2_74, d2_75, d2_76, d2_77, d2_78, d2_81, d2_82, d2_83, d2_85, d2_86, d2_87, d2_88, d2_89, d2_90, d2_92, d2_95, d2_97, d2_98, d2_99, d2_100, d2_101, d2_102, d2_103, d2_104, d2_105, d2_106, d2_107, d2_108, d2_110, d2_111, d2_112, d2_113, d2_114, d2_115, d2_116, d2_117, d2_118, d2_119, d2_120, d2_121, d2_122, d2_124]
set_option maxRecDepth 65536 in
set_option maxHeartbeats 4000000 in
theorem wl_0 (kd pd dd pf0 f0 : Int32) (ps : Int64) : wpo code ci0 cj0 [28] 90 0 [.val (.int kd), .val (.int pd), .val (.int dd), .val (.int pf0), .val (.int f0), .val (.long ps), .second, .unset, .unset, .unset, .unset, .unset, .unset, .unset, .unset, .unset, .unset, .unset, .unset, .unset, .unset, .unset, .unset, .unset, .unset] [] (fun b M u => b = 28 ∧ M = [.val (.int kd), .val (.int pd), .val (.int dd), .val (.int pf0), .val (.int f0), .val (.long ps), .second, .val (.int 2147483647), .val (.int (own_k kd)), .val (.int (own_z kd)), .unset, .unset, .unset, .unset, .unset, .unset, .unset, .unset, .unset, .unset, .unset, .unset, .unset, .unset, .unset] ∧ u = []) := by
  simp only [r_wp0, r_wpS, r_nxt, r_stop0, r_stopS, r_go, r_goIf, r_fork, r_tgt, r_okO, r_gI, r_gJ, r_gA, r_pI, r_pJ, r_pA, r_p1r, r_p1i, r_pII, r_pJJ, r_pJI, r_fnd0, r_fndS, r_gC, r_gC0, r_gB, r_st1, r_st2, r_eq, r_ne, r_lt, r_ge, r_gt, r_le, r_eqL, r_neL, r_ltL, r_geL, r_gtL, r_leL, r_f0, r_f1, r_f2, r_f3, r_im1, r_i0, r_i1, r_i2, r_i3, r_i4, r_i5, r_i7, r_l0, r_l1, lget_z, lget_s, lput_z, lput_s, one_unset, one_int, one_ref, two_unset, two_long, cond_true, cond_false, true_and, and_true, not_true_eq_false, not_false_eq_true, true_implies, false_implies, implies_true, ne_eq, Classical.not_not, Int.cast_ofNat_Int, ite_true, seval, and_self, n_aload, n_astore, n_bipush, n_goto, n_i2l, n_iaload, n_iand, n_iastore, n_iconst, n_ifCond, n_if_icmp, n_iload, n_iload_n, n_invokestatic, n_irem, n_ireturn, n_istore, n_isub, n_iushr, n_l2i, n_ladd, n_laload, n_land, n_lcmp, n_lconst, n_ldc, n_ldc2_w, n_lload, n_lstore, n_lushr, n_newarray, b_16, b_32, ci0, cj0, at_0, at_2, at_4, at_5, at_7, at_8, at_9, at_10, at_12, at_13, at_15, at_16, at_17, at_18, at_21, at_22, at_25, at_26, at_28, at_30, at_33, at_34, at_36, at_37, at_38, at_39, at_41, at_43, at_46, at_47, at_49, at_50, at_52, at_53, at_56, at_58, at_59, at_62, at_64, at_65, at_67, at_68, at_70, at_72, at_74, at_75, at_77, at_79, at_81, at_82, at_83, at_85, at_86, at_88, at_90, at_91, at_93, at_94, at_96, at_98, at_101, at_102, at_104, at_107, at_109, at_110, at_113, at_114, at_116, at_117, at_119, at_121, at_123, at_124, at_126, at_127, at_129, at_130, at_132, at_134, at_136, at_139, at_141, at_143, at_145, at_146, at_147, at_149, at_150, at_152, at_154, at_155, at_157, at_158, at_160, at_162, at_165, at_166, at_168, at_171, at_172, at_174, at_175, at_177, at_179, at_181, at_182, at_184, at_185, at_187, at_189, at_191, at_193, at_195, at_196, at_197, at_199, at_200, at_202, at_203, at_205, at_207, at_209, at_210, at_213, at_215, at_216, at_218, at_220, at_222, at_223, at_225, at_226, at_228, at_229, at_231, at_232, at_234, at_235, at_237, at_238, at_239, at_241, at_243, at_245, at_247, at_249, at_251, at_253, at_256, at_258, at_260, at_261, at_262, at_264, at_267, at_269, at_270, at_271, at_273, at_276, at_278, at_279, at_280, at_282, at_285, at_286, at_289, at_290, at_292, at_294, at_295, at_296, at_298, at_300, at_303, at_305, at_306, at_307, at_309, at_311, at_312, at_313, at_316, at_318, at_319, at_320, at_321, at_322, at_325, at_327, at_328, at_330, at_331, at_332, at_333, at_335, at_336, at_337, at_340, at_342, at_343, at_344, at_347, at_349, at_350, at_351, at_353, at_354, at_355, at_358, at_360, at_361, at_362, at_363, at_364, at_367, at_368, at_371, at_372, at_374, at_377, at_378, at_381, at_382, at_385, at_387, at_389, at_392, at_393, at_396, at_397, at_400, at_402, at_405, at_407, at_408, at_409, at_411, at_412, at_413, at_416, at_417, at_420, at_421, at_423, at_426, at_428, at_429, at_432, at_434, at_435, at_436, at_439, at_441, at_444, at_445, at_448, at_449, at_452, at_454, at_455, at_457, at_458, at_459, at_460, at_462, at_463, at_464, at_467, at_469, at_470, at_471, at_473, at_474, at_475, at_478, at_480, at_481, at_484, at_485, at_488, at_489, at_491, at_494, at_496, at_497, at_498, at_501, at_503, at_506, at_507, at_508, at_509, at_512, at_514, at_515, at_517, at_518, at_519, at_520, at_522, at_523, at_524, at_527, at_529, at_530, at_533, at_534, at_537, at_538, at_540, at_542, at_545, at_547, at_550, at_551, at_554, at_555, List.cons.injEq, Slot.val.injEq, Value.int.injEq, Value.long.injEq, own_k]
  all_goals (repeat' (first | refine And.intro ?_ ?_ | intro _))
  all_goals simp [own_k, own_z, own_m, own_pp, own_c01, *]
set_option maxRecDepth 65536 in
set_option maxHeartbeats 4000000 in
theorem wl_1 (kd pd dd pf0 f0 : Int32) (ps : Int64) (z : Int32) (h : ((pd &&& 2147483647) - 1) < 0) : wpo code ci0 cj0 [215] 90 28 [.val (.int kd), .val (.int pd), .val (.int dd), .val (.int pf0), .val (.int f0), .val (.long ps), .second, .val (.int 2147483647), .val (.int 0), .val (.int z), .unset, .unset, .unset, .unset, .unset, .unset, .unset, .unset, .unset, .unset, .unset, .unset, .unset, .unset, .unset] [] (fun b M u => b = 215 ∧ M = [.val (.int kd), .val (.int pd), .val (.int dd), .val (.int pf0), .val (.int f0), .val (.long ps), .second, .val (.int 2147483647), .val (.int 0), .val (.int z), .val (.int ((pd &&& 2147483647) - 1)), .val (.int (own_m dd)), .val (.int (pf0 &&& 2147483647)), .val (.int (f0 &&& 2147483647)), .val (.int (own_pp ps)), .val (.int (if z = 0 then ps.toInt32 &&& 2147483647 else 0)), .unset, .unset, .unset, .unset, .unset, .unset, .unset, .unset, .unset] ∧ u = []) := by
  simp only [r_wp0, r_wpS, r_nxt, r_stop0, r_stopS, r_go, r_goIf, r_fork, r_tgt, r_okO, r_gI, r_gJ, r_gA, r_pI, r_pJ, r_pA, r_p1r, r_p1i, r_pII, r_pJJ, r_pJI, r_fnd0, r_fndS, r_gC, r_gC0, r_gB, r_st1, r_st2, r_eq, r_ne, r_lt, r_ge, r_gt, r_le, r_eqL, r_neL, r_ltL, r_geL, r_gtL, r_leL, r_f0, r_f1, r_f2, r_f3, r_im1, r_i0, r_i1, r_i2, r_i3, r_i4, r_i5, r_i7, r_l0, r_l1, lget_z, lget_s, lput_z, lput_s, one_unset, one_int, one_ref, two_unset, two_long, cond_true, cond_false, true_and, and_true, not_true_eq_false, not_false_eq_true, true_implies, false_implies, implies_true, ne_eq, Classical.not_not, Int.cast_ofNat_Int, ite_true, seval, and_self, n_aload, n_astore, n_bipush, n_goto, n_i2l, n_iaload, n_iand, n_iastore, n_iconst, n_ifCond, n_if_icmp, n_iload, n_iload_n, n_invokestatic, n_irem, n_ireturn, n_istore, n_isub, n_iushr, n_l2i, n_ladd, n_laload, n_land, n_lcmp, n_lconst, n_ldc, n_ldc2_w, n_lload, n_lstore, n_lushr, n_newarray, b_16, b_32, ci0, cj0, at_0, at_2, at_4, at_5, at_7, at_8, at_9, at_10, at_12, at_13, at_15, at_16, at_17, at_18, at_21, at_22, at_25, at_26, at_28, at_30, at_33, at_34, at_36, at_37, at_38, at_39, at_41, at_43, at_46, at_47, at_49, at_50, at_52, at_53, at_56, at_58, at_59, at_62, at_64, at_65, at_67, at_68, at_70, at_72, at_74, at_75, at_77, at_79, at_81, at_82, at_83, at_85, at_86, at_88, at_90, at_91, at_93, at_94, at_96, at_98, at_101, at_102, at_104, at_107, at_109, at_110, at_113, at_114, at_116, at_117, at_119, at_121, at_123, at_124, at_126, at_127, at_129, at_130, at_132, at_134, at_136, at_139, at_141, at_143, at_145, at_146, at_147, at_149, at_150, at_152, at_154, at_155, at_157, at_158, at_160, at_162, at_165, at_166, at_168, at_171, at_172, at_174, at_175, at_177, at_179, at_181, at_182, at_184, at_185, at_187, at_189, at_191, at_193, at_195, at_196, at_197, at_199, at_200, at_202, at_203, at_205, at_207, at_209, at_210, at_213, at_215, at_216, at_218, at_220, at_222, at_223, at_225, at_226, at_228, at_229, at_231, at_232, at_234, at_235, at_237, at_238, at_239, at_241, at_243, at_245, at_247, at_249, at_251, at_253, at_256, at_258, at_260, at_261, at_262, at_264, at_267, at_269, at_270, at_271, at_273, at_276, at_278, at_279, at_280, at_282, at_285, at_286, at_289, at_290, at_292, at_294, at_295, at_296, at_298, at_300, at_303, at_305, at_306, at_307, at_309, at_311, at_312, at_313, at_316, at_318, at_319, at_320, at_321, at_322, at_325, at_327, at_328, at_330, at_331, at_332, at_333, at_335, at_336, at_337, at_340, at_342, at_343, at_344, at_347, at_349, at_350, at_351, at_353, at_354, at_355, at_358, at_360, at_361, at_362, at_363, at_364, at_367, at_368, at_371, at_372, at_374, at_377, at_378, at_381, at_382, at_385, at_387, at_389, at_392, at_393, at_396, at_397, at_400, at_402, at_405, at_407, at_408, at_409, at_411, at_412, at_413, at_416, at_417, at_420, at_421, at_423, at_426, at_428, at_429, at_432, at_434, at_435, at_436, at_439, at_441, at_444, at_445, at_448, at_449, at_452, at_454, at_455, at_457, at_458, at_459, at_460, at_462, at_463, at_464, at_467, at_469, at_470, at_471, at_473, at_474, at_475, at_478, at_480, at_481, at_484, at_485, at_488, at_489, at_491, at_494, at_496, at_497, at_498, at_501, at_503, at_506, at_507, at_508, at_509, at_512, at_514, at_515, at_517, at_518, at_519, at_520, at_522, at_523, at_524, at_527, at_529, at_530, at_533, at_534, at_537, at_538, at_540, at_542, at_545, at_547, at_550, at_551, at_554, at_555, List.cons.injEq, Slot.val.injEq, Value.int.injEq, Value.long.injEq, h, own_m, own_pp]
  all_goals (repeat' (first | refine And.intro ?_ ?_ | intro _))
  all_goals simp [own_k, own_z, own_m, own_pp, own_c01, *]
set_option maxRecDepth 65536 in
set_option maxHeartbeats 4000000 in
theorem wl_2 (kd pd dd pf0 f0 : Int32) (ps : Int64) (z : Int32) (h : ¬ ((pd &&& 2147483647) - 1) < 0) : wpo code ci0 cj0 [] 90 28 [.val (.int kd), .val (.int pd), .val (.int dd), .val (.int pf0), .val (.int f0), .val (.long ps), .second, .val (.int 2147483647), .val (.int 0), .val (.int z), .unset, .unset, .unset, .unset, .unset, .unset, .unset, .unset, .unset, .unset, .unset, .unset, .unset, .unset, .unset] [] (fun b M u => b = 59 ∧ M = [.val (.int kd), .val (.int pd), .val (.int dd), .val (.int pf0), .val (.int f0), .val (.long ps), .second, .val (.int 2147483647), .val (.int 0), .val (.int z), .val (.int ((pd &&& 2147483647) - 1)), .unset, .unset, .unset, .unset, .unset, .unset, .unset, .unset, .unset, .unset, .unset, .unset, .unset, .unset] ∧ u = [.int dd, .int ((pd &&& 2147483647) - 1)]) := by
  simp only [r_wp0, r_wpS, r_nxt, r_stop0, r_stopS, r_go, r_goIf, r_fork, r_tgt, r_okO, r_gI, r_gJ, r_gA, r_pI, r_pJ, r_pA, r_p1r, r_p1i, r_pII, r_pJJ, r_pJI, r_fnd0, r_fndS, r_gC, r_gC0, r_gB, r_st1, r_st2, r_eq, r_ne, r_lt, r_ge, r_gt, r_le, r_eqL, r_neL, r_ltL, r_geL, r_gtL, r_leL, r_f0, r_f1, r_f2, r_f3, r_im1, r_i0, r_i1, r_i2, r_i3, r_i4, r_i5, r_i7, r_l0, r_l1, lget_z, lget_s, lput_z, lput_s, one_unset, one_int, one_ref, two_unset, two_long, cond_true, cond_false, true_and, and_true, not_true_eq_false, not_false_eq_true, true_implies, false_implies, implies_true, ne_eq, Classical.not_not, Int.cast_ofNat_Int, ite_true, seval, and_self, n_aload, n_astore, n_bipush, n_goto, n_i2l, n_iaload, n_iand, n_iastore, n_iconst, n_ifCond, n_if_icmp, n_iload, n_iload_n, n_invokestatic, n_irem, n_ireturn, n_istore, n_isub, n_iushr, n_l2i, n_ladd, n_laload, n_land, n_lcmp, n_lconst, n_ldc, n_ldc2_w, n_lload, n_lstore, n_lushr, n_newarray, b_16, b_32, ci0, cj0, at_0, at_2, at_4, at_5, at_7, at_8, at_9, at_10, at_12, at_13, at_15, at_16, at_17, at_18, at_21, at_22, at_25, at_26, at_28, at_30, at_33, at_34, at_36, at_37, at_38, at_39, at_41, at_43, at_46, at_47, at_49, at_50, at_52, at_53, at_56, at_58, at_59, at_62, at_64, at_65, at_67, at_68, at_70, at_72, at_74, at_75, at_77, at_79, at_81, at_82, at_83, at_85, at_86, at_88, at_90, at_91, at_93, at_94, at_96, at_98, at_101, at_102, at_104, at_107, at_109, at_110, at_113, at_114, at_116, at_117, at_119, at_121, at_123, at_124, at_126, at_127, at_129, at_130, at_132, at_134, at_136, at_139, at_141, at_143, at_145, at_146, at_147, at_149, at_150, at_152, at_154, at_155, at_157, at_158, at_160, at_162, at_165, at_166, at_168, at_171, at_172, at_174, at_175, at_177, at_179, at_181, at_182, at_184, at_185, at_187, at_189, at_191, at_193, at_195, at_196, at_197, at_199, at_200, at_202, at_203, at_205, at_207, at_209, at_210, at_213, at_215, at_216, at_218, at_220, at_222, at_223, at_225, at_226, at_228, at_229, at_231, at_232, at_234, at_235, at_237, at_238, at_239, at_241, at_243, at_245, at_247, at_249, at_251, at_253, at_256, at_258, at_260, at_261, at_262, at_264, at_267, at_269, at_270, at_271, at_273, at_276, at_278, at_279, at_280, at_282, at_285, at_286, at_289, at_290, at_292, at_294, at_295, at_296, at_298, at_300, at_303, at_305, at_306, at_307, at_309, at_311, at_312, at_313, at_316, at_318, at_319, at_320, at_321, at_322, at_325, at_327, at_328, at_330, at_331, at_332, at_333, at_335, at_336, at_337, at_340, at_342, at_343, at_344, at_347, at_349, at_350, at_351, at_353, at_354, at_355, at_358, at_360, at_361, at_362, at_363, at_364, at_367, at_368, at_371, at_372, at_374, at_377, at_378, at_381, at_382, at_385, at_387, at_389, at_392, at_393, at_396, at_397, at_400, at_402, at_405, at_407, at_408, at_409, at_411, at_412, at_413, at_416, at_417, at_420, at_421, at_423, at_426, at_428, at_429, at_432, at_434, at_435, at_436, at_439, at_441, at_444, at_445, at_448, at_449, at_452, at_454, at_455, at_457, at_458, at_459, at_460, at_462, at_463, at_464, at_467, at_469, at_470, at_471, at_473, at_474, at_475, at_478, at_480, at_481, at_484, at_485, at_488, at_489, at_491, at_494, at_496, at_497, at_498, at_501, at_503, at_506, at_507, at_508, at_509, at_512, at_514, at_515, at_517, at_518, at_519, at_520, at_522, at_523, at_524, at_527, at_529, at_530, at_533, at_534, at_537, at_538, at_540, at_542, at_545, at_547, at_550, at_551, at_554, at_555, List.cons.injEq, Slot.val.injEq, Value.int.injEq, Value.long.injEq, h]
set_option maxRecDepth 65536 in
set_option maxHeartbeats 4000000 in
theorem wl_3 (kd pd dd pf0 f0 : Int32) (ps : Int64) (z : Int32) (pv d : Int32) : wpo code ci0 cj0 [215] 90 62 [.val (.int kd), .val (.int pd), .val (.int dd), .val (.int pf0), .val (.int f0), .val (.long ps), .second, .val (.int 2147483647), .val (.int 0), .val (.int z), .val (.int pv), .unset, .unset, .unset, .unset, .unset, .unset, .unset, .unset, .unset, .unset, .unset, .unset, .unset, .unset] [.int d] (fun b M u => b = 215 ∧ M = [.val (.int kd), .val (.int pd), .val (.int dd), .val (.int pf0), .val (.int f0), .val (.long ps), .second, .val (.int 2147483647), .val (.int 0), .val (.int z), .val (.int pv), .val (.int d), .val (.int (pf0 &&& 2147483647)), .val (.int (f0 &&& 2147483647)), .val (.int (own_pp ps)), .val (.int (if z = 0 then ps.toInt32 &&& 2147483647 else 0)), .unset, .unset, .unset, .unset, .unset, .unset, .unset, .unset, .unset] ∧ u = []) := by
  simp only [r_wp0, r_wpS, r_nxt, r_stop0, r_stopS, r_go, r_goIf, r_fork, r_tgt, r_okO, r_gI, r_gJ, r_gA, r_pI, r_pJ, r_pA, r_p1r, r_p1i, r_pII, r_pJJ, r_pJI, r_fnd0, r_fndS, r_gC, r_gC0, r_gB, r_st1, r_st2, r_eq, r_ne, r_lt, r_ge, r_gt, r_le, r_eqL, r_neL, r_ltL, r_geL, r_gtL, r_leL, r_f0, r_f1, r_f2, r_f3, r_im1, r_i0, r_i1, r_i2, r_i3, r_i4, r_i5, r_i7, r_l0, r_l1, lget_z, lget_s, lput_z, lput_s, one_unset, one_int, one_ref, two_unset, two_long, cond_true, cond_false, true_and, and_true, not_true_eq_false, not_false_eq_true, true_implies, false_implies, implies_true, ne_eq, Classical.not_not, Int.cast_ofNat_Int, ite_true, seval, and_self, n_aload, n_astore, n_bipush, n_goto, n_i2l, n_iaload, n_iand, n_iastore, n_iconst, n_ifCond, n_if_icmp, n_iload, n_iload_n, n_invokestatic, n_irem, n_ireturn, n_istore, n_isub, n_iushr, n_l2i, n_ladd, n_laload, n_land, n_lcmp, n_lconst, n_ldc, n_ldc2_w, n_lload, n_lstore, n_lushr, n_newarray, b_16, b_32, ci0, cj0, at_0, at_2, at_4, at_5, at_7, at_8, at_9, at_10, at_12, at_13, at_15, at_16, at_17, at_18, at_21, at_22, at_25, at_26, at_28, at_30, at_33, at_34, at_36, at_37, at_38, at_39, at_41, at_43, at_46, at_47, at_49, at_50, at_52, at_53, at_56, at_58, at_59, at_62, at_64, at_65, at_67, at_68, at_70, at_72, at_74, at_75, at_77, at_79, at_81, at_82, at_83, at_85, at_86, at_88, at_90, at_91, at_93, at_94, at_96, at_98, at_101, at_102, at_104, at_107, at_109, at_110, at_113, at_114, at_116, at_117, at_119, at_121, at_123, at_124, at_126, at_127, at_129, at_130, at_132, at_134, at_136, at_139, at_141, at_143, at_145, at_146, at_147, at_149, at_150, at_152, at_154, at_155, at_157, at_158, at_160, at_162, at_165, at_166, at_168, at_171, at_172, at_174, at_175, at_177, at_179, at_181, at_182, at_184, at_185, at_187, at_189, at_191, at_193, at_195, at_196, at_197, at_199, at_200, at_202, at_203, at_205, at_207, at_209, at_210, at_213, at_215, at_216, at_218, at_220, at_222, at_223, at_225, at_226, at_228, at_229, at_231, at_232, at_234, at_235, at_237, at_238, at_239, at_241, at_243, at_245, at_247, at_249, at_251, at_253, at_256, at_258, at_260, at_261, at_262, at_264, at_267, at_269, at_270, at_271, at_273, at_276, at_278, at_279, at_280, at_282, at_285, at_286, at_289, at_290, at_292, at_294, at_295, at_296, at_298, at_300, at_303, at_305, at_306, at_307, at_309, at_311, at_312, at_313, at_316, at_318, at_319, at_320, at_321, at_322, at_325, at_327, at_328, at_330, at_331, at_332, at_333, at_335, at_336, at_337, at_340, at_342, at_343, at_344, at_347, at_349, at_350, at_351, at_353, at_354, at_355, at_358, at_360, at_361, at_362, at_363, at_364, at_367, at_368, at_371, at_372, at_374, at_377, at_378, at_381, at_382, at_385, at_387, at_389, at_392, at_393, at_396, at_397, at_400, at_402, at_405, at_407, at_408, at_409, at_411, at_412, at_413, at_416, at_417, at_420, at_421, at_423, at_426, at_428, at_429, at_432, at_434, at_435, at_436, at_439, at_441, at_444, at_445, at_448, at_449, at_452, at_454, at_455, at_457, at_458, at_459, at_460, at_462, at_463, at_464, at_467, at_469, at_470, at_471, at_473, at_474, at_475, at_478, at_480, at_481, at_484, at_485, at_488, at_489, at_491, at_494, at_496, at_497, at_498, at_501, at_503, at_506, at_507, at_508, at_509, at_512, at_514, at_515, at_517, at_518, at_519, at_520, at_522, at_523, at_524, at_527, at_529, at_530, at_533, at_534, at_537, at_538, at_540, at_542, at_545, at_547, at_550, at_551, at_554, at_555, List.cons.injEq, Slot.val.injEq, Value.int.injEq, Value.long.injEq, own_pp]
  all_goals (repeat' (first | refine And.intro ?_ ?_ | intro _))
  all_goals simp [own_k, own_z, own_m, own_pp, own_c01, *]
set_option maxRecDepth 65536 in
set_option maxHeartbeats 4000000 in
theorem wl_4 (kd pd dd pf0 f0 : Int32) (ps : Int64) (z : Int32) : wpo code ci0 cj0 [] 90 28 [.val (.int kd), .val (.int pd), .val (.int dd), .val (.int pf0), .val (.int f0), .val (.long ps), .second, .val (.int 2147483647), .val (.int 1), .val (.int z), .unset, .unset, .unset, .unset, .unset, .unset, .unset, .unset, .unset, .unset, .unset, .unset, .unset, .unset, .unset] [] (fun b M u => b = 136 ∧ M = [.val (.int kd), .val (.int pd), .val (.int dd), .val (.int pf0), .val (.int f0), .val (.long ps), .second, .val (.int 2147483647), .val (.int 1), .val (.int z), .val (.int (pd &&& 2147483647)), .val (.int (pd &&& 2147483647)), .val (.int (own_m pf0)), .unset, .unset, .unset, .unset, .unset, .unset, .unset, .unset, .unset, .unset, .unset, .unset] ∧ u = [.int f0, .int (own_m pf0)]) := by
  simp only [r_wp0, r_wpS, r_nxt, r_stop0, r_stopS, r_go, r_goIf, r_fork, r_tgt, r_okO, r_gI, r_gJ, r_gA, r_pI, r_pJ, r_pA, r_p1r, r_p1i, r_pII, r_pJJ, r_pJI, r_fnd0, r_fndS, r_gC, r_gC0, r_gB, r_st1, r_st2, r_eq, r_ne, r_lt, r_ge, r_gt, r_le, r_eqL, r_neL, r_ltL, r_geL, r_gtL, r_leL, r_f0, r_f1, r_f2, r_f3, r_im1, r_i0, r_i1, r_i2, r_i3, r_i4, r_i5, r_i7, r_l0, r_l1, lget_z, lget_s, lput_z, lput_s, one_unset, one_int, one_ref, two_unset, two_long, cond_true, cond_false, true_and, and_true, not_true_eq_false, not_false_eq_true, true_implies, false_implies, implies_true, ne_eq, Classical.not_not, Int.cast_ofNat_Int, ite_true, seval, and_self, n_aload, n_astore, n_bipush, n_goto, n_i2l, n_iaload, n_iand, n_iastore, n_iconst, n_ifCond, n_if_icmp, n_iload, n_iload_n, n_invokestatic, n_irem, n_ireturn, n_istore, n_isub, n_iushr, n_l2i, n_ladd, n_laload, n_land, n_lcmp, n_lconst, n_ldc, n_ldc2_w, n_lload, n_lstore, n_lushr, n_newarray, b_16, b_32, ci0, cj0, at_0, at_2, at_4, at_5, at_7, at_8, at_9, at_10, at_12, at_13, at_15, at_16, at_17, at_18, at_21, at_22, at_25, at_26, at_28, at_30, at_33, at_34, at_36, at_37, at_38, at_39, at_41, at_43, at_46, at_47, at_49, at_50, at_52, at_53, at_56, at_58, at_59, at_62, at_64, at_65, at_67, at_68, at_70, at_72, at_74, at_75, at_77, at_79, at_81, at_82, at_83, at_85, at_86, at_88, at_90, at_91, at_93, at_94, at_96, at_98, at_101, at_102, at_104, at_107, at_109, at_110, at_113, at_114, at_116, at_117, at_119, at_121, at_123, at_124, at_126, at_127, at_129, at_130, at_132, at_134, at_136, at_139, at_141, at_143, at_145, at_146, at_147, at_149, at_150, at_152, at_154, at_155, at_157, at_158, at_160, at_162, at_165, at_166, at_168, at_171, at_172, at_174, at_175, at_177, at_179, at_181, at_182, at_184, at_185, at_187, at_189, at_191, at_193, at_195, at_196, at_197, at_199, at_200, at_202, at_203, at_205, at_207, at_209, at_210, at_213, at_215, at_216, at_218, at_220, at_222, at_223, at_225, at_226, at_228, at_229, at_231, at_232, at_234, at_235, at_237, at_238, at_239, at_241, at_243, at_245, at_247, at_249, at_251, at_253, at_256, at_258, at_260, at_261, at_262, at_264, at_267, at_269, at_270, at_271, at_273, at_276, at_278, at_279, at_280, at_282, at_285, at_286, at_289, at_290, at_292, at_294, at_295, at_296, at_298, at_300, at_303, at_305, at_306, at_307, at_309, at_311, at_312, at_313, at_316, at_318, at_319, at_320, at_321, at_322, at_325, at_327, at_328, at_330, at_331, at_332, at_333, at_335, at_336, at_337, at_340, at_342, at_343, at_344, at_347, at_349, at_350, at_351, at_353, at_354, at_355, at_358, at_360, at_361, at_362, at_363, at_364, at_367, at_368, at_371, at_372, at_374, at_377, at_378, at_381, at_382, at_385, at_387, at_389, at_392, at_393, at_396, at_397, at_400, at_402, at_405, at_407, at_408, at_409, at_411, at_412, at_413, at_416, at_417, at_420, at_421, at_423, at_426, at_428, at_429, at_432, at_434, at_435, at_436, at_439, at_441, at_444, at_445, at_448, at_449, at_452, at_454, at_455, at_457, at_458, at_459, at_460, at_462, at_463, at_464, at_467, at_469, at_470, at_471, at_473, at_474, at_475, at_478, at_480, at_481, at_484, at_485, at_488, at_489, at_491, at_494, at_496, at_497, at_498, at_501, at_503, at_506, at_507, at_508, at_509, at_512, at_514, at_515, at_517, at_518, at_519, at_520, at_522, at_523, at_524, at_527, at_529, at_530, at_533, at_534, at_537, at_538, at_540, at_542, at_545, at_547, at_550, at_551, at_554, at_555, List.cons.injEq, Slot.val.injEq, Value.int.injEq, Value.long.injEq, own_m]
  all_goals (repeat' (first | refine And.intro ?_ ?_ | intro _))
  all_goals simp [own_k, own_z, own_m, own_pp, own_c01, *]
set_option maxRecDepth 65536 in
set_option maxHeartbeats 4000000 in
theorem wl_5 (kd pd dd pf0 f0 : Int32) (ps : Int64) (z : Int32) (pv d pf f : Int32) : wpo code ci0 cj0 [215] 90 139 [.val (.int kd), .val (.int pd), .val (.int dd), .val (.int pf0), .val (.int f0), .val (.long ps), .second, .val (.int 2147483647), .val (.int 1), .val (.int z), .val (.int pv), .val (.int d), .val (.int pf), .unset, .unset, .unset, .unset, .unset, .unset, .unset, .unset, .unset, .unset, .unset, .unset] [.int f] (fun b M u => b = 215 ∧ M = [.val (.int kd), .val (.int pd), .val (.int dd), .val (.int pf0), .val (.int f0), .val (.long ps), .second, .val (.int 2147483647), .val (.int 1), .val (.int z), .val (.int pv), .val (.int d), .val (.int pf), .val (.int f), .val (.int (own_pp ps)), .val (.int (if z = 0 then ps.toInt32 &&& 2147483647 else 0)), .unset, .unset, .unset, .unset, .unset, .unset, .unset, .unset, .unset] ∧ u = []) := by
  simp only [r_wp0, r_wpS, r_nxt, r_stop0, r_stopS, r_go, r_goIf, r_fork, r_tgt, r_okO, r_gI, r_gJ, r_gA, r_pI, r_pJ, r_pA, r_p1r, r_p1i, r_pII, r_pJJ, r_pJI, r_fnd0, r_fndS, r_gC, r_gC0, r_gB, r_st1, r_st2, r_eq, r_ne, r_lt, r_ge, r_gt, r_le, r_eqL, r_neL, r_ltL, r_geL, r_gtL, r_leL, r_f0, r_f1, r_f2, r_f3, r_im1, r_i0, r_i1, r_i2, r_i3, r_i4, r_i5, r_i7, r_l0, r_l1, lget_z, lget_s, lput_z, lput_s, one_unset, one_int, one_ref, two_unset, two_long, cond_true, cond_false, true_and, and_true, not_true_eq_false, not_false_eq_true, true_implies, false_implies, implies_true, ne_eq, Classical.not_not, Int.cast_ofNat_Int, ite_true, seval, and_self, n_aload, n_astore, n_bipush, n_goto, n_i2l, n_iaload, n_iand, n_iastore, n_iconst, n_ifCond, n_if_icmp, n_iload, n_iload_n, n_invokestatic, n_irem, n_ireturn, n_istore, n_isub, n_iushr, n_l2i, n_ladd, n_laload, n_land, n_lcmp, n_lconst, n_ldc, n_ldc2_w, n_lload, n_lstore, n_lushr, n_newarray, b_16, b_32, ci0, cj0, at_0, at_2, at_4, at_5, at_7, at_8, at_9, at_10, at_12, at_13, at_15, at_16, at_17, at_18, at_21, at_22, at_25, at_26, at_28, at_30, at_33, at_34, at_36, at_37, at_38, at_39, at_41, at_43, at_46, at_47, at_49, at_50, at_52, at_53, at_56, at_58, at_59, at_62, at_64, at_65, at_67, at_68, at_70, at_72, at_74, at_75, at_77, at_79, at_81, at_82, at_83, at_85, at_86, at_88, at_90, at_91, at_93, at_94, at_96, at_98, at_101, at_102, at_104, at_107, at_109, at_110, at_113, at_114, at_116, at_117, at_119, at_121, at_123, at_124, at_126, at_127, at_129, at_130, at_132, at_134, at_136, at_139, at_141, at_143, at_145, at_146, at_147, at_149, at_150, at_152, at_154, at_155, at_157, at_158, at_160, at_162, at_165, at_166, at_168, at_171, at_172, at_174, at_175, at_177, at_179, at_181, at_182, at_184, at_185, at_187, at_189, at_191, at_193, at_195, at_196, at_197, at_199, at_200, at_202, at_203, at_205, at_207, at_209, at_210, at_213, at_215, at_216, at_218, at_220, at_222, at_223, at_225, at_226, at_228, at_229, at_231, at_232, at_234, at_235, at_237, at_238, at_239, at_241, at_243, at_245, at_247, at_249, at_251, at_253, at_256, at_258, at_260, at_261, at_262, at_264, at_267, at_269, at_270, at_271, at_273, at_276, at_278, at_279, at_280, at_282, at_285, at_286, at_289, at_290, at_292, at_294, at_295, at_296, at_298, at_300, at_303, at_305, at_306, at_307, at_309, at_311, at_312, at_313, at_316, at_318, at_319, at_320, at_321, at_322, at_325, at_327, at_328, at_330, at_331, at_332, at_333, at_335, at_336, at_337, at_340, at_342, at_343, at_344, at_347, at_349, at_350, at_351, at_353, at_354, at_355, at_358, at_360, at_361, at_362, at_363, at_364, at_367, at_368, at_371, at_372, at_374, at_377, at_378, at_381, at_382, at_385, at_387, at_389, at_392, at_393, at_396, at_397, at_400, at_402, at_405, at_407, at_408, at_409, at_411, at_412, at_413, at_416, at_417, at_420, at_421, at_423, at_426, at_428, at_429, at_432, at_434, at_435, at_436, at_439, at_441, at_444, at_445, at_448, at_449, at_452, at_454, at_455, at_457, at_458, at_459, at_460, at_462, at_463, at_464, at_467, at_469, at_470, at_471, at_473, at_474, at_475, at_478, at_480, at_481, at_484, at_485, at_488, at_489, at_491, at_494, at_496, at_497, at_498, at_501, at_503, at_506, at_507, at_508, at_509, at_512, at_514, at_515, at_517, at_518, at_519, at_520, at_522, at_523, at_524, at_527, at_529, at_530, at_533, at_534, at_537, at_538, at_540, at_542, at_545, at_547, at_550, at_551, at_554, at_555, List.cons.injEq, Slot.val.injEq, Value.int.injEq, Value.long.injEq, own_pp]
  all_goals (repeat' (first | refine And.intro ?_ ?_ | intro _))
  all_goals simp [own_k, own_z, own_m, own_pp, own_c01, *]
set_option maxRecDepth 65536 in
set_option maxHeartbeats 4000000 in
theorem wl_6 (kd pd dd pf0 f0 : Int32) (ps : Int64) (z : Int32) (k : Int32) (h0 : ¬ k = 0) (h1 : ¬ k = 1) : wpo code ci0 cj0 [] 90 28 [.val (.int kd), .val (.int pd), .val (.int dd), .val (.int pf0), .val (.int f0), .val (.long ps), .second, .val (.int 2147483647), .val (.int k), .val (.int z), .unset, .unset, .unset, .unset, .unset, .unset, .unset, .unset, .unset, .unset, .unset, .unset, .unset, .unset, .unset] [] (fun b M u => b = 210 ∧ M = [.val (.int kd), .val (.int pd), .val (.int dd), .val (.int pf0), .val (.int f0), .val (.long ps), .second, .val (.int 2147483647), .val (.int k), .val (.int z), .val (.int (pd &&& 2147483647)), .val (.int (pd &&& 2147483647)), .val (.int (pf0 &&& 2147483647)), .val (.int (pf0 &&& 2147483647)), .val (.int (own_m (oushrL ps 32).toInt32)), .unset, .unset, .unset, .unset, .unset, .unset, .unset, .unset, .unset, .unset] ∧ u = [.int ps.toInt32, .int (own_m (oushrL ps 32).toInt32)]) := by
  simp only [r_wp0, r_wpS, r_nxt, r_stop0, r_stopS, r_go, r_goIf, r_fork, r_tgt, r_okO, r_gI, r_gJ, r_gA, r_pI, r_pJ, r_pA, r_p1r, r_p1i, r_pII, r_pJJ, r_pJI, r_fnd0, r_fndS, r_gC, r_gC0, r_gB, r_st1, r_st2, r_eq, r_ne, r_lt, r_ge, r_gt, r_le, r_eqL, r_neL, r_ltL, r_geL, r_gtL, r_leL, r_f0, r_f1, r_f2, r_f3, r_im1, r_i0, r_i1, r_i2, r_i3, r_i4, r_i5, r_i7, r_l0, r_l1, lget_z, lget_s, lput_z, lput_s, one_unset, one_int, one_ref, two_unset, two_long, cond_true, cond_false, true_and, and_true, not_true_eq_false, not_false_eq_true, true_implies, false_implies, implies_true, ne_eq, Classical.not_not, Int.cast_ofNat_Int, ite_true, seval, and_self, n_aload, n_astore, n_bipush, n_goto, n_i2l, n_iaload, n_iand, n_iastore, n_iconst, n_ifCond, n_if_icmp, n_iload, n_iload_n, n_invokestatic, n_irem, n_ireturn, n_istore, n_isub, n_iushr, n_l2i, n_ladd, n_laload, n_land, n_lcmp, n_lconst, n_ldc, n_ldc2_w, n_lload, n_lstore, n_lushr, n_newarray, b_16, b_32, ci0, cj0, at_0, at_2, at_4, at_5, at_7, at_8, at_9, at_10, at_12, at_13, at_15, at_16, at_17, at_18, at_21, at_22, at_25, at_26, at_28, at_30, at_33, at_34, at_36, at_37, at_38, at_39, at_41, at_43, at_46, at_47, at_49, at_50, at_52, at_53, at_56, at_58, at_59, at_62, at_64, at_65, at_67, at_68, at_70, at_72, at_74, at_75, at_77, at_79, at_81, at_82, at_83, at_85, at_86, at_88, at_90, at_91, at_93, at_94, at_96, at_98, at_101, at_102, at_104, at_107, at_109, at_110, at_113, at_114, at_116, at_117, at_119, at_121, at_123, at_124, at_126, at_127, at_129, at_130, at_132, at_134, at_136, at_139, at_141, at_143, at_145, at_146, at_147, at_149, at_150, at_152, at_154, at_155, at_157, at_158, at_160, at_162, at_165, at_166, at_168, at_171, at_172, at_174, at_175, at_177, at_179, at_181, at_182, at_184, at_185, at_187, at_189, at_191, at_193, at_195, at_196, at_197, at_199, at_200, at_202, at_203, at_205, at_207, at_209, at_210, at_213, at_215, at_216, at_218, at_220, at_222, at_223, at_225, at_226, at_228, at_229, at_231, at_232, at_234, at_235, at_237, at_238, at_239, at_241, at_243, at_245, at_247, at_249, at_251, at_253, at_256, at_258, at_260, at_261, at_262, at_264, at_267, at_269, at_270, at_271, at_273, at_276, at_278, at_279, at_280, at_282, at_285, at_286, at_289, at_290, at_292, at_294, at_295, at_296, at_298, at_300, at_303, at_305, at_306, at_307, at_309, at_311, at_312, at_313, at_316, at_318, at_319, at_320, at_321, at_322, at_325, at_327, at_328, at_330, at_331, at_332, at_333, at_335, at_336, at_337, at_340, at_342, at_343, at_344, at_347, at_349, at_350, at_351, at_353, at_354, at_355, at_358, at_360, at_361, at_362, at_363, at_364, at_367, at_368, at_371, at_372, at_374, at_377, at_378, at_381, at_382, at_385, at_387, at_389, at_392, at_393, at_396, at_397, at_400, at_402, at_405, at_407, at_408, at_409, at_411, at_412, at_413, at_416, at_417, at_420, at_421, at_423, at_426, at_428, at_429, at_432, at_434, at_435, at_436, at_439, at_441, at_444, at_445, at_448, at_449, at_452, at_454, at_455, at_457, at_458, at_459, at_460, at_462, at_463, at_464, at_467, at_469, at_470, at_471, at_473, at_474, at_475, at_478, at_480, at_481, at_484, at_485, at_488, at_489, at_491, at_494, at_496, at_497, at_498, at_501, at_503, at_506, at_507, at_508, at_509, at_512, at_514, at_515, at_517, at_518, at_519, at_520, at_522, at_523, at_524, at_527, at_529, at_530, at_533, at_534, at_537, at_538, at_540, at_542, at_545, at_547, at_550, at_551, at_554, at_555, List.cons.injEq, Slot.val.injEq, Value.int.injEq, Value.long.injEq, own_m, h0, h1]
  all_goals (repeat' (first | refine And.intro ?_ ?_ | intro _))
  all_goals simp [own_k, own_z, own_m, own_pp, own_c01, *]
set_option maxRecDepth 65536 in
set_option maxHeartbeats 4000000 in
theorem wl_7 (kd pd dd pf0 f0 : Int32) (ps : Int64) (z : Int32) (k pv d pf f pp pa : Int32) : wpo code ci0 cj0 [215] 90 213 [.val (.int kd), .val (.int pd), .val (.int dd), .val (.int pf0), .val (.int f0), .val (.long ps), .second, .val (.int 2147483647), .val (.int k), .val (.int z), .val (.int pv), .val (.int d), .val (.int pf), .val (.int f), .val (.int pp), .unset, .unset, .unset, .unset, .unset, .unset, .unset, .unset, .unset, .unset] [.int pa] (fun b M u => b = 215 ∧ M = [.val (.int kd), .val (.int pd), .val (.int dd), .val (.int pf0), .val (.int f0), .val (.long ps), .second, .val (.int 2147483647), .val (.int k), .val (.int z), .val (.int pv), .val (.int d), .val (.int pf), .val (.int f), .val (.int pp), .val (.int pa), .unset, .unset, .unset, .unset, .unset, .unset, .unset, .unset, .unset] ∧ u = []) := by
  simp only [r_wp0, r_wpS, r_nxt, r_stop0, r_stopS, r_go, r_goIf, r_fork, r_tgt, r_okO, r_gI, r_gJ, r_gA, r_pI, r_pJ, r_pA, r_p1r, r_p1i, r_pII, r_pJJ, r_pJI, r_fnd0, r_fndS, r_gC, r_gC0, r_gB, r_st1, r_st2, r_eq, r_ne, r_lt, r_ge, r_gt, r_le, r_eqL, r_neL, r_ltL, r_geL, r_gtL, r_leL, r_f0, r_f1, r_f2, r_f3, r_im1, r_i0, r_i1, r_i2, r_i3, r_i4, r_i5, r_i7, r_l0, r_l1, lget_z, lget_s, lput_z, lput_s, one_unset, one_int, one_ref, two_unset, two_long, cond_true, cond_false, true_and, and_true, not_true_eq_false, not_false_eq_true, true_implies, false_implies, implies_true, ne_eq, Classical.not_not, Int.cast_ofNat_Int, ite_true, seval, and_self, n_aload, n_astore, n_bipush, n_goto, n_i2l, n_iaload, n_iand, n_iastore, n_iconst, n_ifCond, n_if_icmp, n_iload, n_iload_n, n_invokestatic, n_irem, n_ireturn, n_istore, n_isub, n_iushr, n_l2i, n_ladd, n_laload, n_land, n_lcmp, n_lconst, n_ldc, n_ldc2_w, n_lload, n_lstore, n_lushr, n_newarray, b_16, b_32, ci0, cj0, at_0, at_2, at_4, at_5, at_7, at_8, at_9, at_10, at_12, at_13, at_15, at_16, at_17, at_18, at_21, at_22, at_25, at_26, at_28, at_30, at_33, at_34, at_36, at_37, at_38, at_39, at_41, at_43, at_46, at_47, at_49, at_50, at_52, at_53, at_56, at_58, at_59, at_62, at_64, at_65, at_67, at_68, at_70, at_72, at_74, at_75, at_77, at_79, at_81, at_82, at_83, at_85, at_86, at_88, at_90, at_91, at_93, at_94, at_96, at_98, at_101, at_102, at_104, at_107, at_109, at_110, at_113, at_114, at_116, at_117, at_119, at_121, at_123, at_124, at_126, at_127, at_129, at_130, at_132, at_134, at_136, at_139, at_141, at_143, at_145, at_146, at_147, at_149, at_150, at_152, at_154, at_155, at_157, at_158, at_160, at_162, at_165, at_166, at_168, at_171, at_172, at_174, at_175, at_177, at_179, at_181, at_182, at_184, at_185, at_187, at_189, at_191, at_193, at_195, at_196, at_197, at_199, at_200, at_202, at_203, at_205, at_207, at_209, at_210, at_213, at_215, at_216, at_218, at_220, at_222, at_223, at_225, at_226, at_228, at_229, at_231, at_232, at_234, at_235, at_237, at_238, at_239, at_241, at_243, at_245, at_247, at_249, at_251, at_253, at_256, at_258, at_260, at_261, at_262, at_264, at_267, at_269, at_270, at_271, at_273, at_276, at_278, at_279, at_280, at_282, at_285, at_286, at_289, at_290, at_292, at_294, at_295, at_296, at_298, at_300, at_303, at_305, at_306, at_307, at_309, at_311, at_312, at_313, at_316, at_318, at_319, at_320, at_321, at_322, at_325, at_327, at_328, at_330, at_331, at_332, at_333, at_335, at_336, at_337, at_340, at_342, at_343, at_344, at_347, at_349, at_350, at_351, at_353, at_354, at_355, at_358, at_360, at_361, at_362, at_363, at_364, at_367, at_368, at_371, at_372, at_374, at_377, at_378, at_381, at_382, at_385, at_387, at_389, at_392, at_393, at_396, at_397, at_400, at_402, at_405, at_407, at_408, at_409, at_411, at_412, at_413, at_416, at_417, at_420, at_421, at_423, at_426, at_428, at_429, at_432, at_434, at_435, at_436, at_439, at_441, at_444, at_445, at_448, at_449, at_452, at_454, at_455, at_457, at_458, at_459, at_460, at_462, at_463, at_464, at_467, at_469, at_470, at_471, at_473, at_474, at_475, at_478, at_480, at_481, at_484, at_485, at_488, at_489, at_491, at_494, at_496, at_497, at_498, at_501, at_503, at_506, at_507, at_508, at_509, at_512, at_514, at_515, at_517, at_518, at_519, at_520, at_522, at_523, at_524, at_527, at_529, at_530, at_533, at_534, at_537, at_538, at_540, at_542, at_545, at_547, at_550, at_551, at_554, at_555]
set_option maxRecDepth 65536 in
set_option maxHeartbeats 4000000 in
theorem wg_0 (v0 v1 v2 v3 v4 v5 v7 v9 : Slot) (k pv d pf f pp pa : Int32) (pr co : Addr) : wpo code ci0 cj0 [] 90 215 [v0, v1, v2, v3, v4, v5, .second, v7, .val (.int k), v9, .val (.int pv), .val (.int d), .val (.int pf), .val (.int f), .val (.int pp), .val (.int pa), .unset, .unset, .unset, .unset, .unset, .unset, .unset, .unset, .unset] [] (fun b M u => b = 216 ∧ M = [v0, v1, v2, v3, v4, v5, .second, v7, .val (.int k), v9, .val (.int pv), .val (.int d), .val (.int pf), .val (.int f), .val (.int pp), .val (.int pa), .unset, .unset, .unset, .unset, .unset, .unset, .unset, .unset, .unset] ∧ u = [.int 3]) := by
  simp only [r_wp0, r_wpS, r_nxt, r_stop0, r_stopS, r_go, r_goIf, r_fork, r_tgt, r_okO, r_gI, r_gJ, r_gA, r_pI, r_pJ, r_pA, r_p1r, r_p1i, r_pII, r_pJJ, r_pJI, r_fnd0, r_fndS, r_gC, r_gC0, r_gB, r_st1, r_st2, r_eq, r_ne, r_lt, r_ge, r_gt, r_le, r_eqL, r_neL, r_ltL, r_geL, r_gtL, r_leL, r_f0, r_f1, r_f2, r_f3, r_im1, r_i0, r_i1, r_i2, r_i3, r_i4, r_i5, r_i7, r_l0, r_l1, lget_z, lget_s, lput_z, lput_s, one_unset, one_int, one_ref, two_unset, two_long, cond_true, cond_false, true_and, and_true, not_true_eq_false, not_false_eq_true, true_implies, false_implies, implies_true, ne_eq, Classical.not_not, Int.cast_ofNat_Int, ite_true, seval, and_self, n_aload, n_astore, n_bipush, n_goto, n_i2l, n_iaload, n_iand, n_iastore, n_iconst, n_ifCond, n_if_icmp, n_iload, n_iload_n, n_invokestatic, n_irem, n_ireturn, n_istore, n_isub, n_iushr, n_l2i, n_ladd, n_laload, n_land, n_lcmp, n_lconst, n_ldc, n_ldc2_w, n_lload, n_lstore, n_lushr, n_newarray, b_16, b_32, ci0, cj0, at_0, at_2, at_4, at_5, at_7, at_8, at_9, at_10, at_12, at_13, at_15, at_16, at_17, at_18, at_21, at_22, at_25, at_26, at_28, at_30, at_33, at_34, at_36, at_37, at_38, at_39, at_41, at_43, at_46, at_47, at_49, at_50, at_52, at_53, at_56, at_58, at_59, at_62, at_64, at_65, at_67, at_68, at_70, at_72, at_74, at_75, at_77, at_79, at_81, at_82, at_83, at_85, at_86, at_88, at_90, at_91, at_93, at_94, at_96, at_98, at_101, at_102, at_104, at_107, at_109, at_110, at_113, at_114, at_116, at_117, at_119, at_121, at_123, at_124, at_126, at_127, at_129, at_130, at_132, at_134, at_136, at_139, at_141, at_143, at_145, at_146, at_147, at_149, at_150, at_152, at_154, at_155, at_157, at_158, at_160, at_162, at_165, at_166, at_168, at_171, at_172, at_174, at_175, at_177, at_179, at_181, at_182, at_184, at_185, at_187, at_189, at_191, at_193, at_195, at_196, at_197, at_199, at_200, at_202, at_203, at_205, at_207, at_209, at_210, at_213, at_215, at_216, at_218, at_220, at_222, at_223, at_225, at_226, at_228, at_229, at_231, at_232, at_234, at_235, at_237, at_238, at_239, at_241, at_243, at_245, at_247, at_249, at_251, at_253, at_256, at_258, at_260, at_261, at_262, at_264, at_267, at_269, at_270, at_271, at_273, at_276, at_278, at_279, at_280, at_282, at_285, at_286, at_289, at_290, at_292, at_294, at_295, at_296, at_298, at_300, at_303, at_305, at_306, at_307, at_309, at_311, at_312, at_313, at_316, at_318, at_319, at_320, at_321, at_322, at_325, at_327, at_328, at_330, at_331, at_332, at_333, at_335, at_336, at_337, at_340, at_342, at_343, at_344, at_347, at_349, at_350, at_351, at_353, at_354, at_355, at_358, at_360, at_361, at_362, at_363, at_364, at_367, at_368, at_371, at_372, at_374, at_377, at_378, at_381, at_382, at_385, at_387, at_389, at_392, at_393, at_396, at_397, at_400, at_402, at_405, at_407, at_408, at_409, at_411, at_412, at_413, at_416, at_417, at_420, at_421, at_423, at_426, at_428, at_429, at_432, at_434, at_435, at_436, at_439, at_441, at_444, at_445, at_448, at_449, at_452, at_454, at_455, at_457, at_458, at_459, at_460, at_462, at_463, at_464, at_467, at_469, at_470, at_471, at_473, at_474, at_475, at_478, at_480, at_481, at_484, at_485, at_488, at_489, at_491, at_494, at_496, at_497, at_498, at_501, at_503, at_506, at_507, at_508, at_509, at_512, at_514, at_515, at_517, at_518, at_519, at_520, at_522, at_523, at_524, at_527, at_529, at_530, at_533, at_534, at_537, at_538, at_540, at_542, at_545, at_547, at_550, at_551, at_554, at_555]
set_option maxRecDepth 65536 in
set_option maxHeartbeats 4000000 in
theorem wg_1 (v0 v1 v2 v3 v4 v5 v7 v9 : Slot) (k pv d pf f pp pa : Int32) (pr co : Addr) : wpo code ci0 cj0 [] 90 218 [v0, v1, v2, v3, v4, v5, .second, v7, .val (.int k), v9, .val (.int pv), .val (.int d), .val (.int pf), .val (.int f), .val (.int pp), .val (.int pa), .unset, .unset, .unset, .unset, .unset, .unset, .unset, .unset, .unset] [.ref pr] (fun b M u => b = 225 ∧ M = [v0, v1, v2, v3, v4, v5, .second, v7, .val (.int k), v9, .val (.int pv), .val (.int d), .val (.int pf), .val (.int f), .val (.int pp), .val (.int pa), .val (.ref pr), .unset, .unset, .unset, .unset, .unset, .unset, .unset, .unset] ∧ u = [.int pv, .int 0, .ref pr]) := by
  simp only [r_wp0, r_wpS, r_nxt, r_stop0, r_stopS, r_go, r_goIf, r_fork, r_tgt, r_okO, r_gI, r_gJ, r_gA, r_pI, r_pJ, r_pA, r_p1r, r_p1i, r_pII, r_pJJ, r_pJI, r_fnd0, r_fndS, r_gC, r_gC0, r_gB, r_st1, r_st2, r_eq, r_ne, r_lt, r_ge, r_gt, r_le, r_eqL, r_neL, r_ltL, r_geL, r_gtL, r_leL, r_f0, r_f1, r_f2, r_f3, r_im1, r_i0, r_i1, r_i2, r_i3, r_i4, r_i5, r_i7, r_l0, r_l1, lget_z, lget_s, lput_z, lput_s, one_unset, one_int, one_ref, two_unset, two_long, cond_true, cond_false, true_and, and_true, not_true_eq_false, not_false_eq_true, true_implies, false_implies, implies_true, ne_eq, Classical.not_not, Int.cast_ofNat_Int, ite_true, seval, and_self, n_aload, n_astore, n_bipush, n_goto, n_i2l, n_iaload, n_iand, n_iastore, n_iconst, n_ifCond, n_if_icmp, n_iload, n_iload_n, n_invokestatic, n_irem, n_ireturn, n_istore, n_isub, n_iushr, n_l2i, n_ladd, n_laload, n_land, n_lcmp, n_lconst, n_ldc, n_ldc2_w, n_lload, n_lstore, n_lushr, n_newarray, b_16, b_32, ci0, cj0, at_0, at_2, at_4, at_5, at_7, at_8, at_9, at_10, at_12, at_13, at_15, at_16, at_17, at_18, at_21, at_22, at_25, at_26, at_28, at_30, at_33, at_34, at_36, at_37, at_38, at_39, at_41, at_43, at_46, at_47, at_49, at_50, at_52, at_53, at_56, at_58, at_59, at_62, at_64, at_65, at_67, at_68, at_70, at_72, at_74, at_75, at_77, at_79, at_81, at_82, at_83, at_85, at_86, at_88, at_90, at_91, at_93, at_94, at_96, at_98, at_101, at_102, at_104, at_107, at_109, at_110, at_113, at_114, at_116, at_117, at_119, at_121, at_123, at_124, at_126, at_127, at_129, at_130, at_132, at_134, at_136, at_139, at_141, at_143, at_145, at_146, at_147, at_149, at_150, at_152, at_154, at_155, at_157, at_158, at_160, at_162, at_165, at_166, at_168, at_171, at_172, at_174, at_175, at_177, at_179, at_181, at_182, at_184, at_185, at_187, at_189, at_191, at_193, at_195, at_196, at_197, at_199, at_200, at_202, at_203, at_205, at_207, at_209, at_210, at_213, at_215, at_216, at_218, at_220, at_222, at_223, at_225, at_226, at_228, at_229, at_231, at_232, at_234, at_235, at_237, at_238, at_239, at_241, at_243, at_245, at_247, at_249, at_251, at_253, at_256, at_258, at_260, at_261, at_262, at_264, at_267, at_269, at_270, at_271, at_273, at_276, at_278, at_279, at_280, at_282, at_285, at_286, at_289, at_290, at_292, at_294, at_295, at_296, at_298, at_300, at_303, at_305, at_306, at_307, at_309, at_311, at_312, at_313, at_316, at_318, at_319, at_320, at_321, at_322, at_325, at_327, at_328, at_330, at_331, at_332, at_333, at_335, at_336, at_337, at_340, at_342, at_343, at_344, at_347, at_349, at_350, at_351, at_353, at_354, at_355, at_358, at_360, at_361, at_362, at_363, at_364, at_367, at_368, at_371, at_372, at_374, at_377, at_378, at_381, at_382, at_385, at_387, at_389, at_392, at_393, at_396, at_397, at_400, at_402, at_405, at_407, at_408, at_409, at_411, at_412, at_413, at_416, at_417, at_420, at_421, at_423, at_426, at_428, at_429, at_432, at_434, at_435, at_436, at_439, at_441, at_444, at_445, at_448, at_449, at_452, at_454, at_455, at_457, at_458, at_459, at_460, at_462, at_463, at_464, at_467, at_469, at_470, at_471, at_473, at_474, at_475, at_478, at_480, at_481, at_484, at_485, at_488, at_489, at_491, at_494, at_496, at_497, at_498, at_501, at_503, at_506, at_507, at_508, at_509, at_512, at_514, at_515, at_517, at_518, at_519, at_520, at_522, at_523, at_524, at_527, at_529, at_530, at_533, at_534, at_537, at_538, at_540, at_542, at_545, at_547, at_550, at_551, at_554, at_555]
set_option maxRecDepth 65536 in
set_option maxHeartbeats 4000000 in
theorem wg_2 (v0 v1 v2 v3 v4 v5 v7 v9 : Slot) (k pv d pf f pp pa : Int32) (pr co : Addr) : wpo code ci0 cj0 [] 90 226 [v0, v1, v2, v3, v4, v5, .second, v7, .val (.int k), v9, .val (.int pv), .val (.int d), .val (.int pf), .val (.int f), .val (.int pp), .val (.int pa), .val (.ref pr), .unset, .unset, .unset, .unset, .unset, .unset, .unset, .unset] [] (fun b M u => b = 231 ∧ M = [v0, v1, v2, v3, v4, v5, .second, v7, .val (.int k), v9, .val (.int pv), .val (.int d), .val (.int pf), .val (.int f), .val (.int pp), .val (.int pa), .val (.ref pr), .unset, .unset, .unset, .unset, .unset, .unset, .unset, .unset] ∧ u = [.int pf, .int 1, .ref pr]) := by
  simp only [r_wp0, r_wpS, r_nxt, r_stop0, r_stopS, r_go, r_goIf, r_fork, r_tgt, r_okO, r_gI, r_gJ, r_gA, r_pI, r_pJ, r_pA, r_p1r, r_p1i, r_pII, r_pJJ, r_pJI, r_fnd0, r_fndS, r_gC, r_gC0, r_gB, r_st1, r_st2, r_eq, r_ne, r_lt, r_ge, r_gt, r_le, r_eqL, r_neL, r_ltL, r_geL, r_gtL, r_leL, r_f0, r_f1, r_f2, r_f3, r_im1, r_i0, r_i1, r_i2, r_i3, r_i4, r_i5, r_i7, r_l0, r_l1, lget_z, lget_s, lput_z, lput_s, one_unset, one_int, one_ref, two_unset, two_long, cond_true, cond_false, true_and, and_true, not_true_eq_false, not_false_eq_true, true_implies, false_implies, implies_true, ne_eq, Classical.not_not, Int.cast_ofNat_Int, ite_true, seval, and_self, n_aload, n_astore, n_bipush, n_goto, n_i2l, n_iaload, n_iand, n_iastore, n_iconst, n_ifCond, n_if_icmp, n_iload, n_iload_n, n_invokestatic, n_irem, n_ireturn, n_istore, n_isub, n_iushr, n_l2i, n_ladd, n_laload, n_land, n_lcmp, n_lconst, n_ldc, n_ldc2_w, n_lload, n_lstore, n_lushr, n_newarray, b_16, b_32, ci0, cj0, at_0, at_2, at_4, at_5, at_7, at_8, at_9, at_10, at_12, at_13, at_15, at_16, at_17, at_18, at_21, at_22, at_25, at_26, at_28, at_30, at_33, at_34, at_36, at_37, at_38, at_39, at_41, at_43, at_46, at_47, at_49, at_50, at_52, at_53, at_56, at_58, at_59, at_62, at_64, at_65, at_67, at_68, at_70, at_72, at_74, at_75, at_77, at_79, at_81, at_82, at_83, at_85, at_86, at_88, at_90, at_91, at_93, at_94, at_96, at_98, at_101, at_102, at_104, at_107, at_109, at_110, at_113, at_114, at_116, at_117, at_119, at_121, at_123, at_124, at_126, at_127, at_129, at_130, at_132, at_134, at_136, at_139, at_141, at_143, at_145, at_146, at_147, at_149, at_150, at_152, at_154, at_155, at_157, at_158, at_160, at_162, at_165, at_166, at_168, at_171, at_172, at_174, at_175, at_177, at_179, at_181, at_182, at_184, at_185, at_187, at_189, at_191, at_193, at_195, at_196, at_197, at_199, at_200, at_202, at_203, at_205, at_207, at_209, at_210, at_213, at_215, at_216, at_218, at_220, at_222, at_223, at_225, at_226, at_228, at_229, at_231, at_232, at_234, at_235, at_237, at_238, at_239, at_241, at_243, at_245, at_247, at_249, at_251, at_253, at_256, at_258, at_260, at_261, at_262, at_264, at_267, at_269, at_270, at_271, at_273, at_276, at_278, at_279, at_280, at_282, at_285, at_286, at_289, at_290, at_292, at_294, at_295, at_296, at_298, at_300, at_303, at_305, at_306, at_307, at_309, at_311, at_312, at_313, at_316, at_318, at_319, at_320, at_321, at_322, at_325, at_327, at_328, at_330, at_331, at_332, at_333, at_335, at_336, at_337, at_340, at_342, at_343, at_344, at_347, at_349, at_350, at_351, at_353, at_354, at_355, at_358, at_360, at_361, at_362, at_363, at_364, at_367, at_368, at_371, at_372, at_374, at_377, at_378, at_381, at_382, at_385, at_387, at_389, at_392, at_393, at_396, at_397, at_400, at_402, at_405, at_407, at_408, at_409, at_411, at_412, at_413, at_416, at_417, at_420, at_421, at_423, at_426, at_428, at_429, at_432, at_434, at_435, at_436, at_439, at_441, at_444, at_445, at_448, at_449, at_452, at_454, at_455, at_457, at_458, at_459, at_460, at_462, at_463, at_464, at_467, at_469, at_470, at_471, at_473, at_474, at_475, at_478, at_480, at_481, at_484, at_485, at_488, at_489, at_491, at_494, at_496, at_497, at_498, at_501, at_503, at_506, at_507, at_508, at_509, at_512, at_514, at_515, at_517, at_518, at_519, at_520, at_522, at_523, at_524, at_527, at_529, at_530, at_533, at_534, at_537, at_538, at_540, at_542, at_545, at_547, at_550, at_551, at_554, at_555]
set_option maxRecDepth 65536 in
set_option maxHeartbeats 4000000 in
theorem wg_3 (v0 v1 v2 v3 v4 v5 v7 v9 : Slot) (k pv d pf f pp pa : Int32) (pr co : Addr) : wpo code ci0 cj0 [] 90 232 [v0, v1, v2, v3, v4, v5, .second, v7, .val (.int k), v9, .val (.int pv), .val (.int d), .val (.int pf), .val (.int f), .val (.int pp), .val (.int pa), .val (.ref pr), .unset, .unset, .unset, .unset, .unset, .unset, .unset, .unset] [] (fun b M u => b = 237 ∧ M = [v0, v1, v2, v3, v4, v5, .second, v7, .val (.int k), v9, .val (.int pv), .val (.int d), .val (.int pf), .val (.int f), .val (.int pp), .val (.int pa), .val (.ref pr), .unset, .unset, .unset, .unset, .unset, .unset, .unset, .unset] ∧ u = [.int pp, .int 2, .ref pr]) := by
  simp only [r_wp0, r_wpS, r_nxt, r_stop0, r_stopS, r_go, r_goIf, r_fork, r_tgt, r_okO, r_gI, r_gJ, r_gA, r_pI, r_pJ, r_pA, r_p1r, r_p1i, r_pII, r_pJJ, r_pJI, r_fnd0, r_fndS, r_gC, r_gC0, r_gB, r_st1, r_st2, r_eq, r_ne, r_lt, r_ge, r_gt, r_le, r_eqL, r_neL, r_ltL, r_geL, r_gtL, r_leL, r_f0, r_f1, r_f2, r_f3, r_im1, r_i0, r_i1, r_i2, r_i3, r_i4, r_i5, r_i7, r_l0, r_l1, lget_z, lget_s, lput_z, lput_s, one_unset, one_int, one_ref, two_unset, two_long, cond_true, cond_false, true_and, and_true, not_true_eq_false, not_false_eq_true, true_implies, false_implies, implies_true, ne_eq, Classical.not_not, Int.cast_ofNat_Int, ite_true, seval, and_self, n_aload, n_astore, n_bipush, n_goto, n_i2l, n_iaload, n_iand, n_iastore, n_iconst, n_ifCond, n_if_icmp, n_iload, n_iload_n, n_invokestatic, n_irem, n_ireturn, n_istore, n_isub, n_iushr, n_l2i, n_ladd, n_laload, n_land, n_lcmp, n_lconst, n_ldc, n_ldc2_w, n_lload, n_lstore, n_lushr, n_newarray, b_16, b_32, ci0, cj0, at_0, at_2, at_4, at_5, at_7, at_8, at_9, at_10, at_12, at_13, at_15, at_16, at_17, at_18, at_21, at_22, at_25, at_26, at_28, at_30, at_33, at_34, at_36, at_37, at_38, at_39, at_41, at_43, at_46, at_47, at_49, at_50, at_52, at_53, at_56, at_58, at_59, at_62, at_64, at_65, at_67, at_68, at_70, at_72, at_74, at_75, at_77, at_79, at_81, at_82, at_83, at_85, at_86, at_88, at_90, at_91, at_93, at_94, at_96, at_98, at_101, at_102, at_104, at_107, at_109, at_110, at_113, at_114, at_116, at_117, at_119, at_121, at_123, at_124, at_126, at_127, at_129, at_130, at_132, at_134, at_136, at_139, at_141, at_143, at_145, at_146, at_147, at_149, at_150, at_152, at_154, at_155, at_157, at_158, at_160, at_162, at_165, at_166, at_168, at_171, at_172, at_174, at_175, at_177, at_179, at_181, at_182, at_184, at_185, at_187, at_189, at_191, at_193, at_195, at_196, at_197, at_199, at_200, at_202, at_203, at_205, at_207, at_209, at_210, at_213, at_215, at_216, at_218, at_220, at_222, at_223, at_225, at_226, at_228, at_229, at_231, at_232, at_234, at_235, at_237, at_238, at_239, at_241, at_243, at_245, at_247, at_249, at_251, at_253, at_256, at_258, at_260, at_261, at_262, at_264, at_267, at_269, at_270, at_271, at_273, at_276, at_278, at_279, at_280, at_282, at_285, at_286, at_289, at_290, at_292, at_294, at_295, at_296, at_298, at_300, at_303, at_305, at_306, at_307, at_309, at_311, at_312, at_313, at_316, at_318, at_319, at_320, at_321, at_322, at_325, at_327, at_328, at_330, at_331, at_332, at_333, at_335, at_336, at_337, at_340, at_342, at_343, at_344, at_347, at_349, at_350, at_351, at_353, at_354, at_355, at_358, at_360, at_361, at_362, at_363, at_364, at_367, at_368, at_371, at_372, at_374, at_377, at_378, at_381, at_382, at_385, at_387, at_389, at_392, at_393, at_396, at_397, at_400, at_402, at_405, at_407, at_408, at_409, at_411, at_412, at_413, at_416, at_417, at_420, at_421, at_423, at_426, at_428, at_429, at_432, at_434, at_435, at_436, at_439, at_441, at_444, at_445, at_448, at_449, at_452, at_454, at_455, at_457, at_458, at_459, at_460, at_462, at_463, at_464, at_467, at_469, at_470, at_471, at_473, at_474, at_475, at_478, at_480, at_481, at_484, at_485, at_488, at_489, at_491, at_494, at_496, at_497, at_498, at_501, at_503, at_506, at_507, at_508, at_509, at_512, at_514, at_515, at_517, at_518, at_519, at_520, at_522, at_523, at_524, at_527, at_529, at_530, at_533, at_534, at_537, at_538, at_540, at_542, at_545, at_547, at_550, at_551, at_554, at_555]
set_option maxRecDepth 65536 in
set_option maxHeartbeats 4000000 in
theorem wg_4 (v0 v1 v2 v3 v4 v5 v7 v9 : Slot) (k pv d pf f pp pa : Int32) (pr co : Addr) : wpo code ci0 cj0 [] 90 238 [v0, v1, v2, v3, v4, v5, .second, v7, .val (.int k), v9, .val (.int pv), .val (.int d), .val (.int pf), .val (.int f), .val (.int pp), .val (.int pa), .val (.ref pr), .unset, .unset, .unset, .unset, .unset, .unset, .unset, .unset] [] (fun b M u => b = 239 ∧ M = [v0, v1, v2, v3, v4, v5, .second, v7, .val (.int k), v9, .val (.int pv), .val (.int d), .val (.int pf), .val (.int f), .val (.int pp), .val (.int pa), .val (.ref pr), .unset, .unset, .unset, .unset, .unset, .unset, .unset, .unset] ∧ u = [.int 3]) := by
  simp only [r_wp0, r_wpS, r_nxt, r_stop0, r_stopS, r_go, r_goIf, r_fork, r_tgt, r_okO, r_gI, r_gJ, r_gA, r_pI, r_pJ, r_pA, r_p1r, r_p1i, r_pII, r_pJJ, r_pJI, r_fnd0, r_fndS, r_gC, r_gC0, r_gB, r_st1, r_st2, r_eq, r_ne, r_lt, r_ge, r_gt, r_le, r_eqL, r_neL, r_ltL, r_geL, r_gtL, r_leL, r_f0, r_f1, r_f2, r_f3, r_im1, r_i0, r_i1, r_i2, r_i3, r_i4, r_i5, r_i7, r_l0, r_l1, lget_z, lget_s, lput_z, lput_s, one_unset, one_int, one_ref, two_unset, two_long, cond_true, cond_false, true_and, and_true, not_true_eq_false, not_false_eq_true, true_implies, false_implies, implies_true, ne_eq, Classical.not_not, Int.cast_ofNat_Int, ite_true, seval, and_self, n_aload, n_astore, n_bipush, n_goto, n_i2l, n_iaload, n_iand, n_iastore, n_iconst, n_ifCond, n_if_icmp, n_iload, n_iload_n, n_invokestatic, n_irem, n_ireturn, n_istore, n_isub, n_iushr, n_l2i, n_ladd, n_laload, n_land, n_lcmp, n_lconst, n_ldc, n_ldc2_w, n_lload, n_lstore, n_lushr, n_newarray, b_16, b_32, ci0, cj0, at_0, at_2, at_4, at_5, at_7, at_8, at_9, at_10, at_12, at_13, at_15, at_16, at_17, at_18, at_21, at_22, at_25, at_26, at_28, at_30, at_33, at_34, at_36, at_37, at_38, at_39, at_41, at_43, at_46, at_47, at_49, at_50, at_52, at_53, at_56, at_58, at_59, at_62, at_64, at_65, at_67, at_68, at_70, at_72, at_74, at_75, at_77, at_79, at_81, at_82, at_83, at_85, at_86, at_88, at_90, at_91, at_93, at_94, at_96, at_98, at_101, at_102, at_104, at_107, at_109, at_110, at_113, at_114, at_116, at_117, at_119, at_121, at_123, at_124, at_126, at_127, at_129, at_130, at_132, at_134, at_136, at_139, at_141, at_143, at_145, at_146, at_147, at_149, at_150, at_152, at_154, at_155, at_157, at_158, at_160, at_162, at_165, at_166, at_168, at_171, at_172, at_174, at_175, at_177, at_179, at_181, at_182, at_184, at_185, at_187, at_189, at_191, at_193, at_195, at_196, at_197, at_199, at_200, at_202, at_203, at_205, at_207, at_209, at_210, at_213, at_215, at_216, at_218, at_220, at_222, at_223, at_225, at_226, at_228, at_229, at_231, at_232, at_234, at_235, at_237, at_238, at_239, at_241, at_243, at_245, at_247, at_249, at_251, at_253, at_256, at_258, at_260, at_261, at_262, at_264, at_267, at_269, at_270, at_271, at_273, at_276, at_278, at_279, at_280, at_282, at_285, at_286, at_289, at_290, at_292, at_294, at_295, at_296, at_298, at_300, at_303, at_305, at_306, at_307, at_309, at_311, at_312, at_313, at_316, at_318, at_319, at_320, at_321, at_322, at_325, at_327, at_328, at_330, at_331, at_332, at_333, at_335, at_336, at_337, at_340, at_342, at_343, at_344, at_347, at_349, at_350, at_351, at_353, at_354, at_355, at_358, at_360, at_361, at_362, at_363, at_364, at_367, at_368, at_371, at_372, at_374, at_377, at_378, at_381, at_382, at_385, at_387, at_389, at_392, at_393, at_396, at_397, at_400, at_402, at_405, at_407, at_408, at_409, at_411, at_412, at_413, at_416, at_417, at_420, at_421, at_423, at_426, at_428, at_429, at_432, at_434, at_435, at_436, at_439, at_441, at_444, at_445, at_448, at_449, at_452, at_454, at_455, at_457, at_458, at_459, at_460, at_462, at_463, at_464, at_467, at_469, at_470, at_471, at_473, at_474, at_475, at_478, at_480, at_481, at_484, at_485, at_488, at_489, at_491, at_494, at_496, at_497, at_498, at_501, at_503, at_506, at_507, at_508, at_509, at_512, at_514, at_515, at_517, at_518, at_519, at_520, at_522, at_523, at_524, at_527, at_529, at_530, at_533, at_534, at_537, at_538, at_540, at_542, at_545, at_547, at_550, at_551, at_554, at_555]
set_option maxRecDepth 65536 in
set_option maxHeartbeats 4000000 in
theorem wg_5 (v0 v1 v2 v3 v4 v5 v7 v9 : Slot) (k pv d pf f pp pa : Int32) (pr co : Addr) : wpo code ci0 cj0 [] 90 241 [v0, v1, v2, v3, v4, v5, .second, v7, .val (.int k), v9, .val (.int pv), .val (.int d), .val (.int pf), .val (.int f), .val (.int pp), .val (.int pa), .val (.ref pr), .unset, .unset, .unset, .unset, .unset, .unset, .unset, .unset] [.ref co] (fun b M u => b = 253 ∧ M = [v0, v1, v2, v3, v4, v5, .second, v7, .val (.int k), v9, .val (.int pv), .val (.int d), .val (.int pf), .val (.int f), .val (.int pp), .val (.int pa), .val (.ref pr), .val (.ref co), .unset, .unset, .unset, .unset, .unset, .unset, .unset] ∧ u = [.ref co, .ref pr, .int pa, .int f, .int d]) := by
  simp only [r_wp0, r_wpS, r_nxt, r_stop0, r_stopS, r_go, r_goIf, r_fork, r_tgt, r_okO, r_gI, r_gJ, r_gA, r_pI, r_pJ, r_pA, r_p1r, r_p1i, r_pII, r_pJJ, r_pJI, r_fnd0, r_fndS, r_gC, r_gC0, r_gB, r_st1, r_st2, r_eq, r_ne, r_lt, r_ge, r_gt, r_le, r_eqL, r_neL, r_ltL, r_geL, r_gtL, r_leL, r_f0, r_f1, r_f2, r_f3, r_im1, r_i0, r_i1, r_i2, r_i3, r_i4, r_i5, r_i7, r_l0, r_l1, lget_z, lget_s, lput_z, lput_s, one_unset, one_int, one_ref, two_unset, two_long, cond_true, cond_false, true_and, and_true, not_true_eq_false, not_false_eq_true, true_implies, false_implies, implies_true, ne_eq, Classical.not_not, Int.cast_ofNat_Int, ite_true, seval, and_self, n_aload, n_astore, n_bipush, n_goto, n_i2l, n_iaload, n_iand, n_iastore, n_iconst, n_ifCond, n_if_icmp, n_iload, n_iload_n, n_invokestatic, n_irem, n_ireturn, n_istore, n_isub, n_iushr, n_l2i, n_ladd, n_laload, n_land, n_lcmp, n_lconst, n_ldc, n_ldc2_w, n_lload, n_lstore, n_lushr, n_newarray, b_16, b_32, ci0, cj0, at_0, at_2, at_4, at_5, at_7, at_8, at_9, at_10, at_12, at_13, at_15, at_16, at_17, at_18, at_21, at_22, at_25, at_26, at_28, at_30, at_33, at_34, at_36, at_37, at_38, at_39, at_41, at_43, at_46, at_47, at_49, at_50, at_52, at_53, at_56, at_58, at_59, at_62, at_64, at_65, at_67, at_68, at_70, at_72, at_74, at_75, at_77, at_79, at_81, at_82, at_83, at_85, at_86, at_88, at_90, at_91, at_93, at_94, at_96, at_98, at_101, at_102, at_104, at_107, at_109, at_110, at_113, at_114, at_116, at_117, at_119, at_121, at_123, at_124, at_126, at_127, at_129, at_130, at_132, at_134, at_136, at_139, at_141, at_143, at_145, at_146, at_147, at_149, at_150, at_152, at_154, at_155, at_157, at_158, at_160, at_162, at_165, at_166, at_168, at_171, at_172, at_174, at_175, at_177, at_179, at_181, at_182, at_184, at_185, at_187, at_189, at_191, at_193, at_195, at_196, at_197, at_199, at_200, at_202, at_203, at_205, at_207, at_209, at_210, at_213, at_215, at_216, at_218, at_220, at_222, at_223, at_225, at_226, at_228, at_229, at_231, at_232, at_234, at_235, at_237, at_238, at_239, at_241, at_243, at_245, at_247, at_249, at_251, at_253, at_256, at_258, at_260, at_261, at_262, at_264, at_267, at_269, at_270, at_271, at_273, at_276, at_278, at_279, at_280, at_282, at_285, at_286, at_289, at_290, at_292, at_294, at_295, at_296, at_298, at_300, at_303, at_305, at_306, at_307, at_309, at_311, at_312, at_313, at_316, at_318, at_319, at_320, at_321, at_322, at_325, at_327, at_328, at_330, at_331, at_332, at_333, at_335, at_336, at_337, at_340, at_342, at_343, at_344, at_347, at_349, at_350, at_351, at_353, at_354, at_355, at_358, at_360, at_361, at_362, at_363, at_364, at_367, at_368, at_371, at_372, at_374, at_377, at_378, at_381, at_382, at_385, at_387, at_389, at_392, at_393, at_396, at_397, at_400, at_402, at_405, at_407, at_408, at_409, at_411, at_412, at_413, at_416, at_417, at_420, at_421, at_423, at_426, at_428, at_429, at_432, at_434, at_435, at_436, at_439, at_441, at_444, at_445, at_448, at_449, at_452, at_454, at_455, at_457, at_458, at_459, at_460, at_462, at_463, at_464, at_467, at_469, at_470, at_471, at_473, at_474, at_475, at_478, at_480, at_481, at_484, at_485, at_488, at_489, at_491, at_494, at_496, at_497, at_498, at_501, at_503, at_506, at_507, at_508, at_509, at_512, at_514, at_515, at_517, at_518, at_519, at_520, at_522, at_523, at_524, at_527, at_529, at_530, at_533, at_534, at_537, at_538, at_540, at_542, at_545, at_547, at_550, at_551, at_554, at_555]
set_option maxRecDepth 65536 in
set_option maxHeartbeats 4000000 in
theorem wg_6 (v0 v1 v2 v3 v4 v5 v7 v9 : Slot) (k pv d pf f pp pa : Int32) (pr co : Addr) (n : Int32) : wpo code ci0 cj0 [] 90 256 [v0, v1, v2, v3, v4, v5, .second, v7, .val (.int k), v9, .val (.int pv), .val (.int d), .val (.int pf), .val (.int f), .val (.int pp), .val (.int pa), .val (.ref pr), .val (.ref co), .unset, .unset, .unset, .unset, .unset, .unset, .unset] [.int n] (fun b M u => b = 261 ∧ M = [v0, v1, v2, v3, v4, v5, .second, v7, .val (.int k), v9, .val (.int pv), .val (.int d), .val (.int pf), .val (.int f), .val (.int pp), .val (.int pa), .val (.ref pr), .val (.ref co), .val (.int n), .unset, .unset, .unset, .unset, .unset, .unset] ∧ u = [.int 0, .ref pr]) := by
  simp only [r_wp0, r_wpS, r_nxt, r_stop0, r_stopS, r_go, r_goIf, r_fork, r_tgt, r_okO, r_gI, r_gJ, r_gA, r_pI, r_pJ, r_pA, r_p1r, r_p1i, r_pII, r_pJJ, r_pJI, r_fnd0, r_fndS, r_gC, r_gC0, r_gB, r_st1, r_st2, r_eq, r_ne, r_lt, r_ge, r_gt, r_le, r_eqL, r_neL, r_ltL, r_geL, r_gtL, r_leL, r_f0, r_f1, r_f2, r_f3, r_im1, r_i0, r_i1, r_i2, r_i3, r_i4, r_i5, r_i7, r_l0, r_l1, lget_z, lget_s, lput_z, lput_s, one_unset, one_int, one_ref, two_unset, two_long, cond_true, cond_false, true_and, and_true, not_true_eq_false, not_false_eq_true, true_implies, false_implies, implies_true, ne_eq, Classical.not_not, Int.cast_ofNat_Int, ite_true, seval, and_self, n_aload, n_astore, n_bipush, n_goto, n_i2l, n_iaload, n_iand, n_iastore, n_iconst, n_ifCond, n_if_icmp, n_iload, n_iload_n, n_invokestatic, n_irem, n_ireturn, n_istore, n_isub, n_iushr, n_l2i, n_ladd, n_laload, n_land, n_lcmp, n_lconst, n_ldc, n_ldc2_w, n_lload, n_lstore, n_lushr, n_newarray, b_16, b_32, ci0, cj0, at_0, at_2, at_4, at_5, at_7, at_8, at_9, at_10, at_12, at_13, at_15, at_16, at_17, at_18, at_21, at_22, at_25, at_26, at_28, at_30, at_33, at_34, at_36, at_37, at_38, at_39, at_41, at_43, at_46, at_47, at_49, at_50, at_52, at_53, at_56, at_58, at_59, at_62, at_64, at_65, at_67, at_68, at_70, at_72, at_74, at_75, at_77, at_79, at_81, at_82, at_83, at_85, at_86, at_88, at_90, at_91, at_93, at_94, at_96, at_98, at_101, at_102, at_104, at_107, at_109, at_110, at_113, at_114, at_116, at_117, at_119, at_121, at_123, at_124, at_126, at_127, at_129, at_130, at_132, at_134, at_136, at_139, at_141, at_143, at_145, at_146, at_147, at_149, at_150, at_152, at_154, at_155, at_157, at_158, at_160, at_162, at_165, at_166, at_168, at_171, at_172, at_174, at_175, at_177, at_179, at_181, at_182, at_184, at_185, at_187, at_189, at_191, at_193, at_195, at_196, at_197, at_199, at_200, at_202, at_203, at_205, at_207, at_209, at_210, at_213, at_215, at_216, at_218, at_220, at_222, at_223, at_225, at_226, at_228, at_229, at_231, at_232, at_234, at_235, at_237, at_238, at_239, at_241, at_243, at_245, at_247, at_249, at_251, at_253, at_256, at_258, at_260, at_261, at_262, at_264, at_267, at_269, at_270, at_271, at_273, at_276, at_278, at_279, at_280, at_282, at_285, at_286, at_289, at_290, at_292, at_294, at_295, at_296, at_298, at_300, at_303, at_305, at_306, at_307, at_309, at_311, at_312, at_313, at_316, at_318, at_319, at_320, at_321, at_322, at_325, at_327, at_328, at_330, at_331, at_332, at_333, at_335, at_336, at_337, at_340, at_342, at_343, at_344, at_347, at_349, at_350, at_351, at_353, at_354, at_355, at_358, at_360, at_361, at_362, at_363, at_364, at_367, at_368, at_371, at_372, at_374, at_377, at_378, at_381, at_382, at_385, at_387, at_389, at_392, at_393, at_396, at_397, at_400, at_402, at_405, at_407, at_408, at_409, at_411, at_412, at_413, at_416, at_417, at_420, at_421, at_423, at_426, at_428, at_429, at_432, at_434, at_435, at_436, at_439, at_441, at_444, at_445, at_448, at_449, at_452, at_454, at_455, at_457, at_458, at_459, at_460, at_462, at_463, at_464, at_467, at_469, at_470, at_471, at_473, at_474, at_475, at_478, at_480, at_481, at_484, at_485, at_488, at_489, at_491, at_494, at_496, at_497, at_498, at_501, at_503, at_506, at_507, at_508, at_509, at_512, at_514, at_515, at_517, at_518, at_519, at_520, at_522, at_523, at_524, at_527, at_529, at_530, at_533, at_534, at_537, at_538, at_540, at_542, at_545, at_547, at_550, at_551, at_554, at_555]
set_option maxRecDepth 65536 in
set_option maxHeartbeats 4000000 in
theorem wg_7 (v0 v1 v2 v3 v4 v5 v7 v9 : Slot) (k pv d pf f pp pa : Int32) (pr co : Addr) (n : Int32) : wpo code ci0 cj0 [] 90 262 [v0, v1, v2, v3, v4, v5, .second, v7, .val (.int k), v9, .val (.int pv), .val (.int d), .val (.int pf), .val (.int f), .val (.int pp), .val (.int pa), .val (.ref pr), .val (.ref co), .val (.int n), .unset, .unset, .unset, .unset, .unset, .unset] [.int d] (fun b M u => b = 270 ∧ M = [v0, v1, v2, v3, v4, v5, .second, v7, .val (.int k), v9, .val (.int pv), .val (.int d), .val (.int pf), .val (.int f), .val (.int pp), .val (.int pa), .val (.ref pr), .val (.ref co), .val (.int n), .unset, .unset, .unset, .unset, .unset, .unset] ∧ u = [.int 1, .ref pr]) := by
  simp only [r_wp0, r_wpS, r_nxt, r_stop0, r_stopS, r_go, r_goIf, r_fork, r_tgt, r_okO, r_gI, r_gJ, r_gA, r_pI, r_pJ, r_pA, r_p1r, r_p1i, r_pII, r_pJJ, r_pJI, r_fnd0, r_fndS, r_gC, r_gC0, r_gB, r_st1, r_st2, r_eq, r_ne, r_lt, r_ge, r_gt, r_le, r_eqL, r_neL, r_ltL, r_geL, r_gtL, r_leL, r_f0, r_f1, r_f2, r_f3, r_im1, r_i0, r_i1, r_i2, r_i3, r_i4, r_i5, r_i7, r_l0, r_l1, lget_z, lget_s, lput_z, lput_s, one_unset, one_int, one_ref, two_unset, two_long, cond_true, cond_false, true_and, and_true, not_true_eq_false, not_false_eq_true, true_implies, false_implies, implies_true, ne_eq, Classical.not_not, Int.cast_ofNat_Int, ite_true, seval, and_self, n_aload, n_astore, n_bipush, n_goto, n_i2l, n_iaload, n_iand, n_iastore, n_iconst, n_ifCond, n_if_icmp, n_iload, n_iload_n, n_invokestatic, n_irem, n_ireturn, n_istore, n_isub, n_iushr, n_l2i, n_ladd, n_laload, n_land, n_lcmp, n_lconst, n_ldc, n_ldc2_w, n_lload, n_lstore, n_lushr, n_newarray, b_16, b_32, ci0, cj0, at_0, at_2, at_4, at_5, at_7, at_8, at_9, at_10, at_12, at_13, at_15, at_16, at_17, at_18, at_21, at_22, at_25, at_26, at_28, at_30, at_33, at_34, at_36, at_37, at_38, at_39, at_41, at_43, at_46, at_47, at_49, at_50, at_52, at_53, at_56, at_58, at_59, at_62, at_64, at_65, at_67, at_68, at_70, at_72, at_74, at_75, at_77, at_79, at_81, at_82, at_83, at_85, at_86, at_88, at_90, at_91, at_93, at_94, at_96, at_98, at_101, at_102, at_104, at_107, at_109, at_110, at_113, at_114, at_116, at_117, at_119, at_121, at_123, at_124, at_126, at_127, at_129, at_130, at_132, at_134, at_136, at_139, at_141, at_143, at_145, at_146, at_147, at_149, at_150, at_152, at_154, at_155, at_157, at_158, at_160, at_162, at_165, at_166, at_168, at_171, at_172, at_174, at_175, at_177, at_179, at_181, at_182, at_184, at_185, at_187, at_189, at_191, at_193, at_195, at_196, at_197, at_199, at_200, at_202, at_203, at_205, at_207, at_209, at_210, at_213, at_215, at_216, at_218, at_220, at_222, at_223, at_225, at_226, at_228, at_229, at_231, at_232, at_234, at_235, at_237, at_238, at_239, at_241, at_243, at_245, at_247, at_249, at_251, at_253, at_256, at_258, at_260, at_261, at_262, at_264, at_267, at_269, at_270, at_271, at_273, at_276, at_278, at_279, at_280, at_282, at_285, at_286, at_289, at_290, at_292, at_294, at_295, at_296, at_298, at_300, at_303, at_305, at_306, at_307, at_309, at_311, at_312, at_313, at_316, at_318, at_319, at_320, at_321, at_322, at_325, at_327, at_328, at_330, at_331, at_332, at_333, at_335, at_336, at_337, at_340, at_342, at_343, at_344, at_347, at_349, at_350, at_351, at_353, at_354, at_355, at_358, at_360, at_361, at_362, at_363, at_364, at_367, at_368, at_371, at_372, at_374, at_377, at_378, at_381, at_382, at_385, at_387, at_389, at_392, at_393, at_396, at_397, at_400, at_402, at_405, at_407, at_408, at_409, at_411, at_412, at_413, at_416, at_417, at_420, at_421, at_423, at_426, at_428, at_429, at_432, at_434, at_435, at_436, at_439, at_441, at_444, at_445, at_448, at_449, at_452, at_454, at_455, at_457, at_458, at_459, at_460, at_462, at_463, at_464, at_467, at_469, at_470, at_471, at_473, at_474, at_475, at_478, at_480, at_481, at_484, at_485, at_488, at_489, at_491, at_494, at_496, at_497, at_498, at_501, at_503, at_506, at_507, at_508, at_509, at_512, at_514, at_515, at_517, at_518, at_519, at_520, at_522, at_523, at_524, at_527, at_529, at_530, at_533, at_534, at_537, at_538, at_540, at_542, at_545, at_547, at_550, at_551, at_554, at_555]
set_option maxRecDepth 65536 in
set_option maxHeartbeats 4000000 in
theorem wg_8 (v0 v1 v2 v3 v4 v5 v7 v9 : Slot) (k pv d pf f pp pa : Int32) (pr co : Addr) (n : Int32) : wpo code ci0 cj0 [] 90 271 [v0, v1, v2, v3, v4, v5, .second, v7, .val (.int k), v9, .val (.int pv), .val (.int d), .val (.int pf), .val (.int f), .val (.int pp), .val (.int pa), .val (.ref pr), .val (.ref co), .val (.int n), .unset, .unset, .unset, .unset, .unset, .unset] [.int f] (fun b M u => b = 279 ∧ M = [v0, v1, v2, v3, v4, v5, .second, v7, .val (.int k), v9, .val (.int pv), .val (.int d), .val (.int pf), .val (.int f), .val (.int pp), .val (.int pa), .val (.ref pr), .val (.ref co), .val (.int n), .unset, .unset, .unset, .unset, .unset, .unset] ∧ u = [.int 2, .ref pr]) := by
  simp only [r_wp0, r_wpS, r_nxt, r_stop0, r_stopS, r_go, r_goIf, r_fork, r_tgt, r_okO, r_gI, r_gJ, r_gA, r_pI, r_pJ, r_pA, r_p1r, r_p1i, r_pII, r_pJJ, r_pJI, r_fnd0, r_fndS, r_gC, r_gC0, r_gB, r_st1, r_st2, r_eq, r_ne, r_lt, r_ge, r_gt, r_le, r_eqL, r_neL, r_ltL, r_geL, r_gtL, r_leL, r_f0, r_f1, r_f2, r_f3, r_im1, r_i0, r_i1, r_i2, r_i3, r_i4, r_i5, r_i7, r_l0, r_l1, lget_z, lget_s, lput_z, lput_s, one_unset, one_int, one_ref, two_unset, two_long, cond_true, cond_false, true_and, and_true, not_true_eq_false, not_false_eq_true, true_implies, false_implies, implies_true, ne_eq, Classical.not_not, Int.cast_ofNat_Int, ite_true, seval, and_self, n_aload, n_astore, n_bipush, n_goto, n_i2l, n_iaload, n_iand, n_iastore, n_iconst, n_ifCond, n_if_icmp, n_iload, n_iload_n, n_invokestatic, n_irem, n_ireturn, n_istore, n_isub, n_iushr, n_l2i, n_ladd, n_laload, n_land, n_lcmp, n_lconst, n_ldc, n_ldc2_w, n_lload, n_lstore, n_lushr, n_newarray, b_16, b_32, ci0, cj0, at_0, at_2, at_4, at_5, at_7, at_8, at_9, at_10, at_12, at_13, at_15, at_16, at_17, at_18, at_21, at_22, at_25, at_26, at_28, at_30, at_33, at_34, at_36, at_37, at_38, at_39, at_41, at_43, at_46, at_47, at_49, at_50, at_52, at_53, at_56, at_58, at_59, at_62, at_64, at_65, at_67, at_68, at_70, at_72, at_74, at_75, at_77, at_79, at_81, at_82, at_83, at_85, at_86, at_88, at_90, at_91, at_93, at_94, at_96, at_98, at_101, at_102, at_104, at_107, at_109, at_110, at_113, at_114, at_116, at_117, at_119, at_121, at_123, at_124, at_126, at_127, at_129, at_130, at_132, at_134, at_136, at_139, at_141, at_143, at_145, at_146, at_147, at_149, at_150, at_152, at_154, at_155, at_157, at_158, at_160, at_162, at_165, at_166, at_168, at_171, at_172, at_174, at_175, at_177, at_179, at_181, at_182, at_184, at_185, at_187, at_189, at_191, at_193, at_195, at_196, at_197, at_199, at_200, at_202, at_203, at_205, at_207, at_209, at_210, at_213, at_215, at_216, at_218, at_220, at_222, at_223, at_225, at_226, at_228, at_229, at_231, at_232, at_234, at_235, at_237, at_238, at_239, at_241, at_243, at_245, at_247, at_249, at_251, at_253, at_256, at_258, at_260, at_261, at_262, at_264, at_267, at_269, at_270, at_271, at_273, at_276, at_278, at_279, at_280, at_282, at_285, at_286, at_289, at_290, at_292, at_294, at_295, at_296, at_298, at_300, at_303, at_305, at_306, at_307, at_309, at_311, at_312, at_313, at_316, at_318, at_319, at_320, at_321, at_322, at_325, at_327, at_328, at_330, at_331, at_332, at_333, at_335, at_336, at_337, at_340, at_342, at_343, at_344, at_347, at_349, at_350, at_351, at_353, at_354, at_355, at_358, at_360, at_361, at_362, at_363, at_364, at_367, at_368, at_371, at_372, at_374, at_377, at_378, at_381, at_382, at_385, at_387, at_389, at_392, at_393, at_396, at_397, at_400, at_402, at_405, at_407, at_408, at_409, at_411, at_412, at_413, at_416, at_417, at_420, at_421, at_423, at_426, at_428, at_429, at_432, at_434, at_435, at_436, at_439, at_441, at_444, at_445, at_448, at_449, at_452, at_454, at_455, at_457, at_458, at_459, at_460, at_462, at_463, at_464, at_467, at_469, at_470, at_471, at_473, at_474, at_475, at_478, at_480, at_481, at_484, at_485, at_488, at_489, at_491, at_494, at_496, at_497, at_498, at_501, at_503, at_506, at_507, at_508, at_509, at_512, at_514, at_515, at_517, at_518, at_519, at_520, at_522, at_523, at_524, at_527, at_529, at_530, at_533, at_534, at_537, at_538, at_540, at_542, at_545, at_547, at_550, at_551, at_554, at_555]
set_option maxRecDepth 65536 in
set_option maxHeartbeats 4000000 in
theorem wg_9 (v0 v1 v2 v3 v4 v5 v7 v9 : Slot) (k pv d pf f pp pa : Int32) (pr co : Addr) (n : Int32) : wpo code ci0 cj0 [] 90 280 [v0, v1, v2, v3, v4, v5, .second, v7, .val (.int k), v9, .val (.int pv), .val (.int d), .val (.int pf), .val (.int f), .val (.int pp), .val (.int pa), .val (.ref pr), .val (.ref co), .val (.int n), .unset, .unset, .unset, .unset, .unset, .unset] [.int pa] (fun b M u => b = 295 ∧ M = [v0, v1, v2, v3, v4, v5, .second, v7, .val (.int k), v9, .val (.int pv), .val (.int d), .val (.int pf), .val (.int f), .val (.int pp), .val (.int pa), .val (.ref pr), .val (.ref co), .val (.int n), .val (.int 1), .unset, .unset, .unset, .unset, .unset] ∧ u = [.int 0, .ref co]) := by
  simp only [r_wp0, r_wpS, r_nxt, r_stop0, r_stopS, r_go, r_goIf, r_fork, r_tgt, r_okO, r_gI, r_gJ, r_gA, r_pI, r_pJ, r_pA, r_p1r, r_p1i, r_pII, r_pJJ, r_pJI, r_fnd0, r_fndS, r_gC, r_gC0, r_gB, r_st1, r_st2, r_eq, r_ne, r_lt, r_ge, r_gt, r_le, r_eqL, r_neL, r_ltL, r_geL, r_gtL, r_leL, r_f0, r_f1, r_f2, r_f3, r_im1, r_i0, r_i1, r_i2, r_i3, r_i4, r_i5, r_i7, r_l0, r_l1, lget_z, lget_s, lput_z, lput_s, one_unset, one_int, one_ref, two_unset, two_long, cond_true, cond_false, true_and, and_true, not_true_eq_false, not_false_eq_true, true_implies, false_implies, implies_true, ne_eq, Classical.not_not, Int.cast_ofNat_Int, ite_true, seval, and_self, n_aload, n_astore, n_bipush, n_goto, n_i2l, n_iaload, n_iand, n_iastore, n_iconst, n_ifCond, n_if_icmp, n_iload, n_iload_n, n_invokestatic, n_irem, n_ireturn, n_istore, n_isub, n_iushr, n_l2i, n_ladd, n_laload, n_land, n_lcmp, n_lconst, n_ldc, n_ldc2_w, n_lload, n_lstore, n_lushr, n_newarray, b_16, b_32, ci0, cj0, at_0, at_2, at_4, at_5, at_7, at_8, at_9, at_10, at_12, at_13, at_15, at_16, at_17, at_18, at_21, at_22, at_25, at_26, at_28, at_30, at_33, at_34, at_36, at_37, at_38, at_39, at_41, at_43, at_46, at_47, at_49, at_50, at_52, at_53, at_56, at_58, at_59, at_62, at_64, at_65, at_67, at_68, at_70, at_72, at_74, at_75, at_77, at_79, at_81, at_82, at_83, at_85, at_86, at_88, at_90, at_91, at_93, at_94, at_96, at_98, at_101, at_102, at_104, at_107, at_109, at_110, at_113, at_114, at_116, at_117, at_119, at_121, at_123, at_124, at_126, at_127, at_129, at_130, at_132, at_134, at_136, at_139, at_141, at_143, at_145, at_146, at_147, at_149, at_150, at_152, at_154, at_155, at_157, at_158, at_160, at_162, at_165, at_166, at_168, at_171, at_172, at_174, at_175, at_177, at_179, at_181, at_182, at_184, at_185, at_187, at_189, at_191, at_193, at_195, at_196, at_197, at_199, at_200, at_202, at_203, at_205, at_207, at_209, at_210, at_213, at_215, at_216, at_218, at_220, at_222, at_223, at_225, at_226, at_228, at_229, at_231, at_232, at_234, at_235, at_237, at_238, at_239, at_241, at_243, at_245, at_247, at_249, at_251, at_253, at_256, at_258, at_260, at_261, at_262, at_264, at_267, at_269, at_270, at_271, at_273, at_276, at_278, at_279, at_280, at_282, at_285, at_286, at_289, at_290, at_292, at_294, at_295, at_296, at_298, at_300, at_303, at_305, at_306, at_307, at_309, at_311, at_312, at_313, at_316, at_318, at_319, at_320, at_321, at_322, at_325, at_327, at_328, at_330, at_331, at_332, at_333, at_335, at_336, at_337, at_340, at_342, at_343, at_344, at_347, at_349, at_350, at_351, at_353, at_354, at_355, at_358, at_360, at_361, at_362, at_363, at_364, at_367, at_368, at_371, at_372, at_374, at_377, at_378, at_381, at_382, at_385, at_387, at_389, at_392, at_393, at_396, at_397, at_400, at_402, at_405, at_407, at_408, at_409, at_411, at_412, at_413, at_416, at_417, at_420, at_421, at_423, at_426, at_428, at_429, at_432, at_434, at_435, at_436, at_439, at_441, at_444, at_445, at_448, at_449, at_452, at_454, at_455, at_457, at_458, at_459, at_460, at_462, at_463, at_464, at_467, at_469, at_470, at_471, at_473, at_474, at_475, at_478, at_480, at_481, at_484, at_485, at_488, at_489, at_491, at_494, at_496, at_497, at_498, at_501, at_503, at_506, at_507, at_508, at_509, at_512, at_514, at_515, at_517, at_518, at_519, at_520, at_522, at_523, at_524, at_527, at_529, at_530, at_533, at_534, at_537, at_538, at_540, at_542, at_545, at_547, at_550, at_551, at_554, at_555]
set_option maxRecDepth 65536 in
set_option maxHeartbeats 4000000 in
theorem wg_10 (v0 v1 v2 v3 v4 v5 v7 v9 : Slot) (k pv d pf f pp pa : Int32) (pr co : Addr) (n : Int32) (c0 : Int64) : wpo code ci0 cj0 [] 90 296 [v0, v1, v2, v3, v4, v5, .second, v7, .val (.int 0), v9, .val (.int pv), .val (.int d), .val (.int pf), .val (.int f), .val (.int pp), .val (.int pa), .val (.ref pr), .val (.ref co), .val (.int n), .val (.int 1), .unset, .unset, .unset, .unset, .unset] [.long c0] (fun b M u => b = 306 ∧ M = [v0, v1, v2, v3, v4, v5, .second, v7, .val (.int 0), v9, .val (.int pv), .val (.int d), .val (.int pf), .val (.int f), .val (.int pp), .val (.int pa), .val (.ref pr), .val (.ref co), .val (.int n), .val (.int 1), .val (.long c0), .second, .unset, .unset, .unset] ∧ u = [.int 1, .ref co]) := by
  simp only [r_wp0, r_wpS, r_nxt, r_stop0, r_stopS, r_go, r_goIf, r_fork, r_tgt, r_okO, r_gI, r_gJ, r_gA, r_pI, r_pJ, r_pA, r_p1r, r_p1i, r_pII, r_pJJ, r_pJI, r_fnd0, r_fndS, r_gC, r_gC0, r_gB, r_st1, r_st2, r_eq, r_ne, r_lt, r_ge, r_gt, r_le, r_eqL, r_neL, r_ltL, r_geL, r_gtL, r_leL, r_f0, r_f1, r_f2, r_f3, r_im1, r_i0, r_i1, r_i2, r_i3, r_i4, r_i5, r_i7, r_l0, r_l1, lget_z, lget_s, lput_z, lput_s, one_unset, one_int, one_ref, two_unset, two_long, cond_true, cond_false, true_and, and_true, not_true_eq_false, not_false_eq_true, true_implies, false_implies, implies_true, ne_eq, Classical.not_not, Int.cast_ofNat_Int, ite_true, seval, and_self, n_aload, n_astore, n_bipush, n_goto, n_i2l, n_iaload, n_iand, n_iastore, n_iconst, n_ifCond, n_if_icmp, n_iload, n_iload_n, n_invokestatic, n_irem, n_ireturn, n_istore, n_isub, n_iushr, n_l2i, n_ladd, n_laload, n_land, n_lcmp, n_lconst, n_ldc, n_ldc2_w, n_lload, n_lstore, n_lushr, n_newarray, b_16, b_32, ci0, cj0, at_0, at_2, at_4, at_5, at_7, at_8, at_9, at_10, at_12, at_13, at_15, at_16, at_17, at_18, at_21, at_22, at_25, at_26, at_28, at_30, at_33, at_34, at_36, at_37, at_38, at_39, at_41, at_43, at_46, at_47, at_49, at_50, at_52, at_53, at_56, at_58, at_59, at_62, at_64, at_65, at_67, at_68, at_70, at_72, at_74, at_75, at_77, at_79, at_81, at_82, at_83, at_85, at_86, at_88, at_90, at_91, at_93, at_94, at_96, at_98, at_101, at_102, at_104, at_107, at_109, at_110, at_113, at_114, at_116, at_117, at_119, at_121, at_123, at_124, at_126, at_127, at_129, at_130, at_132, at_134, at_136, at_139, at_141, at_143, at_145, at_146, at_147, at_149, at_150, at_152, at_154, at_155, at_157, at_158, at_160, at_162, at_165, at_166, at_168, at_171, at_172, at_174, at_175, at_177, at_179, at_181, at_182, at_184, at_185, at_187, at_189, at_191, at_193, at_195, at_196, at_197, at_199, at_200, at_202, at_203, at_205, at_207, at_209, at_210, at_213, at_215, at_216, at_218, at_220, at_222, at_223, at_225, at_226, at_228, at_229, at_231, at_232, at_234, at_235, at_237, at_238, at_239, at_241, at_243, at_245, at_247, at_249, at_251, at_253, at_256, at_258, at_260, at_261, at_262, at_264, at_267, at_269, at_270, at_271, at_273, at_276, at_278, at_279, at_280, at_282, at_285, at_286, at_289, at_290, at_292, at_294, at_295, at_296, at_298, at_300, at_303, at_305, at_306, at_307, at_309, at_311, at_312, at_313, at_316, at_318, at_319, at_320, at_321, at_322, at_325, at_327, at_328, at_330, at_331, at_332, at_333, at_335, at_336, at_337, at_340, at_342, at_343, at_344, at_347, at_349, at_350, at_351, at_353, at_354, at_355, at_358, at_360, at_361, at_362, at_363, at_364, at_367, at_368, at_371, at_372, at_374, at_377, at_378, at_381, at_382, at_385, at_387, at_389, at_392, at_393, at_396, at_397, at_400, at_402, at_405, at_407, at_408, at_409, at_411, at_412, at_413, at_416, at_417, at_420, at_421, at_423, at_426, at_428, at_429, at_432, at_434, at_435, at_436, at_439, at_441, at_444, at_445, at_448, at_449, at_452, at_454, at_455, at_457, at_458, at_459, at_460, at_462, at_463, at_464, at_467, at_469, at_470, at_471, at_473, at_474, at_475, at_478, at_480, at_481, at_484, at_485, at_488, at_489, at_491, at_494, at_496, at_497, at_498, at_501, at_503, at_506, at_507, at_508, at_509, at_512, at_514, at_515, at_517, at_518, at_519, at_520, at_522, at_523, at_524, at_527, at_529, at_530, at_533, at_534, at_537, at_538, at_540, at_542, at_545, at_547, at_550, at_551, at_554, at_555]
set_option maxRecDepth 65536 in
set_option maxHeartbeats 4000000 in
theorem wg_11 (v0 v1 v2 v3 v4 v5 v7 v9 : Slot) (k pv d pf f pp pa : Int32) (pr co : Addr) (n : Int32) (c0 c1 : Int64) (h1 : 0 < c0) (h2 : c0 &&& 1 = 1) (h3 : pv.toInt64 + oushrL c0 1 = d.toInt64) (h4 : ¬ c1 < 0) (h5 : oushrL c1 1 = f.toInt64) (h6 : c1 &&& 1 = 0) : wpo code ci0 cj0 [] 90 307 [v0, v1, v2, v3, v4, v5, .second, v7, .val (.int 0), v9, .val (.int pv), .val (.int d), .val (.int pf), .val (.int f), .val (.int pp), .val (.int 0), .val (.ref pr), .val (.ref co), .val (.int 2), .val (.int 1), .val (.long c0), .second, .unset, .unset, .unset] [.long c1] (fun b M u => decode code b = .ok (.ireturn, 1) ∧ u = [.int 1]) := by
  simp only [r_wp0, r_wpS, r_nxt, r_stop0, r_stopS, r_go, r_goIf, r_fork, r_tgt, r_okO, r_gI, r_gJ, r_gA, r_pI, r_pJ, r_pA, r_p1r, r_p1i, r_pII, r_pJJ, r_pJI, r_fnd0, r_fndS, r_gC, r_gC0, r_gB, r_st1, r_st2, r_eq, r_ne, r_lt, r_ge, r_gt, r_le, r_eqL, r_neL, r_ltL, r_geL, r_gtL, r_leL, r_f0, r_f1, r_f2, r_f3, r_im1, r_i0, r_i1, r_i2, r_i3, r_i4, r_i5, r_i7, r_l0, r_l1, lget_z, lget_s, lput_z, lput_s, one_unset, one_int, one_ref, two_unset, two_long, cond_true, cond_false, true_and, and_true, not_true_eq_false, not_false_eq_true, true_implies, false_implies, implies_true, ne_eq, Classical.not_not, Int.cast_ofNat_Int, ite_true, seval, and_self, n_aload, n_astore, n_bipush, n_goto, n_i2l, n_iaload, n_iand, n_iastore, n_iconst, n_ifCond, n_if_icmp, n_iload, n_iload_n, n_invokestatic, n_irem, n_ireturn, n_istore, n_isub, n_iushr, n_l2i, n_ladd, n_laload, n_land, n_lcmp, n_lconst, n_ldc, n_ldc2_w, n_lload, n_lstore, n_lushr, n_newarray, b_16, b_32, ci0, cj0, at_0, at_2, at_4, at_5, at_7, at_8, at_9, at_10, at_12, at_13, at_15, at_16, at_17, at_18, at_21, at_22, at_25, at_26, at_28, at_30, at_33, at_34, at_36, at_37, at_38, at_39, at_41, at_43, at_46, at_47, at_49, at_50, at_52, at_53, at_56, at_58, at_59, at_62, at_64, at_65, at_67, at_68, at_70, at_72, at_74, at_75, at_77, at_79, at_81, at_82, at_83, at_85, at_86, at_88, at_90, at_91, at_93, at_94, at_96, at_98, at_101, at_102, at_104, at_107, at_109, at_110, at_113, at_114, at_116, at_117, at_119, at_121, at_123, at_124, at_126, at_127, at_129, at_130, at_132, at_134, at_136, at_139, at_141, at_143, at_145, at_146, at_147, at_149, at_150, at_152, at_154, at_155, at_157, at_158, at_160, at_162, at_165, at_166, at_168, at_171, at_172, at_174, at_175, at_177, at_179, at_181, at_182, at_184, at_185, at_187, at_189, at_191, at_193, at_195, at_196, at_197, at_199, at_200, at_202, at_203, at_205, at_207, at_209, at_210, at_213, at_215, at_216, at_218, at_220, at_222, at_223, at_225, at_226, at_228, at_229, at_231, at_232, at_234, at_235, at_237, at_238, at_239, at_241, at_243, at_245, at_247, at_249, at_251, at_253, at_256, at_258, at_260, at_261, at_262, at_264, at_267, at_269, at_270, at_271, at_273, at_276, at_278, at_279, at_280, at_282, at_285, at_286, at_289, at_290, at_292, at_294, at_295, at_296, at_298, at_300, at_303, at_305, at_306, at_307, at_309, at_311, at_312, at_313, at_316, at_318, at_319, at_320, at_321, at_322, at_325, at_327, at_328, at_330, at_331, at_332, at_333, at_335, at_336, at_337, at_340, at_342, at_343, at_344, at_347, at_349, at_350, at_351, at_353, at_354, at_355, at_358, at_360, at_361, at_362, at_363, at_364, at_367, at_368, at_371, at_372, at_374, at_377, at_378, at_381, at_382, at_385, at_387, at_389, at_392, at_393, at_396, at_397, at_400, at_402, at_405, at_407, at_408, at_409, at_411, at_412, at_413, at_416, at_417, at_420, at_421, at_423, at_426, at_428, at_429, at_432, at_434, at_435, at_436, at_439, at_441, at_444, at_445, at_448, at_449, at_452, at_454, at_455, at_457, at_458, at_459, at_460, at_462, at_463, at_464, at_467, at_469, at_470, at_471, at_473, at_474, at_475, at_478, at_480, at_481, at_484, at_485, at_488, at_489, at_491, at_494, at_496, at_497, at_498, at_501, at_503, at_506, at_507, at_508, at_509, at_512, at_514, at_515, at_517, at_518, at_519, at_520, at_522, at_523, at_524, at_527, at_529, at_530, at_533, at_534, at_537, at_538, at_540, at_542, at_545, at_547, at_550, at_551, at_554, at_555, h1, h2, h3, h4, h5, h6, List.cons.injEq, Slot.val.injEq, Value.int.injEq, Value.long.injEq]
  all_goals (repeat' (first | refine And.intro ?_ ?_ | intro _))
  all_goals simp [own_k, own_z, own_m, own_pp, own_c01, *]
set_option maxRecDepth 65536 in
set_option maxHeartbeats 4000000 in
theorem wg_12 (v0 v1 v2 v3 v4 v5 v7 v9 : Slot) (k pv d pf f pp pa : Int32) (pr co : Addr) (n : Int32) (c0 c1 : Int64) (h1 : 0 < c0) (h2 : c0 &&& 1 = 1) (h3 : pv.toInt64 + oushrL c0 1 = d.toInt64) (h4 : ¬ c1 < 0) (h5 : oushrL c1 1 = f.toInt64) (h6 : ¬ c1 &&& 1 = 0) (h7 : ¬ pa = 0) : wpo code ci0 cj0 [] 90 307 [v0, v1, v2, v3, v4, v5, .second, v7, .val (.int 0), v9, .val (.int pv), .val (.int d), .val (.int pf), .val (.int f), .val (.int pp), .val (.int pa), .val (.ref pr), .val (.ref co), .val (.int 3), .val (.int 1), .val (.long c0), .second, .unset, .unset, .unset] [.long c1] (fun b M u => b = 408 ∧ M = [v0, v1, v2, v3, v4, v5, .second, v7, .val (.int 0), v9, .val (.int pv), .val (.int d), .val (.int pf), .val (.int f), .val (.int pp), .val (.int pa), .val (.ref pr), .val (.ref co), .val (.int 3), .val (.int 1), .val (.long c0), .second, .unset, .val (.long c1), .second] ∧ u = [.int 2, .ref co]) := by
  simp only [r_wp0, r_wpS, r_nxt, r_stop0, r_stopS, r_go, r_goIf, r_fork, r_tgt, r_okO, r_gI, r_gJ, r_gA, r_pI, r_pJ, r_pA, r_p1r, r_p1i, r_pII, r_pJJ, r_pJI, r_fnd0, r_fndS, r_gC, r_gC0, r_gB, r_st1, r_st2, r_eq, r_ne, r_lt, r_ge, r_gt, r_le, r_eqL, r_neL, r_ltL, r_geL, r_gtL, r_leL, r_f0, r_f1, r_f2, r_f3, r_im1, r_i0, r_i1, r_i2, r_i3, r_i4, r_i5, r_i7, r_l0, r_l1, lget_z, lget_s, lput_z, lput_s, one_unset, one_int, one_ref, two_unset, two_long, cond_true, cond_false, true_and, and_true, not_true_eq_false, not_false_eq_true, true_implies, false_implies, implies_true, ne_eq, Classical.not_not, Int.cast_ofNat_Int, ite_true, seval, and_self, n_aload, n_astore, n_bipush, n_goto, n_i2l, n_iaload, n_iand, n_iastore, n_iconst, n_ifCond, n_if_icmp, n_iload, n_iload_n, n_invokestatic, n_irem, n_ireturn, n_istore, n_isub, n_iushr, n_l2i, n_ladd, n_laload, n_land, n_lcmp, n_lconst, n_ldc, n_ldc2_w, n_lload, n_lstore, n_lushr, n_newarray, b_16, b_32, ci0, cj0, at_0, at_2, at_4, at_5, at_7, at_8, at_9, at_10, at_12, at_13, at_15, at_16, at_17, at_18, at_21, at_22, at_25, at_26, at_28, at_30, at_33, at_34, at_36, at_37, at_38, at_39, at_41, at_43, at_46, at_47, at_49, at_50, at_52, at_53, at_56, at_58, at_59, at_62, at_64, at_65, at_67, at_68, at_70, at_72, at_74, at_75, at_77, at_79, at_81, at_82, at_83, at_85, at_86, at_88, at_90, at_91, at_93, at_94, at_96, at_98, at_101, at_102, at_104, at_107, at_109, at_110, at_113, at_114, at_116, at_117, at_119, at_121, at_123, at_124, at_126, at_127, at_129, at_130, at_132, at_134, at_136, at_139, at_141, at_143, at_145, at_146, at_147, at_149, at_150, at_152, at_154, at_155, at_157, at_158, at_160, at_162, at_165, at_166, at_168, at_171, at_172, at_174, at_175, at_177, at_179, at_181, at_182, at_184, at_185, at_187, at_189, at_191, at_193, at_195, at_196, at_197, at_199, at_200, at_202, at_203, at_205, at_207, at_209, at_210, at_213, at_215, at_216, at_218, at_220, at_222, at_223, at_225, at_226, at_228, at_229, at_231, at_232, at_234, at_235, at_237, at_238, at_239, at_241, at_243, at_245, at_247, at_249, at_251, at_253, at_256, at_258, at_260, at_261, at_262, at_264, at_267, at_269, at_270, at_271, at_273, at_276, at_278, at_279, at_280, at_282, at_285, at_286, at_289, at_290, at_292, at_294, at_295, at_296, at_298, at_300, at_303, at_305, at_306, at_307, at_309, at_311, at_312, at_313, at_316, at_318, at_319, at_320, at_321, at_322, at_325, at_327, at_328, at_330, at_331, at_332, at_333, at_335, at_336, at_337, at_340, at_342, at_343, at_344, at_347, at_349, at_350, at_351, at_353, at_354, at_355, at_358, at_360, at_361, at_362, at_363, at_364, at_367, at_368, at_371, at_372, at_374, at_377, at_378, at_381, at_382, at_385, at_387, at_389, at_392, at_393, at_396, at_397, at_400, at_402, at_405, at_407, at_408, at_409, at_411, at_412, at_413, at_416, at_417, at_420, at_421, at_423, at_426, at_428, at_429, at_432, at_434, at_435, at_436, at_439, at_441, at_444, at_445, at_448, at_449, at_452, at_454, at_455, at_457, at_458, at_459, at_460, at_462, at_463, at_464, at_467, at_469, at_470, at_471, at_473, at_474, at_475, at_478, at_480, at_481, at_484, at_485, at_488, at_489, at_491, at_494, at_496, at_497, at_498, at_501, at_503, at_506, at_507, at_508, at_509, at_512, at_514, at_515, at_517, at_518, at_519, at_520, at_522, at_523, at_524, at_527, at_529, at_530, at_533, at_534, at_537, at_538, at_540, at_542, at_545, at_547, at_550, at_551, at_554, at_555, h1, h2, h3, h4, h5, h6, h7, List.cons.injEq, Slot.val.injEq, Value.int.injEq, Value.long.injEq]
  all_goals (repeat' (first | refine And.intro ?_ ?_ | intro _))
  all_goals simp [own_k, own_z, own_m, own_pp, own_c01, *]
set_option maxRecDepth 65536 in
set_option maxHeartbeats 4000000 in
theorem wg_13 (v0 v1 v2 v3 v4 v5 v7 v9 : Slot) (k pv d pf f pp pa : Int32) (pr co : Addr) (n : Int32) (c0 c1 : Int64) : wpo code ci0 cj0 [] 90 409 [v0, v1, v2, v3, v4, v5, .second, v7, .val (.int 0), v9, .val (.int pv), .val (.int d), .val (.int pf), .val (.int f), .val (.int pp), .val (.int pa), .val (.ref pr), .val (.ref co), .val (.int n), .val (.int 1), .val (.long c0), .second, .unset, .val (.long c1), .second] [.long pa.toInt64] (fun b M u => decode code b = .ok (.ireturn, 1) ∧ u = [.int 1]) := by
  simp only [r_wp0, r_wpS, r_nxt, r_stop0, r_stopS, r_go, r_goIf, r_fork, r_tgt, r_okO, r_gI, r_gJ, r_gA, r_pI, r_pJ, r_pA, r_p1r, r_p1i, r_pII, r_pJJ, r_pJI, r_fnd0, r_fndS, r_gC, r_gC0, r_gB, r_st1, r_st2, r_eq, r_ne, r_lt, r_ge, r_gt, r_le, r_eqL, r_neL, r_ltL, r_geL, r_gtL, r_leL, r_f0, r_f1, r_f2, r_f3, r_im1, r_i0, r_i1, r_i2, r_i3, r_i4, r_i5, r_i7, r_l0, r_l1, lget_z, lget_s, lput_z, lput_s, one_unset, one_int, one_ref, two_unset, two_long, cond_true, cond_false, true_and, and_true, not_true_eq_false, not_false_eq_true, true_implies, false_implies, implies_true, ne_eq, Classical.not_not, Int.cast_ofNat_Int, ite_true, seval, and_self, n_aload, n_astore, n_bipush, n_goto, n_i2l, n_iaload, n_iand, n_iastore, n_iconst, n_ifCond, n_if_icmp, n_iload, n_iload_n, n_invokestatic, n_irem, n_ireturn, n_istore, n_isub, n_iushr, n_l2i, n_ladd, n_laload, n_land, n_lcmp, n_lconst, n_ldc, n_ldc2_w, n_lload, n_lstore, n_lushr, n_newarray, b_16, b_32, ci0, cj0, at_0, at_2, at_4, at_5, at_7, at_8, at_9, at_10, at_12, at_13, at_15, at_16, at_17, at_18, at_21, at_22, at_25, at_26, at_28, at_30, at_33, at_34, at_36, at_37, at_38, at_39, at_41, at_43, at_46, at_47, at_49, at_50, at_52, at_53, at_56, at_58, at_59, at_62, at_64, at_65, at_67, at_68, at_70, at_72, at_74, at_75, at_77, at_79, at_81, at_82, at_83, at_85, at_86, at_88, at_90, at_91, at_93, at_94, at_96, at_98, at_101, at_102, at_104, at_107, at_109, at_110, at_113, at_114, at_116, at_117, at_119, at_121, at_123, at_124, at_126, at_127, at_129, at_130, at_132, at_134, at_136, at_139, at_141, at_143, at_145, at_146, at_147, at_149, at_150, at_152, at_154, at_155, at_157, at_158, at_160, at_162, at_165, at_166, at_168, at_171, at_172, at_174, at_175, at_177, at_179, at_181, at_182, at_184, at_185, at_187, at_189, at_191, at_193, at_195, at_196, at_197, at_199, at_200, at_202, at_203, at_205, at_207, at_209, at_210, at_213, at_215, at_216, at_218, at_220, at_222, at_223, at_225, at_226, at_228, at_229, at_231, at_232, at_234, at_235, at_237, at_238, at_239, at_241, at_243, at_245, at_247, at_249, at_251, at_253, at_256, at_258, at_260, at_261, at_262, at_264, at_267, at_269, at_270, at_271, at_273, at_276, at_278, at_279, at_280, at_282, at_285, at_286, at_289, at_290, at_292, at_294, at_295, at_296, at_298, at_300, at_303, at_305, at_306, at_307, at_309, at_311, at_312, at_313, at_316, at_318, at_319, at_320, at_321, at_322, at_325, at_327, at_328, at_330, at_331, at_332, at_333, at_335, at_336, at_337, at_340, at_342, at_343, at_344, at_347, at_349, at_350, at_351, at_353, at_354, at_355, at_358, at_360, at_361, at_362, at_363, at_364, at_367, at_368, at_371, at_372, at_374, at_377, at_378, at_381, at_382, at_385, at_387, at_389, at_392, at_393, at_396, at_397, at_400, at_402, at_405, at_407, at_408, at_409, at_411, at_412, at_413, at_416, at_417, at_420, at_421, at_423, at_426, at_428, at_429, at_432, at_434, at_435, at_436, at_439, at_441, at_444, at_445, at_448, at_449, at_452, at_454, at_455, at_457, at_458, at_459, at_460, at_462, at_463, at_464, at_467, at_469, at_470, at_471, at_473, at_474, at_475, at_478, at_480, at_481, at_484, at_485, at_488, at_489, at_491, at_494, at_496, at_497, at_498, at_501, at_503, at_506, at_507, at_508, at_509, at_512, at_514, at_515, at_517, at_518, at_519, at_520, at_522, at_523, at_524, at_527, at_529, at_530, at_533, at_534, at_537, at_538, at_540, at_542, at_545, at_547, at_550, at_551, at_554, at_555, List.cons.injEq, Slot.val.injEq, Value.int.injEq, Value.long.injEq]
  all_goals (repeat' (first | refine And.intro ?_ ?_ | intro _))
  all_goals simp [own_k, own_z, own_m, own_pp, own_c01, *]
set_option maxRecDepth 65536 in
set_option maxHeartbeats 4000000 in
theorem wg_14 (v0 v1 v2 v3 v4 v5 v7 v9 : Slot) (k pv d pf f pp pa : Int32) (pr co : Addr) (c0 : Int64) (h1 : 0 < c0) (h2 : c0 &&& 3 = 2) (h3 : pf.toInt64 + oushrL c0 2 = f.toInt64) : wpo code ci0 cj0 [] 90 296 [v0, v1, v2, v3, v4, v5, .second, v7, .val (.int 1), v9, .val (.int pv), .val (.int d), .val (.int pf), .val (.int f), .val (.int pp), .val (.int pa), .val (.ref pr), .val (.ref co), .val (.int 2), .val (.int 1), .unset, .unset, .unset, .unset, .unset] [.long c0] (fun b M u => b = 470 ∧ M = [v0, v1, v2, v3, v4, v5, .second, v7, .val (.int 1), v9, .val (.int pv), .val (.int d), .val (.int pf), .val (.int f), .val (.int pp), .val (.int pa), .val (.ref pr), .val (.ref co), .val (.int 2), .val (.int 1), .val (.long c0), .second, .unset, .unset, .unset] ∧ u = [.int 1, .ref co]) := by
  simp only [r_wp0, r_wpS, r_nxt, r_stop0, r_stopS, r_go, r_goIf, r_fork, r_tgt, r_okO, r_gI, r_gJ, r_gA, r_pI, r_pJ, r_pA, r_p1r, r_p1i, r_pII, r_pJJ, r_pJI, r_fnd0, r_fndS, r_gC, r_gC0, r_gB, r_st1, r_st2, r_eq, r_ne, r_lt, r_ge, r_gt, r_le, r_eqL, r_neL, r_ltL, r_geL, r_gtL, r_leL, r_f0, r_f1, r_f2, r_f3, r_im1, r_i0, r_i1, r_i2, r_i3, r_i4, r_i5, r_i7, r_l0, r_l1, lget_z, lget_s, lput_z, lput_s, one_unset, one_int, one_ref, two_unset, two_long, cond_true, cond_false, true_and, and_true, not_true_eq_false, not_false_eq_true, true_implies, false_implies, implies_true, ne_eq, Classical.not_not, Int.cast_ofNat_Int, ite_true, seval, and_self, n_aload, n_astore, n_bipush, n_goto, n_i2l, n_iaload, n_iand, n_iastore, n_iconst, n_ifCond, n_if_icmp, n_iload, n_iload_n, n_invokestatic, n_irem, n_ireturn, n_istore, n_isub, n_iushr, n_l2i, n_ladd, n_laload, n_land, n_lcmp, n_lconst, n_ldc, n_ldc2_w, n_lload, n_lstore, n_lushr, n_newarray, b_16, b_32, ci0, cj0, at_0, at_2, at_4, at_5, at_7, at_8, at_9, at_10, at_12, at_13, at_15, at_16, at_17, at_18, at_21, at_22, at_25, at_26, at_28, at_30, at_33, at_34, at_36, at_37, at_38, at_39, at_41, at_43, at_46, at_47, at_49, at_50, at_52, at_53, at_56, at_58, at_59, at_62, at_64, at_65, at_67, at_68, at_70, at_72, at_74, at_75, at_77, at_79, at_81, at_82, at_83, at_85, at_86, at_88, at_90, at_91, at_93, at_94, at_96, at_98, at_101, at_102, at_104, at_107, at_109, at_110, at_113, at_114, at_116, at_117, at_119, at_121, at_123, at_124, at_126, at_127, at_129, at_130, at_132, at_134, at_136, at_139, at_141, at_143, at_145, at_146, at_147, at_149, at_150, at_152, at_154, at_155, at_157, at_158, at_160, at_162, at_165, at_166, at_168, at_171, at_172, at_174, at_175, at_177, at_179, at_181, at_182, at_184, at_185, at_187, at_189, at_191, at_193, at_195, at_196, at_197, at_199, at_200, at_202, at_203, at_205, at_207, at_209, at_210, at_213, at_215, at_216, at_218, at_220, at_222, at_223, at_225, at_226, at_228, at_229, at_231, at_232, at_234, at_235, at_237, at_238, at_239, at_241, at_243, at_245, at_247, at_249, at_251, at_253, at_256, at_258, at_260, at_261, at_262, at_264, at_267, at_269, at_270, at_271, at_273, at_276, at_278, at_279, at_280, at_282, at_285, at_286, at_289, at_290, at_292, at_294, at_295, at_296, at_298, at_300, at_303, at_305, at_306, at_307, at_309, at_311, at_312, at_313, at_316, at_318, at_319, at_320, at_321, at_322, at_325, at_327, at_328, at_330, at_331, at_332, at_333, at_335, at_336, at_337, at_340, at_342, at_343, at_344, at_347, at_349, at_350, at_351, at_353, at_354, at_355, at_358, at_360, at_361, at_362, at_363, at_364, at_367, at_368, at_371, at_372, at_374, at_377, at_378, at_381, at_382, at_385, at_387, at_389, at_392, at_393, at_396, at_397, at_400, at_402, at_405, at_407, at_408, at_409, at_411, at_412, at_413, at_416, at_417, at_420, at_421, at_423, at_426, at_428, at_429, at_432, at_434, at_435, at_436, at_439, at_441, at_444, at_445, at_448, at_449, at_452, at_454, at_455, at_457, at_458, at_459, at_460, at_462, at_463, at_464, at_467, at_469, at_470, at_471, at_473, at_474, at_475, at_478, at_480, at_481, at_484, at_485, at_488, at_489, at_491, at_494, at_496, at_497, at_498, at_501, at_503, at_506, at_507, at_508, at_509, at_512, at_514, at_515, at_517, at_518, at_519, at_520, at_522, at_523, at_524, at_527, at_529, at_530, at_533, at_534, at_537, at_538, at_540, at_542, at_545, at_547, at_550, at_551, at_554, at_555, h1, h2, h3]
  all_goals (repeat' (first | refine And.intro ?_ ?_ | intro _))
  all_goals simp [own_k, own_z, own_m, own_pp, own_c01, *]
set_option maxRecDepth 65536 in
set_option maxHeartbeats 4000000 in
theorem wg_15 (v0 v1 v2 v3 v4 v5 v7 v9 : Slot) (k pv d pf f pp pa : Int32) (pr co : Addr) (c0 : Int64) : wpo code ci0 cj0 [] 90 471 [v0, v1, v2, v3, v4, v5, .second, v7, .val (.int 1), v9, .val (.int pv), .val (.int d), .val (.int pf), .val (.int f), .val (.int pp), .val (.int pa), .val (.ref pr), .val (.ref co), .val (.int 2), .val (.int 1), .val (.long c0), .second, .unset, .unset, .unset] [.long pa.toInt64] (fun b M u => decode code b = .ok (.ireturn, 1) ∧ u = [.int 1]) := by
  simp only [r_wp0, r_wpS, r_nxt, r_stop0, r_stopS, r_go, r_goIf, r_fork, r_tgt, r_okO, r_gI, r_gJ, r_gA, r_pI, r_pJ, r_pA, r_p1r, r_p1i, r_pII, r_pJJ, r_pJI, r_fnd0, r_fndS, r_gC, r_gC0, r_gB, r_st1, r_st2, r_eq, r_ne, r_lt, r_ge, r_gt, r_le, r_eqL, r_neL, r_ltL, r_geL, r_gtL, r_leL, r_f0, r_f1, r_f2, r_f3, r_im1, r_i0, r_i1, r_i2, r_i3, r_i4, r_i5, r_i7, r_l0, r_l1, lget_z, lget_s, lput_z, lput_s, one_unset, one_int, one_ref, two_unset, two_long, cond_true, cond_false, true_and, and_true, not_true_eq_false, not_false_eq_true, true_implies, false_implies, implies_true, ne_eq, Classical.not_not, Int.cast_ofNat_Int, ite_true, seval, and_self, n_aload, n_astore, n_bipush, n_goto, n_i2l, n_iaload, n_iand, n_iastore, n_iconst, n_ifCond, n_if_icmp, n_iload, n_iload_n, n_invokestatic, n_irem, n_ireturn, n_istore, n_isub, n_iushr, n_l2i, n_ladd, n_laload, n_land, n_lcmp, n_lconst, n_ldc, n_ldc2_w, n_lload, n_lstore, n_lushr, n_newarray, b_16, b_32, ci0, cj0, at_0, at_2, at_4, at_5, at_7, at_8, at_9, at_10, at_12, at_13, at_15, at_16, at_17, at_18, at_21, at_22, at_25, at_26, at_28, at_30, at_33, at_34, at_36, at_37, at_38, at_39, at_41, at_43, at_46, at_47, at_49, at_50, at_52, at_53, at_56, at_58, at_59, at_62, at_64, at_65, at_67, at_68, at_70, at_72, at_74, at_75, at_77, at_79, at_81, at_82, at_83, at_85, at_86, at_88, at_90, at_91, at_93, at_94, at_96, at_98, at_101, at_102, at_104, at_107, at_109, at_110, at_113, at_114, at_116, at_117, at_119, at_121, at_123, at_124, at_126, at_127, at_129, at_130, at_132, at_134, at_136, at_139, at_141, at_143, at_145, at_146, at_147, at_149, at_150, at_152, at_154, at_155, at_157, at_158, at_160, at_162, at_165, at_166, at_168, at_171, at_172, at_174, at_175, at_177, at_179, at_181, at_182, at_184, at_185, at_187, at_189, at_191, at_193, at_195, at_196, at_197, at_199, at_200, at_202, at_203, at_205, at_207, at_209, at_210, at_213, at_215, at_216, at_218, at_220, at_222, at_223, at_225, at_226, at_228, at_229, at_231, at_232, at_234, at_235, at_237, at_238, at_239, at_241, at_243, at_245, at_247, at_249, at_251, at_253, at_256, at_258, at_260, at_261, at_262, at_264, at_267, at_269, at_270, at_271, at_273, at_276, at_278, at_279, at_280, at_282, at_285, at_286, at_289, at_290, at_292, at_294, at_295, at_296, at_298, at_300, at_303, at_305, at_306, at_307, at_309, at_311, at_312, at_313, at_316, at_318, at_319, at_320, at_321, at_322, at_325, at_327, at_328, at_330, at_331, at_332, at_333, at_335, at_336, at_337, at_340, at_342, at_343, at_344, at_347, at_349, at_350, at_351, at_353, at_354, at_355, at_358, at_360, at_361, at_362, at_363, at_364, at_367, at_368, at_371, at_372, at_374, at_377, at_378, at_381, at_382, at_385, at_387, at_389, at_392, at_393, at_396, at_397, at_400, at_402, at_405, at_407, at_408, at_409, at_411, at_412, at_413, at_416, at_417, at_420, at_421, at_423, at_426, at_428, at_429, at_432, at_434, at_435, at_436, at_439, at_441, at_444, at_445, at_448, at_449, at_452, at_454, at_455, at_457, at_458, at_459, at_460, at_462, at_463, at_464, at_467, at_469, at_470, at_471, at_473, at_474, at_475, at_478, at_480, at_481, at_484, at_485, at_488, at_489, at_491, at_494, at_496, at_497, at_498, at_501, at_503, at_506, at_507, at_508, at_509, at_512, at_514, at_515, at_517, at_518, at_519, at_520, at_522, at_523, at_524, at_527, at_529, at_530, at_533, at_534, at_537, at_538, at_540, at_542, at_545, at_547, at_550, at_551, at_554, at_555, List.cons.injEq, Slot.val.injEq, Value.int.injEq, Value.long.injEq]
  all_goals (repeat' (first | refine And.intro ?_ ?_ | intro _))
  all_goals simp [own_k, own_z, own_m, own_pp, own_c01, *]
set_option maxRecDepth 65536 in
set_option maxHeartbeats 4000000 in
theorem wg_16 (v0 v1 v2 v3 v4 v5 v7 v9 : Slot) (k pv d pf f pp pa : Int32) (pr co : Addr) (c0 : Int64) (k0 : ¬ k = 0) (k1 : ¬ k = 1) (h1 : 0 < c0) (h2 : c0 &&& 3 = 0) (h3 : pp.toInt64 + oushrL c0 2 = pa.toInt64) : wpo code ci0 cj0 [] 90 296 [v0, v1, v2, v3, v4, v5, .second, v7, .val (.int k), v9, .val (.int pv), .val (.int d), .val (.int pf), .val (.int f), .val (.int pp), .val (.int pa), .val (.ref pr), .val (.ref co), .val (.int 1), .val (.int 1), .unset, .unset, .unset, .unset, .unset] [.long c0] (fun b M u => decode code b = .ok (.ireturn, 1) ∧ u = [.int 1]) := by
  simp only [r_wp0, r_wpS, r_nxt, r_stop0, r_stopS, r_go, r_goIf, r_fork, r_tgt, r_okO, r_gI, r_gJ, r_gA, r_pI, r_pJ, r_pA, r_p1r, r_p1i, r_pII, r_pJJ, r_pJI, r_fnd0, r_fndS, r_gC, r_gC0, r_gB, r_st1, r_st2, r_eq, r_ne, r_lt, r_ge, r_gt, r_le, r_eqL, r_neL, r_ltL, r_geL, r_gtL, r_leL, r_f0, r_f1, r_f2, r_f3, r_im1, r_i0, r_i1, r_i2, r_i3, r_i4, r_i5, r_i7, r_l0, r_l1, lget_z, lget_s, lput_z, lput_s, one_unset, one_int, one_ref, two_unset, two_long, cond_true, cond_false, true_and, and_true, not_true_eq_false, not_false_eq_true, true_implies, false_implies, implies_true, ne_eq, Classical.not_not, Int.cast_ofNat_Int, ite_true, seval, and_self, n_aload, n_astore, n_bipush, n_goto, n_i2l, n_iaload, n_iand, n_iastore, n_iconst, n_ifCond, n_if_icmp, n_iload, n_iload_n, n_invokestatic, n_irem, n_ireturn, n_istore, n_isub, n_iushr, n_l2i, n_ladd, n_laload, n_land, n_lcmp, n_lconst, n_ldc, n_ldc2_w, n_lload, n_lstore, n_lushr, n_newarray, b_16, b_32, ci0, cj0, at_0, at_2, at_4, at_5, at_7, at_8, at_9, at_10, at_12, at_13, at_15, at_16, at_17, at_18, at_21, at_22, at_25, at_26, at_28, at_30, at_33, at_34, at_36, at_37, at_38, at_39, at_41, at_43, at_46, at_47, at_49, at_50, at_52, at_53, at_56, at_58, at_59, at_62, at_64, at_65, at_67, at_68, at_70, at_72, at_74, at_75, at_77, at_79, at_81, at_82, at_83, at_85, at_86, at_88, at_90, at_91, at_93, at_94, at_96, at_98, at_101, at_102, at_104, at_107, at_109, at_110, at_113, at_114, at_116, at_117, at_119, at_121, at_123, at_124, at_126, at_127, at_129, at_130, at_132, at_134, at_136, at_139, at_141, at_143, at_145, at_146, at_147, at_149, at_150, at_152, at_154, at_155, at_157, at_158, at_160, at_162, at_165, at_166, at_168, at_171, at_172, at_174, at_175, at_177, at_179, at_181, at_182, at_184, at_185, at_187, at_189, at_191, at_193, at_195, at_196, at_197, at_199, at_200, at_202, at_203, at_205, at_207, at_209, at_210, at_213, at_215, at_216, at_218, at_220, at_222, at_223, at_225, at_226, at_228, at_229, at_231, at_232, at_234, at_235, at_237, at_238, at_239, at_241, at_243, at_245, at_247, at_249, at_251, at_253, at_256, at_258, at_260, at_261, at_262, at_264, at_267, at_269, at_270, at_271, at_273, at_276, at_278, at_279, at_280, at_282, at_285, at_286, at_289, at_290, at_292, at_294, at_295, at_296, at_298, at_300, at_303, at_305, at_306, at_307, at_309, at_311, at_312, at_313, at_316, at_318, at_319, at_320, at_321, at_322, at_325, at_327, at_328, at_330, at_331, at_332, at_333, at_335, at_336, at_337, at_340, at_342, at_343, at_344, at_347, at_349, at_350, at_351, at_353, at_354, at_355, at_358, at_360, at_361, at_362, at_363, at_364, at_367, at_368, at_371, at_372, at_374, at_377, at_378, at_381, at_382, at_385, at_387, at_389, at_392, at_393, at_396, at_397, at_400, at_402, at_405, at_407, at_408, at_409, at_411, at_412, at_413, at_416, at_417, at_420, at_421, at_423, at_426, at_428, at_429, at_432, at_434, at_435, at_436, at_439, at_441, at_444, at_445, at_448, at_449, at_452, at_454, at_455, at_457, at_458, at_459, at_460, at_462, at_463, at_464, at_467, at_469, at_470, at_471, at_473, at_474, at_475, at_478, at_480, at_481, at_484, at_485, at_488, at_489, at_491, at_494, at_496, at_497, at_498, at_501, at_503, at_506, at_507, at_508, at_509, at_512, at_514, at_515, at_517, at_518, at_519, at_520, at_522, at_523, at_524, at_527, at_529, at_530, at_533, at_534, at_537, at_538, at_540, at_542, at_545, at_547, at_550, at_551, at_554, at_555, h1, h2, h3, k0, k1, List.cons.injEq, Slot.val.injEq, Value.int.injEq, Value.long.injEq]
  all_goals (repeat' (first | refine And.intro ?_ ?_ | intro _))
  all_goals simp [own_k, own_z, own_m, own_pp, own_c01, *]
/-! the contracts -/
def QS (Z : State) (d f pa : Int32) (pr co : Addr) (gp : Nat → Int32) (gc : Nat → Int64) (n0 : Nat) (v : Option Value) (h : Heap) (L : List Loc) : Prop :=
  v = some (.int (own_cnt d f pa gp)) ∧ Fr n0 L ∧ AI Z h pr .int 3 (oupd (oupd (oupd gp 0 d) 1 f) 2 pa) ∧ AJ Z h co 3 (own_codes d f pa gp gc)
set_option maxRecDepth 65536 in
set_option maxHeartbeats 40000000 in
theorem rm2 (l : Launch) (Z : State) (a0 : Array Value) (hw : ∀ d ∈ tables_1, d.before a0 Z = true) (ws : List Jvm.Cond) (d f pa : Int32) (pr co : Addr) (gp : Nat → Int32) (gc : Nat → Int64) (h0 : Heap) (n0 : Nat) (A : AI Z h0 pr .int 3 gp) (B : AJ Z h0 co 3 gc) (hne : pr ≠ co) (g1 : n0 ≤ pr) (g2 : n0 ≤ co) :
    MetFree l (⟨"com/example/eliteset/eliteset/index/PairStream", "start", "(III[I[J)I"⟩ : MethodName) (head1 (Jvm.Cond.code (⟨"com/example/eliteset/eliteset/index/PairStream", "start", "(III[I[J)I"⟩ : MethodName) prog_86_method_16_code 6 (some .int) :: ws) room0) (fun a U => a = #[(.int d), (.int f), (.int pa), (.ref pr), (.ref co)] ∧ Z.Warmed39 U.vm ∧ U.heap = h0) (fun _ _ _ _ _ => True) (fun _ U o U' => ∃ v L, o = .returned v ∧ QS Z d f pa pr co gp gc n0 v U'.heap L ∧ FrameEnd U o U' L room0.cells room0.slots) := by
  refine MetFree.of_bodySF (plainFor_of_name pn_2) hisR ?_
  intro p e s m args below meth c s₁ Bd hml0 hP hK
  obtain ⟨rfl, hZ, hh⟩ := hP
  have hx := Bd.exec
  have hby := Bd.bytes
  have hown : s.vm.findClass "com/example/eliteset/eliteset/index/PairStream" = some m.cls := findClass_of_methodNamed Bd.named
  have X0 : Stand p l e room0 s m #[(.int d), (.int f), (.int pa), (.ref pr), (.ref co)] below meth c s₁ [] 0 0 := Stand.of_body Bd
  have e0 : s₁.heap = h0 := by rw [← hh, Bd.state]; rfl
  rw [← e0] at A B
  have hI := cI (args := #[(.int d), (.int f), (.int pa), (.ref pr), (.ref co)]) (s := s) (own := "com/example/eliteset/eliteset/index/PairStream") (ci := ci2) hZ hw (by decide +kernel)
  have hJ := cJ (args := #[(.int d), (.int f), (.int pa), (.ref pr), (.ref co)]) (s := s) (own := "com/example/eliteset/eliteset/index/PairStream") (cj := cj2) hZ hw (by decide +kernel)
  have N0 := Fr.nil n0
  have nin : pr ∉ [co] := ninS hne nin0
  have nin' : co ∉ [pr] := ninS hne.symm nin0
  have mid : ∃ T' locs', Stand p l e room0 s m #[(.int d), (.int f), (.int pa), (.ref pr), (.ref co)] below meth c T' locs' 0 0 ∧ Fr n0 locs' ∧ AI Z T'.heap pr .int 3 gp ∧ AJ Z T'.heap co 3 (own_codes d f pa gp gc) ∧ ∀ t, Steps p.tables e below (T'.setTop (mkF m 110 #[.val (.int d), .val (.int f), .val (.int pa), .val (.ref pr), .val (.ref co), .val (.int (own_cnt d f pa gp))] [])) t → Steps p.tables e below (s₁.setTop (mkF m 0 #[.val (.int d), .val (.int f), .val (.int pa), .val (.ref pr), .val (.ref co), .unset] [])) t := by
    by_cases c1 : d = gp 0
    · by_cases c2 : f = gp 1
      · obtain ⟨T1, l1, X1, N1, B1, K1, t1⟩ := putJ (rest := []) (Ls := #[.val (.int d), .val (.int f), .val (.int pa), .val (.ref pr), .val (.ref co), .unset]) X0 hx hZ B (j := 0) (i := 0) (by decide) (by decide) (by decide) N0 g2 (own_c20 pa (gp 2)) (hb hby d2_106)
        refine ⟨T1, l1, X1, N1, A.keep K1 nin, ?_, fun t k => ?_⟩
        · unfold own_codes; rw [if_pos c1, if_pos c2]; exact B1
        refine sego X0 hx hby hown hI hJ (ws_0 d f pa pr co) _ ?_
        refine getI X0 hx hZ A (j := 0) (i := 0) (by decide) (by decide) (by decide) (hb hby d2_3) _ ?_
        rw [← c1]
        refine sego X0 hx hby hown hI hJ (ws_6 d f pa pr co) _ ?_
        refine getI X0 hx hZ A (j := 1) (i := 1) (by decide) (by decide) (by decide) (hb hby d2_63) _ ?_
        rw [← c2]
        refine sego X0 hx hby hown hI hJ (ws_11 d f pa pr co) _ ?_
        refine getI X0 hx hZ A (j := 2) (i := 2) (by decide) (by decide) (by decide) (hb hby d2_101) _ ?_
        refine sego X0 hx hby hown hI hJ (ws_12 d f pa pr co (gp 2)) _ ?_
        refine t1 _ ?_
        refine sego X1 hx hby hown hI hJ (ws_13 d f pa pr co) _ ?_
        unfold own_cnt at k; rw [if_pos c1, if_pos c2] at k; exact k
      · obtain ⟨T1, l1, X1, N1, B1, K1, t1⟩ := putJ (rest := []) (Ls := #[.val (.int d), .val (.int f), .val (.int pa), .val (.ref pr), .val (.ref co), .unset]) X0 hx hZ B (j := 0) (i := 0) (by decide) (by decide) (by decide) N0 g2 (own_c10 f (gp 1)) (hb hby d2_82)
        obtain ⟨T2, l2, X2, N2, B2, K2, t2⟩ := putJ (rest := []) (Ls := #[.val (.int d), .val (.int f), .val (.int pa), .val (.ref pr), .val (.ref co), .unset]) X1 hx hZ B1 (j := 1) (i := 1) (by decide) (by decide) (by decide) N1 g2 pa.toInt64 (hb hby d2_88)
        refine ⟨T2, l2, X2, N2, (A.keep K1 nin).keep K2 nin, ?_, fun t k => ?_⟩
        · unfold own_codes; rw [if_pos c1, if_neg c2]; exact B2
        refine sego X0 hx hby hown hI hJ (ws_0 d f pa pr co) _ ?_
        refine getI X0 hx hZ A (j := 0) (i := 0) (by decide) (by decide) (by decide) (hb hby d2_3) _ ?_
        rw [← c1]
        refine sego X0 hx hby hown hI hJ (ws_6 d f pa pr co) _ ?_
        refine getI X0 hx hZ A (j := 1) (i := 1) (by decide) (by decide) (by decide) (hb hby d2_63) _ ?_
        refine sego X0 hx hby hown hI hJ (ws_7 d f pa pr co (gp 1) c2) _ ?_
        refine getI X0 hx hZ A (j := 1) (i := 1) (by decide) (by decide) (by decide) (hb hby d2_73) _ ?_
        refine sego X0 hx hby hown hI hJ (ws_8 d f pa pr co (gp 1)) _ ?_
        refine t1 _ ?_
        refine sego X1 hx hby hown hI hJ (ws_9 d f pa pr co) _ ?_
        refine t2 _ ?_
        refine sego X2 hx hby hown hI hJ (ws_10 d f pa pr co) _ ?_
        unfold own_cnt at k; rw [if_pos c1, if_neg c2] at k; exact k
    · obtain ⟨T1, l1, X1, N1, B1, K1, t1⟩ := putJ (rest := []) (Ls := #[.val (.int d), .val (.int f), .val (.int pa), .val (.ref pr), .val (.ref co), .unset]) X0 hx hZ B (j := 0) (i := 0) (by decide) (by decide) (by decide) N0 g2 (own_c00 d (gp 0)) (hb hby d2_20)
      obtain ⟨T2, l2, X2, N2, B2, K2, t2⟩ := putJ (rest := []) (Ls := #[.val (.int d), .val (.int f), .val (.int pa), .val (.ref pr), .val (.ref co), .unset]) X1 hx hZ B1 (j := 1) (i := 1) (by decide) (by decide) (by decide) N1 g2 (own_c01 f pa) (hb hby d2_39)
      obtain ⟨T3, l3, X3, N3, B3, K3, t3⟩ := putJ (rest := []) (Ls := #[.val (.int d), .val (.int f), .val (.int pa), .val (.ref pr), .val (.ref co), .unset]) X2 hx hZ B2 (j := 2) (i := 2) (by decide) (by decide) (by decide) N2 g2 pa.toInt64 (hb hby d2_45)
      refine ⟨T3, l3, X3, N3, ((A.keep K1 nin).keep K2 nin).keep K3 nin, ?_, fun t k => ?_⟩
      · unfold own_codes; rw [if_neg c1]; exact B3
      refine sego X0 hx hby hown hI hJ (ws_0 d f pa pr co) _ ?_
      refine getI X0 hx hZ A (j := 0) (i := 0) (by decide) (by decide) (by decide) (hb hby d2_3) _ ?_
      refine sego X0 hx hby hown hI hJ (ws_1 d f pa pr co (gp 0) c1) _ ?_
      refine getI X0 hx hZ A (j := 0) (i := 0) (by decide) (by decide) (by decide) (hb hby d2_13) _ ?_
      refine sego X0 hx hby hown hI hJ (ws_2 d f pa pr co (gp 0)) _ ?_
      refine t1 _ ?_
      refine sego X1 hx hby hown hI hJ (ws_3 d f pa pr co) _ ?_
      refine t2 _ ?_
      refine sego X2 hx hby hown hI hJ (ws_4 d f pa pr co) _ ?_
      refine t3 _ ?_
      refine sego X3 hx hby hown hI hJ (ws_5 d f pa pr co) _ ?_
      unfold own_cnt at k; rw [if_neg c1] at k; exact k
  obtain ⟨TM, lM, XM, NM, AM, BM, tM⟩ := mid
  obtain ⟨T1, l1, X1, N1, A1, K1, t1⟩ := putI (rest := []) (Ls := #[.val (.int d), .val (.int f), .val (.int pa), .val (.ref pr), .val (.ref co), .val (.int (own_cnt d f pa gp))]) XM hx hZ AM (j := 0) (i := 0) (by decide) (by decide) (by decide) NM g1 d (hb hby d2_113)
  obtain ⟨T2, l2, X2, N2, A2, K2, t2⟩ := putI (rest := []) (Ls := #[.val (.int d), .val (.int f), .val (.int pa), .val (.ref pr), .val (.ref co), .val (.int (own_cnt d f pa gp))]) X1 hx hZ A1 (j := 1) (i := 1) (by decide) (by decide) (by decide) N1 g1 f (hb hby d2_117)
  obtain ⟨T3, l3, X3, N3, A3, K3, t3⟩ := putI (rest := []) (Ls := #[.val (.int d), .val (.int f), .val (.int pa), .val (.ref pr), .val (.ref co), .val (.int (own_cnt d f pa gp))]) X2 hx hZ A2 (j := 2) (i := 2) (by decide) (by decide) (by decide) N2 g1 pa (hb hby d2_121)
  obtain ⟨fs, hr, hrun, hended, hW, hsame⟩ := X3.leave (v := some (.int (own_cnt d f pa gp))) (fun h => by rw [Bd.returns] at h; cases h)
  refine ⟨_, _, castTop (ef_2 m d f pa pr co) ?_, hrun, hended, _, _, rfl, ⟨rfl, N3, A3, ((BM.keep K1 nin').keep K2 nin').keep K3 nin'⟩, ⟨_, rfl⟩, hW, hsame.mono (by decide) (by decide)⟩
  refine tM _ ?_
  refine sego XM hx hby hown hI hJ (ws_14 d f pa pr co _) _ ?_
  refine t1 _ ?_
  refine sego X1 hx hby hown hI hJ (ws_15 d f pa pr co _) _ ?_
  refine t2 _ ?_
  refine sego X2 hx hby hown hI hJ (ws_16 d f pa pr co _) _ ?_
  refine t3 _ ?_
  exact endI X3 hx hby hown hI hJ (ws_17 d f pa pr co _) Bd.returns hr
set_option maxRecDepth 65536 in
set_option maxHeartbeats 40000000 in
theorem rm0 (l : Launch) (Z : State) (a0 : Array Value) (hw : ∀ d ∈ tables_1, d.before a0 Z = true) (ws : List Jvm.Cond) (kd pd dd pf0 f0 : Int32) (ps : Int64) (h0 : Heap) (n0 : Nat) (Z0 : n0 ≤ h0.size) :
    MetFree l x (head1 (Jvm.Cond.code x code maxLocals ret :: ws) room_1) (fun a U => a = #[(.int kd), (.int pd), (.int dd), (.int pf0), (.int f0), (.long ps)] ∧ Z.Warmed39 U.vm ∧ U.heap = h0) (fun _ _ _ _ _ => True) (fun _ U o U' => ∃ v L, o = .returned v ∧ (v = some (.int (1 : Int32)) ∧ Fr n0 L) ∧ FrameEnd U o U' L room_1.cells room_1.slots) := by
  refine MetFree.of_bodySF (plainFor_of_name pn_0) hisR ?_
  intro p e s m args below meth c s₁ Bd hml0 hP hK
  obtain ⟨rfl, hZ, hh⟩ := hP
  have hx := Bd.exec
  have hby := Bd.bytes
  have hml : c.maxLocals = 25 := hml0
  have hown : s.vm.findClass "com/example/eliteset/eliteset/index/PairStreamStartPinLaw" = some m.cls := findClass_of_methodNamed Bd.named
  have X0 : Stand p l e room_1 s m #[(.int kd), (.int pd), (.int dd), (.int pf0), (.int f0), (.long ps)] below meth c s₁ [] 0 0 := Stand.of_body Bd
  have e0 : s₁.heap = h0 := by rw [← hh, Bd.state]; rfl
  have hI := cI (args := #[(.int kd), (.int pd), (.int dd), (.int pf0), (.int f0), (.long ps)]) (s := s) (own := "com/example/eliteset/eliteset/index/PairStreamStartPinLaw") (ci := ci0) hZ hw (by decide +kernel)
  have hJ := cJ (args := #[(.int kd), (.int pd), (.int dd), (.int pf0), (.int f0), (.long ps)]) (s := s) (own := "com/example/eliteset/eliteset/index/PairStreamStartPinLaw") (cj := cj0) hZ hw (by decide +kernel)
  have mid : ∃ T' pv d pf f pp pa, Stand p l e room_1 s m #[(.int kd), (.int pd), (.int dd), (.int pf0), (.int f0), (.long ps)] below meth c T' [] 0 0 ∧ T'.heap = h0 ∧ Good (own_k kd) pv d pf f pp pa ∧ ∀ t, Steps p.tables e below (T'.setTop (mkF m 215 #[.val (.int kd), .val (.int pd), .val (.int dd), .val (.int pf0), .val (.int f0), .val (.long ps), .second, .val (.int 2147483647), .val (.int (own_k kd)), .val (.int (own_z kd)), .val (.int pv), .val (.int d), .val (.int pf), .val (.int f), .val (.int pp), .val (.int pa), .unset, .unset, .unset, .unset, .unset, .unset, .unset, .unset, .unset] [])) t → Steps p.tables e below (s₁.setTop (mkF m 0 #[.val (.int kd), .val (.int pd), .val (.int dd), .val (.int pf0), .val (.int f0), .val (.long ps), .second, .unset, .unset, .unset, .unset, .unset, .unset, .unset, .unset, .unset, .unset, .unset, .unset, .unset, .unset, .unset, .unset, .unset, .unset] [])) t := by
    by_cases k0 : own_k kd = 0
    · by_cases hp : ((pd &&& 2147483647) - 1) < 0
      · refine ⟨s₁, _, _, _, _, _, _, X0, e0, ?_, fun t k => sego X0 hx hby hown hI hJ (wl_0 kd pd dd pf0 f0 ps) _ (by rw [k0] at k ⊢; exact sego X0 hx hby hown hI hJ (wl_1 kd pd dd pf0 f0 ps (own_z kd) hp) _ k)⟩
        have h1 := own_pm1 pd
        have h2 := own_mb pd
        have h3 := own_mmb dd
        rw [own_lt0] at hp
        exact ⟨(own_mb f0).1, own_pab kd ps, fun _ => ⟨by omega, by omega, by omega⟩, fun q => by rw [k0] at q; exact absurd q (by decide), fun q => absurd k0 q⟩
      · have HB : 0 ≤ ((pd &&& 2147483647) - 1).toInt := by rw [own_lt0] at hp; omega
        have HA : ((pd &&& 2147483647) - 1).toInt < 2147483647 := by have h1 := own_pm1 pd; have h2 := own_mb pd; omega
        obtain ⟨TB, XB, eB, tB⟩ := callPure X0 hx hZ hown (y := (⟨"com/example/eliteset/eliteset/index/PairStreamStartPinLaw", "above", "(II)I"⟩ : MethodName)) (hw _ (List.mem_of_getElem? (i := 2) rfl)) (hw _ (List.mem_of_getElem? (i := 3) rfl)) (hw _ (List.mem_of_getElem? (i := 4) rfl)) (hw _ (List.mem_of_getElem? (i := 5) rfl)) (by decide) e0 (argsL := [.int ((pd &&& 2147483647) - 1), .int dd]) (rest := []) (pureI pn_1 hw (ci := ci1) (cj := cj1) (by decide +kernel) (by decide +kernel) (fun m => ef_1 m ((pd &&& 2147483647) - 1) dd) rfl (wa_0 ((pd &&& 2147483647) - 1) dd (own_span ((pd &&& 2147483647) - 1) HA HB).2)) (W := 0) (by decide) (by decide) (by decide) (by decide) (pc := 59) (Ls := #[.val (.int kd), .val (.int pd), .val (.int dd), .val (.int pf0), .val (.int f0), .val (.long ps), .second, .val (.int 2147483647), .val (.int 0), .val (.int (own_z kd)), .val (.int ((pd &&& 2147483647) - 1)), .unset, .unset, .unset, .unset, .unset, .unset, .unset, .unset, .unset, .unset, .unset, .unset, .unset, .unset]) (by rw [hml]; rfl) (lenOf pd_1 rfl) rfl (by decide) (hb hby at_59)
        refine ⟨TB, _, _, _, _, _, _, XB, eB, ?_, fun t k => sego X0 hx hby hown hI hJ (wl_0 kd pd dd pf0 f0 ps) _ (by rw [k0] at k ⊢; exact sego X0 hx hby hown hI hJ (wl_2 kd pd dd pf0 f0 ps (own_z kd) hp) _ (tB _ (sego XB hx hby hown hI hJ (wl_3 kd pd dd pf0 f0 ps (own_z kd) ((pd &&& 2147483647) - 1) _) _ k)))⟩
        have h1 := own_pm1 pd
        have h2 := own_mb pd
        have h3 := own_ab ((pd &&& 2147483647) - 1) dd HA HB
        exact ⟨(own_mb f0).1, own_pab kd ps, fun _ => ⟨by omega, by omega, by omega⟩, fun q => by rw [k0] at q; exact absurd q (by decide), fun q => absurd k0 q⟩
    · by_cases k1 : own_k kd = 1
      · have HB : 0 ≤ (own_m pf0).toInt := (own_mmb pf0).1
        have HA : (own_m pf0).toInt < 2147483647 := (own_mmb pf0).2
        obtain ⟨TB, XB, eB, tB⟩ := callPure X0 hx hZ hown (y := (⟨"com/example/eliteset/eliteset/index/PairStreamStartPinLaw", "above", "(II)I"⟩ : MethodName)) (hw _ (List.mem_of_getElem? (i := 2) rfl)) (hw _ (List.mem_of_getElem? (i := 3) rfl)) (hw _ (List.mem_of_getElem? (i := 4) rfl)) (hw _ (List.mem_of_getElem? (i := 5) rfl)) (by decide) e0 (argsL := [.int (own_m pf0), .int f0]) (rest := []) (pureI pn_1 hw (ci := ci1) (cj := cj1) (by decide +kernel) (by decide +kernel) (fun m => ef_1 m (own_m pf0) f0) rfl (wa_0 (own_m pf0) f0 (own_span (own_m pf0) HA HB).2)) (W := 0) (by decide) (by decide) (by decide) (by decide) (pc := 136) (Ls := #[.val (.int kd), .val (.int pd), .val (.int dd), .val (.int pf0), .val (.int f0), .val (.long ps), .second, .val (.int 2147483647), .val (.int 1), .val (.int (own_z kd)), .val (.int (pd &&& 2147483647)), .val (.int (pd &&& 2147483647)), .val (.int (own_m pf0)), .unset, .unset, .unset, .unset, .unset, .unset, .unset, .unset, .unset, .unset, .unset, .unset]) (by rw [hml]; rfl) (lenOf pd_1 rfl) rfl (by decide) (hb hby at_136)
        refine ⟨TB, _, _, _, _, _, _, XB, eB, ?_, fun t k => sego X0 hx hby hown hI hJ (wl_0 kd pd dd pf0 f0 ps) _ (by rw [k1] at k ⊢; exact sego X0 hx hby hown hI hJ (wl_4 kd pd dd pf0 f0 ps (own_z kd)) _ (tB _ (sego XB hx hby hown hI hJ (wl_5 kd pd dd pf0 f0 ps (own_z kd) (pd &&& 2147483647) (pd &&& 2147483647) (own_m pf0) _) _ k)))⟩
        have h3 := own_ab (own_m pf0) f0 HA HB
        exact ⟨by omega, own_pab kd ps, fun q => absurd q k0, fun _ => ⟨rfl, HB, h3.1⟩, fun _ q => absurd k1 q⟩
      · have HB : 0 ≤ (own_m (oushrL ps 32).toInt32).toInt := (own_mmb _).1
        have HA : (own_m (oushrL ps 32).toInt32).toInt < 2147483647 := (own_mmb _).2
        obtain ⟨TB, XB, eB, tB⟩ := callPure X0 hx hZ hown (y := (⟨"com/example/eliteset/eliteset/index/PairStreamStartPinLaw", "above", "(II)I"⟩ : MethodName)) (hw _ (List.mem_of_getElem? (i := 2) rfl)) (hw _ (List.mem_of_getElem? (i := 3) rfl)) (hw _ (List.mem_of_getElem? (i := 4) rfl)) (hw _ (List.mem_of_getElem? (i := 5) rfl)) (by decide) e0 (argsL := [.int (own_m (oushrL ps 32).toInt32), .int ps.toInt32]) (rest := []) (pureI pn_1 hw (ci := ci1) (cj := cj1) (by decide +kernel) (by decide +kernel) (fun m => ef_1 m (own_m (oushrL ps 32).toInt32) ps.toInt32) rfl (wa_0 (own_m (oushrL ps 32).toInt32) ps.toInt32 (own_span (own_m (oushrL ps 32).toInt32) HA HB).2)) (W := 0) (by decide) (by decide) (by decide) (by decide) (pc := 210) (Ls := #[.val (.int kd), .val (.int pd), .val (.int dd), .val (.int pf0), .val (.int f0), .val (.long ps), .second, .val (.int 2147483647), .val (.int (own_k kd)), .val (.int (own_z kd)), .val (.int (pd &&& 2147483647)), .val (.int (pd &&& 2147483647)), .val (.int (pf0 &&& 2147483647)), .val (.int (pf0 &&& 2147483647)), .val (.int (own_m (oushrL ps 32).toInt32)), .unset, .unset, .unset, .unset, .unset, .unset, .unset, .unset, .unset, .unset]) (by rw [hml]; rfl) (lenOf pd_1 rfl) rfl (by decide) (hb hby at_210)
        refine ⟨TB, _, _, _, _, _, _, XB, eB, ?_, fun t k => sego X0 hx hby hown hI hJ (wl_0 kd pd dd pf0 f0 ps) _ (sego X0 hx hby hown hI hJ (wl_6 kd pd dd pf0 f0 ps (own_z kd) (own_k kd) k0 k1) _ (tB _ (sego XB hx hby hown hI hJ (wl_7 kd pd dd pf0 f0 ps (own_z kd) (own_k kd) (pd &&& 2147483647) (pd &&& 2147483647) (pf0 &&& 2147483647) (pf0 &&& 2147483647) (own_m (oushrL ps 32).toInt32) _) _ k)))⟩
        have h3 := own_ab (own_m (oushrL ps 32).toInt32) ps.toInt32 HA HB
        exact ⟨(own_mb pf0).1, by omega, fun q => absurd q k0, fun q => absurd q k1, fun _ _ => ⟨rfl, rfl, HB, h3.1⟩⟩
  obtain ⟨TM, pv, d, pf, f, pp, pa, XM, eM, hG, tM⟩ := mid
  have YM : n0 ≤ TM.heap.size := by rw [eM]; exact Z0
  obtain ⟨KK, hKK⟩ : ∃ K, K = own_k kd := ⟨_, rfl⟩
  rw [← hKK] at tM hG
  have N0 := Fr.nil n0
  obtain ⟨TA, pr, XA, gpr, szpr, EA, AA, YA, tA⟩ := mkArr (rest := []) (Ls := #[.val (.int kd), .val (.int pd), .val (.int dd), .val (.int pf0), .val (.int f0), .val (.long ps), .second, .val (.int 2147483647), .val (.int KK), .val (.int (own_z kd)), .val (.int pv), .val (.int d), .val (.int pf), .val (.int f), .val (.int pp), .val (.int pa), .unset, .unset, .unset, .unset, .unset, .unset, .unset, .unset, .unset]) XM hx hZ (hw _ (List.mem_of_getElem? (i := 7) rfl)) YM (hb hby at_216) (z := 3) (n := 3) (by decide) (by decide) (by decide) (by decide) (by decide)
  have A0 : AI Z TA.heap pr .int 3 (fun _ => 0) := AA
  obtain ⟨T1, l1, X1, N1, A1, K1, t1⟩ := putI (rest := []) (Ls := #[.val (.int kd), .val (.int pd), .val (.int dd), .val (.int pf0), .val (.int f0), .val (.long ps), .second, .val (.int 2147483647), .val (.int KK), .val (.int (own_z kd)), .val (.int pv), .val (.int d), .val (.int pf), .val (.int f), .val (.int pp), .val (.int pa), .val (.ref pr), .unset, .unset, .unset, .unset, .unset, .unset, .unset, .unset]) XA hx hZ A0 (j := 0) (i := 0) (by decide) (by decide) (by decide) N0 gpr pv (hb hby at_225)
  obtain ⟨T2, l2, X2, N2, A2, K2, t2⟩ := putI (rest := []) (Ls := #[.val (.int kd), .val (.int pd), .val (.int dd), .val (.int pf0), .val (.int f0), .val (.long ps), .second, .val (.int 2147483647), .val (.int KK), .val (.int (own_z kd)), .val (.int pv), .val (.int d), .val (.int pf), .val (.int f), .val (.int pp), .val (.int pa), .val (.ref pr), .unset, .unset, .unset, .unset, .unset, .unset, .unset, .unset]) X1 hx hZ A1 (j := 1) (i := 1) (by decide) (by decide) (by decide) N1 gpr pf (hb hby at_231)
  obtain ⟨T3, l3, X3, N3, A3, K3, t3⟩ := putI (rest := []) (Ls := #[.val (.int kd), .val (.int pd), .val (.int dd), .val (.int pf0), .val (.int f0), .val (.long ps), .second, .val (.int 2147483647), .val (.int KK), .val (.int (own_z kd)), .val (.int pv), .val (.int d), .val (.int pf), .val (.int f), .val (.int pp), .val (.int pa), .val (.ref pr), .unset, .unset, .unset, .unset, .unset, .unset, .unset, .unset]) X2 hx hZ A2 (j := 2) (i := 2) (by decide) (by decide) (by decide) N2 gpr pp (hb hby at_237)
  have Y3 : n0 ≤ T3.heap.size := Nat.le_trans YA (Nat.le_trans K1.1 (Nat.le_trans K2.1 K3.1))
  obtain ⟨TC, co, XC, gco, szco, EC, BB, YC, tC⟩ := mkArr (rest := []) (Ls := #[.val (.int kd), .val (.int pd), .val (.int dd), .val (.int pf0), .val (.int f0), .val (.long ps), .second, .val (.int 2147483647), .val (.int KK), .val (.int (own_z kd)), .val (.int pv), .val (.int d), .val (.int pf), .val (.int f), .val (.int pp), .val (.int pa), .val (.ref pr), .unset, .unset, .unset, .unset, .unset, .unset, .unset, .unset]) X3 hx hZ (hw _ (List.mem_of_getElem? (i := 8) rfl)) Y3 (hb hby at_239) (z := 3) (n := 3) (by decide) (by decide) (by decide) (by decide) (by decide)
  have B0 : AJ Z TC.heap co 3 (fun _ => 0) := BB
  have hne : pr ≠ co := Nat.ne_of_lt (Nat.lt_of_lt_of_le A3.lt szco)
  obtain ⟨GP, hGP⟩ : ∃ G : Nat → Int32, G = oupd (oupd (oupd (fun _ => 0) 0 pv) 1 pf) 2 pp := ⟨_, rfl⟩
  have A4 : AI Z TC.heap pr .int 3 GP := by rw [hGP]; exact A3.ext EC
  have gp0 : GP 0 = pv := by rw [hGP]; rfl
  have gp1 : GP 1 = pf := by rw [hGP]; rfl
  have gp2 : GP 2 = pp := by rw [hGP]; rfl
  obtain ⟨_, _, ⟨TD, LD, kD, nD⟩, -, XD, ⟨LcD, hQD, lD, yD, zD⟩, stD⟩ := Jvm.LawKit.callS XC hx (y := (⟨"com/example/eliteset/eliteset/index/PairStream", "start", "(III[I[J)I"⟩ : MethodName)) hown (mvT hZ (hw _ (List.mem_of_getElem? (i := 9) rfl))) (mvT hZ (hw _ (List.mem_of_getElem? (i := 10) rfl))) (mvT hZ (hw _ (List.mem_of_getElem? (i := 11) rfl))) (mvT hZ (hw _ (List.mem_of_getElem? (i := 12) rfl))) (by decide) (backOf (W := 0) (rm2 l Z a0 hw [] d f pa pr co GP (fun _ => 0) TC.heap n0 A4 B0 hne gpr gco) hZ (hw _ (List.mem_of_getElem? (i := 12) rfl)) (hw _ (List.mem_of_getElem? (i := 11) rfl)) (by decide) (by decide)) (g := mkF m 253 #[.val (.int kd), .val (.int pd), .val (.int dd), .val (.int pf0), .val (.int f0), .val (.long ps), .second, .val (.int 2147483647), .val (.int KK), .val (.int (own_z kd)), .val (.int pv), .val (.int d), .val (.int pf), .val (.int f), .val (.int pp), .val (.int pa), .val (.ref pr), .val (.ref co), .unset, .unset, .unset, .unset, .unset, .unset, .unset] [.ref co, .ref pr, .int pa, .int f, .int d]) rfl (by rw [hml]; rfl) (argsL := [.int d, .int f, .int pa, .ref pr, .ref co]) (rest := []) (lenOf pd_2 rfl) rfl (by show 2 * 0 + _ ≤ _; exact Nat.le_of_eq rfl) (hb hby at_253) (fun _ _ => ⟨rfl, rfl, (by decide : 2 + 0 ≤ _), (by decide : 6 + 0 ≤ _)⟩)
  dsimp only [Pt.U, Pt.locs, Pt.cells, Pt.slots] at XD lD yD zD stD hQD
  subst lD yD zD
  obtain ⟨rfl, ND, AD, BD⟩ := hQD
  have NE := Fr.app N3 ND
  have r0 : oupd (oupd (oupd GP 0 d) 1 f) 2 pa 0 = d := rfl
  have r1 : oupd (oupd (oupd GP 0 d) 1 f) 2 pa 1 = f := rfl
  have r2 : oupd (oupd (oupd GP 0 d) 1 f) 2 pa 2 = pa := rfl
  obtain ⟨fs, hr, hrun, hended, hW, hsame⟩ := XD.leave (v := some (.int (1 : Int32))) (fun h => by rw [Bd.returns] at h; cases h)
  refine ⟨_, _, castTop (ef_0 m kd pd dd pf0 f0 ps) ?_, hrun, hended, _, _, rfl, ⟨rfl, NE⟩, ⟨_, rfl⟩, hW, hsame.mono (by decide) (by decide)⟩
  refine tM _ ?_
  refine sego XM hx hby hown hI hJ (wg_0 _ _ _ _ _ _ _ _ KK pv d pf f pp pa pr co) _ ?_
  refine tA _ ?_
  refine sego XA hx hby hown hI hJ (wg_1 _ _ _ _ _ _ _ _ KK pv d pf f pp pa pr co) _ ?_
  refine t1 _ ?_
  refine sego X1 hx hby hown hI hJ (wg_2 _ _ _ _ _ _ _ _ KK pv d pf f pp pa pr co) _ ?_
  refine t2 _ ?_
  refine sego X2 hx hby hown hI hJ (wg_3 _ _ _ _ _ _ _ _ KK pv d pf f pp pa pr co) _ ?_
  refine t3 _ ?_
  refine sego X3 hx hby hown hI hJ (wg_4 _ _ _ _ _ _ _ _ KK pv d pf f pp pa pr co) _ ?_
  refine tC _ ?_
  refine sego XC hx hby hown hI hJ (wg_5 _ _ _ _ _ _ _ _ KK pv d pf f pp pa pr co) _ ?_
  refine stD _ ?_
  refine sego XD hx hby hown hI hJ (wg_6 _ _ _ _ _ _ _ _ KK pv d pf f pp pa pr co (own_cnt d f pa GP)) _ ?_
  refine getI XD hx hZ AD (j := 0) (i := 0) (by decide) (by decide) (by decide) (hb hby at_261) _ ?_
  rw [r0]
  refine sego XD hx hby hown hI hJ (wg_7 _ _ _ _ _ _ _ _ KK pv d pf f pp pa pr co (own_cnt d f pa GP)) _ ?_
  refine getI XD hx hZ AD (j := 1) (i := 1) (by decide) (by decide) (by decide) (hb hby at_270) _ ?_
  rw [r1]
  refine sego XD hx hby hown hI hJ (wg_8 _ _ _ _ _ _ _ _ KK pv d pf f pp pa pr co (own_cnt d f pa GP)) _ ?_
  refine getI XD hx hZ AD (j := 2) (i := 2) (by decide) (by decide) (by decide) (hb hby at_279) _ ?_
  rw [r2]
  refine sego XD hx hby hown hI hJ (wg_9 _ _ _ _ _ _ _ _ KK pv d pf f pp pa pr co (own_cnt d f pa GP)) _ ?_
  refine getJ XD hx hZ BD (j := 0) (i := 0) (by decide) (by decide) (by decide) (hb hby at_295) _ ?_
  obtain ⟨gf, gpa, g0, g1, g2⟩ := hG
  by_cases k0 : KK = 0
  · obtain ⟨q1, q2, q3⟩ := g0 k0
    have dne : ¬ d = GP 0 := fun q => by rw [gp0] at q; rw [q] at q2; omega
    have cds : own_codes d f pa GP (fun _ => 0) = oupd (oupd (oupd (fun _ => 0) 0 (own_c00 d pv)) 1 (own_c01 f pa)) 2 pa.toInt64 := by unfold own_codes; rw [if_neg dne, gp0]
    have cnt : own_cnt d f pa GP = if pa = 0 then 2 else 3 := by unfold own_cnt; rw [if_neg dne]
    obtain ⟨y1, y2, y3, y4, y5, y6⟩ := own_n0 (pa := pa) gf q1 q2 q3
    rw [cds] at BD ⊢
    rw [cnt, k0]
    have u0 : oupd (oupd (oupd (fun _ => (0 : Int64)) 0 (own_c00 d pv)) 1 (own_c01 f pa)) 2 pa.toInt64 0 = own_c00 d pv := rfl
    have u1 : oupd (oupd (oupd (fun _ => (0 : Int64)) 0 (own_c00 d pv)) 1 (own_c01 f pa)) 2 pa.toInt64 1 = own_c01 f pa := rfl
    have u2 : oupd (oupd (oupd (fun _ => (0 : Int64)) 0 (own_c00 d pv)) 1 (own_c01 f pa)) 2 pa.toInt64 2 = pa.toInt64 := rfl
    rw [u0]
    refine sego XD hx hby hown hI hJ (wg_10 _ _ _ _ _ _ _ _ 0 pv d pf f pp pa pr co _ (own_c00 d pv)) _ ?_
    refine getJ XD hx hZ BD (j := 1) (i := 1) (by decide) (by decide) (by decide) (hb hby at_306) _ ?_
    rw [u1]
    by_cases hz : pa = 0
    · rw [if_pos hz]
      subst hz
      exact endN XD hx hby hown hI hJ (wg_11 _ _ _ _ _ _ _ _ 0 pv d pf f pp 0 pr co 2 (own_c00 d pv) (own_c01 f 0) y1 y2 y3 y4 y5 (y6.mpr rfl)) Bd.returns (by simp) hr
    · rw [if_neg hz]
      refine sego XD hx hby hown hI hJ (wg_12 _ _ _ _ _ _ _ _ 0 pv d pf f pp pa pr co 3 (own_c00 d pv) (own_c01 f pa) y1 y2 y3 y4 y5 (fun q => hz (y6.mp q)) hz) _ ?_
      refine getJ XD hx hZ BD (j := 2) (i := 2) (by decide) (by decide) (by decide) (hb hby at_408) _ ?_
      rw [u2]
      exact endN XD hx hby hown hI hJ (wg_13 _ _ _ _ _ _ _ _ 0 pv d pf f pp pa pr co 3 (own_c00 d pv) (own_c01 f pa)) Bd.returns (by simp) hr
  · by_cases k1 : KK = 1
    · obtain ⟨q1, q2, q3⟩ := g1 k1
      have deq : d = GP 0 := by rw [gp0]; exact q1.symm
      have fne : ¬ f = GP 1 := fun q => by rw [gp1] at q; rw [q] at q3; omega
      have cds : own_codes d f pa GP (fun _ => 0) = oupd (oupd (fun _ => 0) 0 (own_c10 f pf)) 1 pa.toInt64 := by unfold own_codes; rw [if_pos deq, if_neg fne, gp1]
      have cnt : own_cnt d f pa GP = 2 := by unfold own_cnt; rw [if_pos deq, if_neg fne]
      obtain ⟨y1, y2, y3⟩ := own_n1 q2 q3
      rw [cds] at BD ⊢
      rw [cnt, k1]
      have u0 : oupd (oupd (fun _ => (0 : Int64)) 0 (own_c10 f pf)) 1 pa.toInt64 0 = own_c10 f pf := rfl
      have u1 : oupd (oupd (fun _ => (0 : Int64)) 0 (own_c10 f pf)) 1 pa.toInt64 1 = pa.toInt64 := rfl
      rw [u0]
      refine sego XD hx hby hown hI hJ (wg_14 _ _ _ _ _ _ _ _ 1 pv d pf f pp pa pr co (own_c10 f pf) y1 y2 y3) _ ?_
      refine getJ XD hx hZ BD (j := 1) (i := 1) (by decide) (by decide) (by decide) (hb hby at_470) _ ?_
      rw [u1]
      exact endN XD hx hby hown hI hJ (wg_15 _ _ _ _ _ _ _ _ 1 pv d pf f pp pa pr co (own_c10 f pf)) Bd.returns (by simp) hr
    · obtain ⟨q1, q2, q3, q4⟩ := g2 k0 k1
      have deq : d = GP 0 := by rw [gp0]; exact q1.symm
      have feq' : f = GP 1 := by rw [gp1]; exact q2.symm
      have cds : own_codes d f pa GP (fun _ => 0) = oupd (fun _ => 0) 0 (own_c20 pa pp) := by unfold own_codes; rw [if_pos deq, if_pos feq', gp2]
      have cnt : own_cnt d f pa GP = 1 := by unfold own_cnt; rw [if_pos deq, if_pos feq']
      obtain ⟨y1, y2, y3⟩ := own_n2 q3 q4
      rw [cds] at BD ⊢
      rw [cnt]
      have u0 : oupd (fun _ => (0 : Int64)) 0 (own_c20 pa pp) 0 = own_c20 pa pp := rfl
      rw [u0]
      exact endN XD hx hby hown hI hJ (wg_16 _ _ _ _ _ _ _ _ KK pv d pf f pp pa pr co (own_c20 pa pp) k0 k1 y1 y2 y3) Bd.returns (by simp) hr
set_option maxRecDepth 65536 in
set_option maxHeartbeats 40000000 in
theorem comes_1 {Post : Tables → Env → Array Value → State → Outcome → State → Prop} (hpost : ∀ tb e args s v u, (limb_1_1.after args s (.returned v) u = true ∧ limb_1_2.after args s (.returned v) u = true ∧ True) → FrameEnd s (.returned v) u (Jvm.fieldLocs frame_1_writes args s ++ Jvm.arrayLocs frame_1_arrays args s ++ Jvm.staticLocs frame_1_statics s) 16 128 → Post tb e args s (.returned v) u) :
    ArmFor flags0 classFile x code maxLocals ret World_1 tables_1 room_1 Calls_1 rest_1 Pre_1 Post := by
  intro l hfl _ _ p e ha hc hk s m args below hf hA hF happ hP
  obtain ⟨hcalls, hrest, hpre⟩ := hP
  obtain ⟨-, -, -, hnamed, -, -, -, hat⟩ := (Spec.applies_iff hf).mp happ
  obtain ⟨hg, hn⟩ := and_e (Cond.before_iff.mp (show (Jvm.Cond.and given_1 narrow_1).before args s = true from hpre))
  obtain ⟨c0, g0⟩ := and_e hg
  obtain ⟨k0, g1⟩ := and_e g0
  obtain ⟨k1, g2⟩ := and_e g1
  obtain ⟨k2, g3⟩ := and_e g2
  obtain ⟨k3, g4⟩ := and_e g3
  obtain ⟨k4, g5⟩ := and_e g4
  obtain ⟨w0, w1, w2, w3, w4, w5, rfl⟩ : ∃ w0 w1 w2 w3 w4 w5 : Value, args = #[w0, w1, w2, w3, w4, w5] := by
    have hs : args.size = 6 := by simpa [Cond.value, given_1] using c0
    obtain ⟨L⟩ := args
    match L, hs with
    | [w0, w1, w2, w3, w4, w5], _ => exact ⟨w0, w1, w2, w3, w4, w5, rfl⟩
  have hw := fun d (hd : d ∈ tables_1) => atoms_spec (ws := Jvm.Cond.code x code maxLocals ret :: tables_1) hat d (List.mem_cons_of_mem _ hd)
  obtain ⟨i0, ei0⟩ := is_v k0
  obtain rfl : w0 = (.int i0) := Option.some.inj ei0
  obtain ⟨i1, ei1⟩ := is_v k1
  obtain rfl : w1 = (.int i1) := Option.some.inj ei1
  obtain ⟨i2, ei2⟩ := is_v k2
  obtain rfl : w2 = (.int i2) := Option.some.inj ei2
  obtain ⟨i3, ei3⟩ := is_v k3
  obtain rfl : w3 = (.int i3) := Option.some.inj ei3
  obtain ⟨i4, ei4⟩ := is_v k4
  obtain rfl : w4 = (.int i4) := Option.some.inj ei4
  obtain ⟨i5, ei5⟩ := isL_v g5
  obtain rfl : w5 = (.long i5) := Option.some.inj ei5
  obtain ⟨n, o, h1, h2, h3, _, L, rfl, ⟨rfl, N⟩, hq⟩ := rm0 l s _ hw tables_1 i0 i1 i2 i3 i4 i5 s.heap s.heap.size (Nat.le_refl _) p e ha hc hk s m _ below hf ((Spec.applies_iff_loose hf).mp happ).1 ⟨rfl, State.Warmed39.refl s, rfl⟩ trivial
  refine ⟨n, _, h1, h2, h3, hpost _ _ _ _ _ _ ⟨Cond.after_iff.mpr rfl, Cond.after_iff.mpr (eq_i res_at (Term.int_eval (1)) rfl), trivial⟩ ⟨hq.1, hq.2.1, (hq.2.2.sift fun y hy => Or.inr (N y hy)).mono (by decide) (by decide)⟩⟩
theorem main_1_1 : Claimed_1_1 := comes_1 fun _ _ _ _ _ _ h hF => ⟨h.1, hF⟩
theorem main_1_2 : Claimed_1_2 := comes_1 fun _ _ _ _ _ _ h hF => ⟨h.2.1, hF⟩

end Jvm.Pilot.@@N@@
namespace Jvm.Pilot.@@N@@
open Jvm Jvm.ClassFile Sem Op Lib Jvm.Free Jvm.Stand Jvm.Pilot.@@N@@.Jvm.D
/-! MADE BY PROGRAM (witnessworld.py) out of the Statement's table words and the real class files: 11 classes; the members and pool entries that the words name. The judged class is class 1, her method 2. -/
namespace start1
open Jvm.ClassFile
def u (s : String) : CpInfo := .utf8 (stringToUtf16 s)
/-- a pool by its gaps: so many unusable entries, then the entry; so many at the end -/
def gap : Nat → List CpInfo → List CpInfo
  | 0, r => r
  | n + 1, r => .unusable :: gap n r
def poolList (es : List (Nat × CpInfo)) (last : Nat) : List CpInfo := es.foldr (fun e r => gap e.1 (e.2 :: r)) (gap last [])
def pool (es : List (Nat × CpInfo)) (last : Nat) : Array CpInfo := ⟨poolList es last⟩
def fileOf (pool : Array CpInfo) (this : Nat) (attrs : Array Attribute := #[]) (ms : Array MethodInfo := #[]) (fl : Nat := 33) (sup : Nat := 0) (ifs : Array Nat := #[]) (fds : Array FieldInfo := #[]) : ClassFile where
  minorVersion := 0
  majorVersion := 65
  constantPool := pool
  accessFlags := fl
  thisClass := this
  superClass := sup
  interfaces := ifs
  fields := fds
  methods := ms
  attributes := attrs
def plain (name : String) (sup : Option ClassId) : Class where
  name := name
  kind := .ordinary
  loader := none
  accessFlags := 33
  super := sup
  interfaces := #[]
  cf := none
  fields := #[]
  methods := #[]
  instanceTypes := #[]
  staticTypes := #[]
  resolved := #[]
  callSites := []
  init := .initialized
  statics := none
  mirror := none

def pool0 : Array CpInfo := pool [(5, u "<init>"), (0, u "()V"), (1, .class_ 10), (1, u "java/lang/Object")] 113

def k0m0 : Method := { name := "<init>", desc := "()V", sig := { parameters := [], returnType := none }, accessFlags := 1, code := none }
/-- java/lang/Object -/
def k0 : Class := { plain "java/lang/Object" none with
  accessFlags := 33
  interfaces := #[]
  cf := some (fileOf pool0 8 #[] #[{ accessFlags := 1, nameIndex := 5, descriptorIndex := 6, attributes := #[] }] 33 0 #[] #[])
  fields := #[]
  methods := #[k0m0]
  instanceTypes := #[]
  staticTypes := #[]
  resolved := Array.replicate 124 none
  statics := none }

def pool1 : Array CpInfo := pool [(2, .class_ 4), (1, u "java/lang/Object"), (0, u "<init>"), (0, u "()V"), (2, .long 2147483647), (1, .integer 2147483647), (0, .integer 65535), (0, .methodref 14 15), (0, .class_ 16), (0, .nameAndType 17 18), (0, u "com/example/eliteset/eliteset/index/PairStreamStartPinLaw"), (0, u "above"), (0, u "(II)I"), (0, .methodref 20 21), (0, .class_ 22), (0, .nameAndType 23 24), (0, u "com/example/eliteset/eliteset/index/PairStream"), (0, u "start"), (0, u "(III[I[J)I"), (0, .long 3), (1, .long 2), (3, u "law"), (0, u "(IIIIIJ)Z")] 7

def k1m0 : Method := { name := "<init>", desc := "()V", sig := { parameters := [], returnType := none }, accessFlags := 2, code := none }
def k1c1 : Code := { maxStack := 6, maxLocals := 4, code := method_2_code, exceptionTable := #[], attributes := #[] }
def k1m1 : Method := { name := "above", desc := "(II)I", sig := { parameters := [.int, .int], returnType := some .int }, accessFlags := 10, code := some k1c1 }
def k1c2 : Code := { maxStack := 5, maxLocals := 25, code := code, exceptionTable := #[], attributes := #[] }
def k1m2 : Method := { name := "law", desc := "(IIIIIJ)Z", sig := { parameters := [.int, .int, .int, .int, .int, .long], returnType := some .boolean }, accessFlags := 9, code := some k1c2 }
/-- com/example/eliteset/eliteset/index/PairStreamStartPinLaw -/
def k1 : Class := { plain "com/example/eliteset/eliteset/index/PairStreamStartPinLaw" (some 0) with
  accessFlags := 49
  interfaces := #[]
  cf := some (fileOf pool1 14 #[] #[{ accessFlags := 2, nameIndex := 5, descriptorIndex := 6, attributes := #[] }, { accessFlags := 10, nameIndex := 17, descriptorIndex := 18, attributes := #[] }, { accessFlags := 9, nameIndex := 31, descriptorIndex := 32, attributes := #[] }] 49 2 #[] #[])
  fields := #[]
  methods := #[k1m0, k1m1, k1m2]
  instanceTypes := #[]
  staticTypes := #[]
  resolved := Array.replicate 40 none
  statics := none }

def pool2 : Array CpInfo := pool [(2, .class_ 4), (1, u "java/lang/Object"), (0, u "<init>"), (0, u "()V"), (1, .class_ 10), (1, u "com/example/eliteset/eliteset/index/PairStream"), (0, u "unitFields"), (0, u "[I"), (2, u "unitPassages"), (2, u "unitCounts"), (2, u "fields"), (2, u "fieldFrequencies"), (2, u "in"), (0, u "Lcom/example/eliteset/eliteset/index/PairStream$Source;"), (2, u "lastCount"), (0, u "I"), (1, .class_ 36), (1, u "com/example/eliteset/eliteset/index/PairStream$Source"), (4, u "next"), (0, u "J"), (2, u "document"), (2, u "documents"), (2, u "occurrences"), (2, u "unitCount"), (2, u "fieldCount"), (2, u "frequency"), (2, u "ascending"), (0, u "Z"), (8, .long 2), (7, u "STARTS_DOCUMENT"), (2, u "STARTS_FIELD"), (15, u "start"), (0, u "(III[I[J)I"), (6, .class_ 109), (0, u "com/example/eliteset/eliteset/index/PairStream$Writer")] 3

def k2m0 : Method := { name := "<init>", desc := "()V", sig := { parameters := [], returnType := none }, accessFlags := 0, code := none }
def k2c1 : Code := { maxStack := 6, maxLocals := 6, code := prog_86_method_16_code, exceptionTable := #[], attributes := #[] }
def k2m1 : Method := { name := "start", desc := "(III[I[J)I", sig := { parameters := [.int, .int, .int, (.array .int), (.array .long)], returnType := some .int }, accessFlags := 8, code := some k2c1 }
/-- com/example/eliteset/eliteset/index/PairStream -/
def k2 : Class := { plain "com/example/eliteset/eliteset/index/PairStream" (some 0) with
  accessFlags := 48
  interfaces := #[]
  cf := some (fileOf pool2 8 #[.nestMembers #[108, 34]] #[{ accessFlags := 0, nameIndex := 5, descriptorIndex := 6, attributes := #[] }, { accessFlags := 8, nameIndex := 100, descriptorIndex := 101, attributes := #[] }] 48 2 #[] #[{ accessFlags := 26, nameIndex := 81, descriptorIndex := 32, attributes := #[] }, { accessFlags := 26, nameIndex := 84, descriptorIndex := 32, attributes := #[] }, { accessFlags := 2, nameIndex := 27, descriptorIndex := 28, attributes := #[] }, { accessFlags := 2, nameIndex := 31, descriptorIndex := 32, attributes := #[] }, { accessFlags := 2, nameIndex := 41, descriptorIndex := 42, attributes := #[] }, { accessFlags := 2, nameIndex := 45, descriptorIndex := 32, attributes := #[] }, { accessFlags := 2, nameIndex := 60, descriptorIndex := 32, attributes := #[] }, { accessFlags := 2, nameIndex := 11, descriptorIndex := 12, attributes := #[] }, { accessFlags := 2, nameIndex := 15, descriptorIndex := 12, attributes := #[] }, { accessFlags := 2, nameIndex := 18, descriptorIndex := 12, attributes := #[] }, { accessFlags := 2, nameIndex := 54, descriptorIndex := 32, attributes := #[] }, { accessFlags := 2, nameIndex := 63, descriptorIndex := 64, attributes := #[] }, { accessFlags := 2, nameIndex := 21, descriptorIndex := 12, attributes := #[] }, { accessFlags := 2, nameIndex := 24, descriptorIndex := 12, attributes := #[] }, { accessFlags := 2, nameIndex := 57, descriptorIndex := 32, attributes := #[] }, { accessFlags := 2, nameIndex := 48, descriptorIndex := 32, attributes := #[] }, { accessFlags := 2, nameIndex := 51, descriptorIndex := 42, attributes := #[] }])
  fields := #[{ name := "STARTS_DOCUMENT", type := .int, accessFlags := 26, slot := 0, constantValue := 0 }, { name := "STARTS_FIELD", type := .int, accessFlags := 26, slot := 1, constantValue := 0 }, { name := "in", type := (.object "com/example/eliteset/eliteset/index/PairStream$Source"), accessFlags := 2, slot := 0, constantValue := 0 }, { name := "lastCount", type := .int, accessFlags := 2, slot := 1, constantValue := 0 }, { name := "next", type := .long, accessFlags := 2, slot := 2, constantValue := 0 }, { name := "document", type := .int, accessFlags := 2, slot := 3, constantValue := 0 }, { name := "frequency", type := .int, accessFlags := 2, slot := 4, constantValue := 0 }, { name := "unitFields", type := (.array .int), accessFlags := 2, slot := 5, constantValue := 0 }, { name := "unitPassages", type := (.array .int), accessFlags := 2, slot := 6, constantValue := 0 }, { name := "unitCounts", type := (.array .int), accessFlags := 2, slot := 7, constantValue := 0 }, { name := "unitCount", type := .int, accessFlags := 2, slot := 8, constantValue := 0 }, { name := "ascending", type := .boolean, accessFlags := 2, slot := 9, constantValue := 0 }, { name := "fields", type := (.array .int), accessFlags := 2, slot := 10, constantValue := 0 }, { name := "fieldFrequencies", type := (.array .int), accessFlags := 2, slot := 11, constantValue := 0 }, { name := "fieldCount", type := .int, accessFlags := 2, slot := 12, constantValue := 0 }, { name := "documents", type := .int, accessFlags := 2, slot := 13, constantValue := 0 }, { name := "occurrences", type := .long, accessFlags := 2, slot := 14, constantValue := 0 }]
  methods := #[k2m0, k2m1]
  instanceTypes := #[(.object "com/example/eliteset/eliteset/index/PairStream$Source"), .int, .long, .int, .int, (.array .int), (.array .int), (.array .int), .int, .boolean, (.array .int), (.array .int), .int, .int, .long]
  staticTypes := #[.int, .int]
  resolved := Array.replicate 113 none
  statics := none }

def pool3 : Array CpInfo := pool [(1, u "java/lang/Cloneable"), (0, .class_ 1), (0, u "java/lang/Object"), (0, .class_ 3)] 3

/-- java/lang/Cloneable -/
def k3 : Class := { plain "java/lang/Cloneable" (some 0) with
  accessFlags := 1537
  interfaces := #[]
  cf := some (fileOf pool3 2 #[] #[] 1537 4 #[] #[])
  fields := #[]
  methods := #[]
  instanceTypes := #[]
  staticTypes := #[]
  resolved := Array.replicate 8 none
  statics := none }

def pool4 : Array CpInfo := pool [(1, u "java/io/Serializable"), (0, .class_ 1), (0, u "java/lang/Object"), (0, .class_ 3)] 3

/-- java/io/Serializable -/
def k4 : Class := { plain "java/io/Serializable" (some 0) with
  accessFlags := 1537
  interfaces := #[]
  cf := some (fileOf pool4 2 #[] #[] 1537 4 #[] #[])
  fields := #[]
  methods := #[]
  instanceTypes := #[]
  staticTypes := #[]
  resolved := Array.replicate 8 none
  statics := none }

/-- the primitive byte -/
def k5 : Class := { plain "byte" none with kind := .primitive 'B', accessFlags := 0x411 }
/-- [B -/
def k6 : Class := { plain "[B" (some 0) with kind := .array 5 .byte, interfaces := #[3, 4], accessFlags := 1041 }

/-- the primitive int -/
def k7 : Class := { plain "int" none with kind := .primitive 'I', accessFlags := 0x411 }
/-- [I -/
def k8 : Class := { plain "[I" (some 0) with kind := .array 7 .int, interfaces := #[3, 4], accessFlags := 1041 }

/-- the primitive long -/
def k9 : Class := { plain "long" none with kind := .primitive 'J', accessFlags := 0x411 }
/-- [J -/
def k10 : Class := { plain "[J" (some 0) with kind := .array 9 .long, interfaces := #[3, 4], accessFlags := 1041 }

def heap : Heap := #[]
def classes : Array Class := #[k0, k1, k2, k3, k4, k5, k6, k7, k8, k9, k10]
def interned : List (Array UInt16 × Addr) := []
def slotsUsed : Nat := 0
def theMethod : MethodId := ⟨1, 2⟩
def args0 : Array Value := #[.int 5, .int 6, .int 7, .int 8, .int 9, .long 10]
def aboutOver (below : List Frame) : State where
  vm := { classes := classes, interned := interned.toArray }
  heap := heap
  slotsUsed := slotsUsed
  threads := #[{ frames := .invoking theMethod args0 :: below }]
def below0 : List Frame := [.native { method := ⟨0, 0⟩, args := #[] }]
def about1 : State := aboutOver below0
def p0 : Program := .bare "" "" ""
def e0 : Env := launch0.env 0 0 0
theorem w_frames : about1.frames = Frame.invoking theMethod args0 :: below0 := rfl
set_option maxRecDepth 65536 in
theorem w_args : argsFit about1.vm theMethod args0 = true := by decide +kernel
set_option maxRecDepth 65536 in
theorem w_heap : heapFits about1 = true := by decide +kernel
set_option maxRecDepth 65536 in
theorem w_runnable : about1.curStatus? = some .runnable := by decide +kernel
set_option maxRecDepth 65536 in
theorem w_alone : about1.alone = true := by decide +kernel
set_option maxRecDepth 65536 in
theorem w_named : about1.methodNamed? x = some theMethod := by decide +kernel
set_option maxRecDepth 65536 in
theorem w_hears : about1.hears theMethod below0 = true := by decide +kernel
set_option maxRecDepth 65536 in
theorem w_ripe : about1.ripe theMethod args0 below0 = true := by decide +kernel
theorem w_running : about1.status = .running := rfl
set_option maxRecDepth 65536 in
theorem w_room : about1.hasRoom e0.platform room_1 = true :=
  launch0.hasRoom_least _ room_1 (by decide +kernel) (by decide +kernel) (by decide +kernel) (by decide +kernel) (by decide +kernel) (by decide +kernel)
theorem allAtoms_all (ts : List Jvm.Cond) (a : Array Jvm.Value) (st : Jvm.State) : (allAtoms ts).before a st = ts.all (fun c => c.before a st) := by
  induction ts with
  | nil => rfl
  | cons c t ih =>
    show (Jvm.Cond.and c (allAtoms t)).before a st = _
    rw [Jvm.Cond.before_and, ih, List.all_cons]
def words1 : List Jvm.Cond := Jvm.Cond.code x code maxLocals ret :: tables_1
/-- a 'code' word, met by the world's own term for the bytes: nothing is compared byte by byte -/
theorem code_word {y : MethodName} {bytes : ByteArray} {mx : Nat} {rt : Option FieldType} {a : Array Value} {s : State} {m : MethodId} {meth : Method} {c : Code} (h1 : s.methodNamed? y = some m) (h2 : s.vm.method? m = some meth) (h3 : meth.code = some c) (h4 : c.code = bytes)
    (h5 : (c.maxLocals == mx && c.exceptionTable.isEmpty && decide (c.maxStack ≤ mostOperands) && decide (meth.sig.returnType = rt) && !meth.locks && decide (parseMethodDescriptor y.desc = some meth.sig)) = true) : (Jvm.Cond.code y bytes mx rt).before a s = true := by
  simp only [Bool.and_eq_true, beq_iff_eq, Bool.not_eq_true', decide_eq_true_eq] at h5
  obtain ⟨⟨⟨⟨⟨g1, g2⟩, g3⟩, g4⟩, g5⟩, g6⟩ := h5
  simp [Cond.before, Cond.holds, Cond.value, h1, h2, h3, h4, g1, g2, g3, g4, g5, g6]
def isCode : Jvm.Cond → Bool
  | .code _ _ _ _ => true
  | _ => false
theorem all_split {L : List Jvm.Cond} {P : Jvm.Cond → Bool} (h1 : L.all (fun c => isCode c || P c) = true) (h2 : ∀ c ∈ L.filter isCode, P c = true) : L.all P = true := by
  refine List.all_eq_true.mpr fun c hc => ?_
  have h := List.all_eq_true.mp h1 c hc
  rcases Bool.eq_false_or_eq_true (isCode c) with hi | hi
  · exact h2 c (List.mem_filter.mpr ⟨hc, hi⟩)
  · simpa [hi] using h
set_option maxRecDepth 65536 in
theorem w_c0 : (Jvm.Cond.code x code maxLocals ret).before args0 about1 = true := code_word (m := ⟨1, 2⟩) (meth := k1m2) (c := k1c2) (by decide +kernel) rfl rfl rfl (by decide +kernel)
set_option maxRecDepth 65536 in
theorem w_c1 : (Jvm.Cond.code ({ cls := "com/example/eliteset/eliteset/index/PairStreamStartPinLaw", name := "above", desc := "(II)I" } : Jvm.MethodName) method_2_code (4 : Nat) (Option.some Jvm.ClassFile.FieldType.int)).before args0 about1 = true := code_word (m := ⟨1, 1⟩) (meth := k1m1) (c := k1c1) (by decide +kernel) rfl rfl rfl (by decide +kernel)
set_option maxRecDepth 65536 in
theorem w_c2 : (Jvm.Cond.code ({ cls := "com/example/eliteset/eliteset/index/PairStream", name := "start", desc := "(III[I[J)I" } : Jvm.MethodName) prog_86_method_16_code (6 : Nat) (Option.some Jvm.ClassFile.FieldType.int)).before args0 about1 = true := code_word (m := ⟨2, 1⟩) (meth := k2m1) (c := k2c1) (by decide +kernel) rfl rfl rfl (by decide +kernel)
def codes1 : List Jvm.Cond := [Jvm.Cond.code x code maxLocals ret, Jvm.Cond.code ({ cls := "com/example/eliteset/eliteset/index/PairStreamStartPinLaw", name := "above", desc := "(II)I" } : Jvm.MethodName) method_2_code (4 : Nat) (Option.some Jvm.ClassFile.FieldType.int), Jvm.Cond.code ({ cls := "com/example/eliteset/eliteset/index/PairStream", name := "start", desc := "(III[I[J)I" } : Jvm.MethodName) prog_86_method_16_code (6 : Nat) (Option.some Jvm.ClassFile.FieldType.int)]
set_option maxRecDepth 65536 in
theorem codes_eq : words1.filter isCode = codes1 := rfl
theorem w_codes : ∀ c ∈ words1.filter isCode, c.before args0 about1 = true := by
  rw [codes_eq]
  intro c hc
  simp only [codes1, List.mem_cons, List.not_mem_nil, or_false] at hc
  rcases hc with rfl | rfl | rfl
  · exact w_c0
  · exact w_c1
  · exact w_c2
set_option maxRecDepth 65536 in
theorem w_t1 : words1.all (fun c => isCode c || c.before args0 about1) = true := by decide +kernel
theorem w_tables : (allAtoms (Jvm.Cond.code x code maxLocals ret :: tables_1)).before args0 about1 = true := by
  rw [allAtoms_all]
  show words1.all (fun c => c.before args0 about1) = true
  refine all_split ?_ w_codes
  rw [w_t1]
set_option maxRecDepth 65536 in
theorem w_case : (Jvm.Cond.and given_1 narrow_1).before args0 about1 = true := by decide +kernel
theorem w_applies : (headSpec (Jvm.Cond.code x code maxLocals ret :: tables_1) room_1).applies x e0.platform about1 = true :=
  (Spec.applies_iff w_frames).mpr ⟨w_running, w_runnable, w_alone, w_named, w_hears, w_ripe, w_room, w_tables⟩
theorem atStart : AtStart classFile x code maxLocals ret World_1 tables_1 room_1 Calls_1 rest_1 Pre_1 launch0 p0 e0 about1 theMethod args0 below0 :=
  ⟨lists_1, trivial, launch0.admits_env _ _ _, launch0.least_env, fairChoices_fair.cas, fairChoices_fair.clock, w_frames, w_args, w_heap, w_applies, trivial, trivial, w_case⟩
end start1
theorem witness_1 : WitnessClaimed_1 := ⟨start1.p0, start1.e0, start1.about1, start1.theMethod, start1.args0, start1.below0, start1.atStart⟩
end Jvm.Pilot.@@N@@
