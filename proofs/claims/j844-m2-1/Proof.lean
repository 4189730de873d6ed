import JvmDerived
import JvmDerived.Pilot.@@N@@Statement
import JvmDerived.Pilot.@@N@@Code
set_option linter.unusedVariables false
set_option linter.unusedSimpArgs false
@@BLOCK:NumsL.lean.txt@@
namespace Jvm.Pilot.@@N@@
open Jvm Jvm.ClassFile Sem Op Lib Jvm.Free Jvm.Stand Jvm.LawKit Jvm.RoadKit Bundle Jvm.Pilot.@@N@@.Jvm.D
/-! ### own layer 1: plain steps by evaluation over a list of decoded instructions -/
def own_iushr (x y : Int32) : Int32 := (x.toUInt32 >>> (y &&& 31).toUInt32).toInt32
def own_ishl (x y : Int32) : Int32 := x <<< (y &&& 31)
def own_ishr (x y : Int32) : Int32 := x >>> (y &&& 31)
def own_irem (x y : Int32) : Int32 := x - (x / y) * y
def own_lrem (x y : Int64) : Int64 := x - (x / y) * y
def own_lushr (x : Int64) (y : Int32) : Int64 := (x.toUInt64 >>> (y &&& 0x3f).toInt64.toUInt64).toInt64
def own_lshl (x : Int64) (y : Int32) : Int64 := x <<< (y &&& 0x3f).toInt64
def own_lshr (x : Int64) (y : Int32) : Int64 := x >>> (y &&& 0x3f).toInt64
def own_i2b (x : Int32) : Int32 := x.toInt8.toInt32

abbrev own_R : Type := Option (Array Slot × List Value)
def own_i2 (f : Int32 → Int32 → Int32) (ls : Array Slot) : List Value → own_R
  | .int y :: .int x :: r => some (ls, .int (f x y) :: r)
  | _ => none
def own_i1 (f : Int32 → Value) (ls : Array Slot) : List Value → own_R
  | .int x :: r => some (ls, f x :: r)
  | _ => none
def own_l2 (f : Int64 → Int64 → Int64) (ls : Array Slot) : List Value → own_R
  | .long y :: .long x :: r => some (ls, .long (f x y) :: r)
  | _ => none
def own_lS (f : Int64 → Int32 → Int64) (ls : Array Slot) : List Value → own_R
  | .int y :: .long x :: r => some (ls, .long (f x y) :: r)
  | _ => none
def own_l1 (f : Int64 → Value) (ls : Array Slot) : List Value → own_R
  | .long x :: r => some (ls, f x :: r)
  | _ => none
def own_li (ls : Array Slot) (k : Nat) (st : List Value) : own_R :=
  match ls[k]? with
  | some (.val (.int v)) => some (ls, .int v :: st)
  | _ => none
def own_ll (ls : Array Slot) (k : Nat) (st : List Value) : own_R :=
  match ls[k]? with
  | some (.val (.long v)) => some (ls, .long v :: st)
  | _ => none
def own_la (ls : Array Slot) (k : Nat) (st : List Value) : own_R :=
  match ls[k]? with
  | some (.val (.ref v)) => some (ls, .ref v :: st)
  | some (.val .null) => some (ls, .null :: st)
  | _ => none
def own_sv (ls : Array Slot) (k : Nat) (v : Value) (r : List Value) : own_R :=
  match storeLocals ls k v with
  | some l' => some (l', r)
  | none => none
def own_si (ls : Array Slot) (k : Nat) : List Value → own_R
  | .int x :: r => own_sv ls k (.int x) r
  | _ => none
def own_sl (ls : Array Slot) (k : Nat) : List Value → own_R
  | .long x :: r => own_sv ls k (.long x) r
  | _ => none
def own_sa (ls : Array Slot) (k : Nat) : List Value → own_R
  | .ref x :: r => own_sv ls k (.ref x) r
  | .null :: r => own_sv ls k .null r
  | _ => none
def own_inc (ls : Array Slot) (k : Nat) (d : Int) (st : List Value) : own_R :=
  match ls[k]? with
  | some (.val (.int v)) => own_sv ls k (.int (v + Int32.ofInt d)) st
  | _ => none
def own_dup (ls : Array Slot) : List Value → own_R
  | .int x :: r => some (ls, .int x :: .int x :: r)
  | .ref x :: r => some (ls, .ref x :: .ref x :: r)
  | _ => none
def own_dupX (ls : Array Slot) : List Value → own_R
  | .int x :: .ref y :: r => some (ls, .int x :: .ref y :: .int x :: r)
  | _ => none
def own_pop (ls : Array Slot) : List Value → own_R
  | .int _ :: r => some (ls, r)
  | .ref _ :: r => some (ls, r)
  | _ => none

def own_p (i : Instr) (n : Nat) (ls : Array Slot) (st : List Value) : own_R :=
  match i, n with
  | .iconst k, 1 => some (ls, .int (Int32.ofInt k) :: st)
  | .bipush k, 2 => some (ls, .int (Int8.ofInt k).toInt32 :: st)
  | .sipush k, 3 => some (ls, .int (Int16.ofInt k).toInt32 :: st)
  | .lconst k, 1 => some (ls, .long (Int64.ofNat k) :: st)
  | .aconst_null, 1 => some (ls, .null :: st)
  | .iload_n k, 1 => own_li ls k.val st
  | .iload k, 2 => own_li ls k st
  | .lload_n k, 1 => own_ll ls k.val st
  | .lload k, 2 => own_ll ls k st
  | .aload_n k, 1 => own_la ls k.val st
  | .aload k, 2 => own_la ls k st
  | .istore_n k, 1 => own_si ls k.val st
  | .istore k, 2 => own_si ls k st
  | .lstore_n k, 1 => own_sl ls k.val st
  | .lstore k, 2 => own_sl ls k st
  | .astore_n k, 1 => own_sa ls k.val st
  | .astore k, 2 => own_sa ls k st
  | .iinc k d, 3 => own_inc ls k d st
  | .iadd, 1 => own_i2 (· + ·) ls st
  | .isub, 1 => own_i2 (· - ·) ls st
  | .imul, 1 => own_i2 (· * ·) ls st
  | .iand, 1 => own_i2 (· &&& ·) ls st
  | .ior, 1 => own_i2 (· ||| ·) ls st
  | .ixor, 1 => own_i2 (· ^^^ ·) ls st
  | .ishl, 1 => own_i2 own_ishl ls st
  | .ishr, 1 => own_i2 own_ishr ls st
  | .iushr, 1 => own_i2 own_iushr ls st
  | .ladd, 1 => own_l2 (· + ·) ls st
  | .lsub, 1 => own_l2 (· - ·) ls st
  | .lmul, 1 => own_l2 (· * ·) ls st
  | .land, 1 => own_l2 (· &&& ·) ls st
  | .lor, 1 => own_l2 (· ||| ·) ls st
  | .lxor, 1 => own_l2 (· ^^^ ·) ls st
  | .lshl, 1 => own_lS own_lshl ls st
  | .lshr, 1 => own_lS own_lshr ls st
  | .lushr, 1 => own_lS own_lushr ls st
  | .i2b, 1 => own_i1 (fun x => .int (own_i2b x)) ls st
  | .i2l, 1 => own_i1 (fun x => .long x.toInt64) ls st
  | .l2i, 1 => own_l1 (fun x => .int x.toInt32) ls st
  | .dup, 1 => own_dup ls st
  | .dup_x1, 1 => own_dupX ls st
  | .pop, 1 => own_pop ls st
  | _, _ => none

section Inv
variable {ls ls' : Array Slot} {st st' : List Value}
theorem own_i2_inv {f : Int32 → Int32 → Int32} (h : own_i2 f ls st = some (ls', st')) : ∃ x y r, st = .int y :: .int x :: r ∧ ls' = ls ∧ st' = .int (f x y) :: r := by
  unfold own_i2 at h; split at h
  · cases h; exact ⟨_, _, _, rfl, rfl, rfl⟩
  · cases h
theorem own_i1_inv {f : Int32 → Value} (h : own_i1 f ls st = some (ls', st')) : ∃ x r, st = .int x :: r ∧ ls' = ls ∧ st' = f x :: r := by
  unfold own_i1 at h; split at h
  · cases h; exact ⟨_, _, rfl, rfl, rfl⟩
  · cases h
theorem own_l2_inv {f : Int64 → Int64 → Int64} (h : own_l2 f ls st = some (ls', st')) : ∃ x y r, st = .long y :: .long x :: r ∧ ls' = ls ∧ st' = .long (f x y) :: r := by
  unfold own_l2 at h; split at h
  · cases h; exact ⟨_, _, _, rfl, rfl, rfl⟩
  · cases h
theorem own_lS_inv {f : Int64 → Int32 → Int64} (h : own_lS f ls st = some (ls', st')) : ∃ x y r, st = .int y :: .long x :: r ∧ ls' = ls ∧ st' = .long (f x y) :: r := by
  unfold own_lS at h; split at h
  · cases h; exact ⟨_, _, _, rfl, rfl, rfl⟩
  · cases h
theorem own_l1_inv {f : Int64 → Value} (h : own_l1 f ls st = some (ls', st')) : ∃ x r, st = .long x :: r ∧ ls' = ls ∧ st' = f x :: r := by
  unfold own_l1 at h; split at h
  · cases h; exact ⟨_, _, rfl, rfl, rfl⟩
  · cases h
theorem own_li_inv {k : Nat} (h : own_li ls k st = some (ls', st')) : ∃ v, ls[k]? = some (.val (.int v)) ∧ ls' = ls ∧ st' = .int v :: st := by
  unfold own_li at h; split at h
  · rename_i q; cases h; exact ⟨_, q, rfl, rfl⟩
  · cases h
theorem own_ll_inv {k : Nat} (h : own_ll ls k st = some (ls', st')) : ∃ v, ls[k]? = some (.val (.long v)) ∧ ls' = ls ∧ st' = .long v :: st := by
  unfold own_ll at h; split at h
  · rename_i q; cases h; exact ⟨_, q, rfl, rfl⟩
  · cases h
theorem own_la_inv {k : Nat} (h : own_la ls k st = some (ls', st')) : ∃ v : Value, v.isRef = true ∧ ls[k]? = some (.val v) ∧ ls' = ls ∧ st' = v :: st := by
  unfold own_la at h; split at h
  · rename_i q; cases h; exact ⟨_, rfl, q, rfl, rfl⟩
  · rename_i q; cases h; exact ⟨_, rfl, q, rfl, rfl⟩
  · cases h
theorem own_sv_inv {k : Nat} {v : Value} {r : List Value} (h : own_sv ls k v r = some (ls', st')) : storeLocals ls k v = some ls' ∧ st' = r := by
  unfold own_sv at h; split at h
  · rename_i q; cases h; exact ⟨q, rfl⟩
  · cases h
theorem own_si_inv {k : Nat} (h : own_si ls k st = some (ls', st')) : ∃ x, st = .int x :: st' ∧ storeLocals ls k (.int x) = some ls' := by
  unfold own_si at h; split at h
  · obtain ⟨h1, h2⟩ := own_sv_inv h; subst h2; exact ⟨_, rfl, h1⟩
  · cases h
theorem own_sl_inv {k : Nat} (h : own_sl ls k st = some (ls', st')) : ∃ x, st = .long x :: st' ∧ storeLocals ls k (.long x) = some ls' := by
  unfold own_sl at h; split at h
  · obtain ⟨h1, h2⟩ := own_sv_inv h; subst h2; exact ⟨_, rfl, h1⟩
  · cases h
theorem own_sa_inv {k : Nat} (h : own_sa ls k st = some (ls', st')) : ∃ x : Value, x.isRef = true ∧ st = x :: st' ∧ storeLocals ls k x = some ls' := by
  unfold own_sa at h; split at h
  · obtain ⟨h1, h2⟩ := own_sv_inv h; subst h2; exact ⟨_, rfl, rfl, h1⟩
  · obtain ⟨h1, h2⟩ := own_sv_inv h; subst h2; exact ⟨_, rfl, rfl, h1⟩
  · cases h
theorem own_inc_inv {k : Nat} {d : Int} (h : own_inc ls k d st = some (ls', st')) : ∃ x, ls[k]? = some (.val (.int x)) ∧ storeLocals ls k (.int (x + Int32.ofInt d)) = some ls' ∧ st' = st := by
  unfold own_inc at h; split at h
  · rename_i q; obtain ⟨h1, h2⟩ := own_sv_inv h; exact ⟨_, q, h1, h2⟩
  · cases h
theorem own_dup_inv (h : own_dup ls st = some (ls', st')) : ∃ (x : Value) (r : List Value), st = x :: r ∧ x.category = 1 ∧ ls' = ls ∧ st' = x :: x :: r := by
  unfold own_dup at h; split at h
  · cases h; exact ⟨_, _, rfl, rfl, rfl, rfl⟩
  · cases h; exact ⟨_, _, rfl, rfl, rfl, rfl⟩
  · cases h
theorem own_dupX_inv (h : own_dupX ls st = some (ls', st')) : ∃ (x y : Value) (r : List Value), st = x :: y :: r ∧ x.category = 1 ∧ y.category = 1 ∧ ls' = ls ∧ st' = x :: y :: x :: r := by
  unfold own_dupX at h; split at h
  · cases h; exact ⟨_, _, _, rfl, rfl, rfl, rfl, rfl⟩
  · cases h
theorem own_pop_inv (h : own_pop ls st = some (ls', st')) : ∃ (x : Value), st = x :: st' ∧ x.category = 1 ∧ ls' = ls := by
  unfold own_pop at h; split at h
  · cases h; exact ⟨_, rfl, rfl, rfl⟩
  · cases h; exact ⟨_, rfl, rfl, rfl⟩
  · cases h
end Inv

set_option maxHeartbeats 4000000 in
theorem own_p_ok {tb : Tables} [Ours tb] {e : Env} {below : List Frame} {T t : State} {m : MethodId} {c : Code} (h : At T m c below) (hx : tb.exec = Jvm.exec) {i : Instr} {n pc : Nat} {ls ls' : Array Slot} {st st' : List Value}
    (hd : decode c.code pc = .ok (i, n)) (hp : own_p i n ls st = some (ls', st')) (hr : Steps tb e below (T.setTop (mkF m (pc + n) ls' st')) t) : Steps tb e below (T.setTop (mkF m pc ls st)) t := by
  unfold own_p at hp
  split at hp
  · cases hp; exact XS.iconst h hx rfl hd hr
  · cases hp; exact XS.bipush h hx rfl hd hr
  · cases hp; exact XS.sipush h hx rfl hd hr
  · cases hp; exact XS.lconst h hx rfl hd hr
  · cases hp; exact XS.aconstNull h hx rfl hd hr
  · obtain ⟨v, q, rfl, rfl⟩ := own_li_inv hp; exact XS.iloadN h hx rfl hd q hr
  · obtain ⟨v, q, rfl, rfl⟩ := own_li_inv hp; exact XS.iload h hx rfl hd q hr
  · obtain ⟨v, q, rfl, rfl⟩ := own_ll_inv hp; exact XS.lloadN h hx rfl hd q hr
  · obtain ⟨v, q, rfl, rfl⟩ := own_ll_inv hp; exact XS.lload h hx rfl hd q hr
  · obtain ⟨v, q0, q, rfl, rfl⟩ := own_la_inv hp; exact XS.aloadN h hx rfl hd q q0 hr
  · obtain ⟨v, q0, q, rfl, rfl⟩ := own_la_inv hp; exact XS.aload h hx rfl hd q q0 hr
  · obtain ⟨x, rfl, q⟩ := own_si_inv hp; exact XS.istoreN h hx rfl hd rfl q hr
  · obtain ⟨x, rfl, q⟩ := own_si_inv hp; exact XS.istore h hx rfl hd rfl q hr
  · obtain ⟨x, rfl, q⟩ := own_sl_inv hp; exact XS.lstoreN h hx rfl hd rfl q hr
  · obtain ⟨x, rfl, q⟩ := own_sl_inv hp; exact XS.lstore h hx rfl hd rfl q hr
  · obtain ⟨x, q0, rfl, q⟩ := own_sa_inv hp; exact XS.astoreN h hx rfl hd rfl q0 q hr
  · obtain ⟨x, q0, rfl, q⟩ := own_sa_inv hp; exact XS.astore h hx rfl hd rfl q0 q hr
  · obtain ⟨x, q1, q2, rfl⟩ := own_inc_inv hp; exact XS.iinc h hx rfl hd q1 q2 hr
  · obtain ⟨x, y, r, rfl, rfl, rfl⟩ := own_i2_inv hp; exact XS.iadd h hx rfl hd rfl hr
  · obtain ⟨x, y, r, rfl, rfl, rfl⟩ := own_i2_inv hp; exact XS.isub h hx rfl hd rfl hr
  · obtain ⟨x, y, r, rfl, rfl, rfl⟩ := own_i2_inv hp; exact XS.imul h hx rfl hd rfl hr
  · obtain ⟨x, y, r, rfl, rfl, rfl⟩ := own_i2_inv hp; exact XS.iand h hx rfl hd rfl hr
  · obtain ⟨x, y, r, rfl, rfl, rfl⟩ := own_i2_inv hp; exact XS.ior h hx rfl hd rfl hr
  · obtain ⟨x, y, r, rfl, rfl, rfl⟩ := own_i2_inv hp; exact XS.ixor h hx rfl hd rfl hr
  · obtain ⟨x, y, r, rfl, rfl, rfl⟩ := own_i2_inv hp; exact XS.ishl h hx rfl hd rfl hr
  · obtain ⟨x, y, r, rfl, rfl, rfl⟩ := own_i2_inv hp; exact XS.ishr h hx rfl hd rfl hr
  · obtain ⟨x, y, r, rfl, rfl, rfl⟩ := own_i2_inv hp; exact XS.iushr h hx rfl hd rfl hr
  · obtain ⟨x, y, r, rfl, rfl, rfl⟩ := own_l2_inv hp; exact XS.ladd h hx rfl hd rfl hr
  · obtain ⟨x, y, r, rfl, rfl, rfl⟩ := own_l2_inv hp; exact XS.lsub h hx rfl hd rfl hr
  · obtain ⟨x, y, r, rfl, rfl, rfl⟩ := own_l2_inv hp; exact XS.lmul h hx rfl hd rfl hr
  · obtain ⟨x, y, r, rfl, rfl, rfl⟩ := own_l2_inv hp; exact XS.land h hx rfl hd rfl hr
  · obtain ⟨x, y, r, rfl, rfl, rfl⟩ := own_l2_inv hp; exact XS.lor h hx rfl hd rfl hr
  · obtain ⟨x, y, r, rfl, rfl, rfl⟩ := own_l2_inv hp; exact XS.lxor h hx rfl hd rfl hr
  · obtain ⟨x, y, r, rfl, rfl, rfl⟩ := own_lS_inv hp; exact XS.lshl h hx rfl hd rfl hr
  · obtain ⟨x, y, r, rfl, rfl, rfl⟩ := own_lS_inv hp; exact XS.lshr h hx rfl hd rfl hr
  · obtain ⟨x, y, r, rfl, rfl, rfl⟩ := own_lS_inv hp; exact XS.lushr h hx rfl hd rfl hr
  · obtain ⟨x, r, rfl, rfl, rfl⟩ := own_i1_inv hp; exact XS.i2b h hx rfl hd rfl hr
  · obtain ⟨x, r, rfl, rfl, rfl⟩ := own_i1_inv hp; exact XS.i2l h hx rfl hd rfl hr
  · obtain ⟨x, r, rfl, rfl, rfl⟩ := own_l1_inv hp; exact XS.l2i h hx rfl hd rfl hr
  · obtain ⟨x, r, rfl, q, rfl, rfl⟩ := own_dup_inv hp; exact XS.dup h hx rfl hd rfl q hr
  · obtain ⟨x, y, r, rfl, q1, q2, rfl, rfl⟩ := own_dupX_inv hp; exact XS.dupX1 h hx rfl hd rfl q1 q2 hr
  · obtain ⟨x, rfl, q, rfl⟩ := own_pop_inv hp; exact XS.pop h hx rfl hd rfl q hr
  · cases hp

/-- the list lies in the code from pc on, up to pc' -/
def own_d (code : ByteArray) : Nat → List (Instr × Nat) → Nat → Bool
  | pc, [], pc' => pc == pc'
  | pc, (i, n) :: L, pc' => decide (decode code pc = .ok (i, n)) && own_d code (pc + n) L pc'
def own_x : List (Instr × Nat) → Array Slot → List Value → own_R
  | [], ls, st => some (ls, st)
  | (i, n) :: L, ls, st => match own_p i n ls st with
    | some (ls', st') => own_x L ls' st'
    | none => none
theorem own_x_ok {tb : Tables} [Ours tb] {e : Env} {below : List Frame} {T t : State} {m : MethodId} {c : Code} (h : At T m c below) (hx : tb.exec = Jvm.exec) : ∀ (L : List (Instr × Nat)) {pc pc' : Nat} {ls ls' : Array Slot} {st st' : List Value},
    own_d c.code pc L pc' = true → own_x L ls st = some (ls', st') → Steps tb e below (T.setTop (mkF m pc' ls' st')) t → Steps tb e below (T.setTop (mkF m pc ls st)) t
  | [], pc, pc', ls, ls', st, st', hd, hr, k => by
    have e1 : pc = pc' := by simpa [own_d] using hd
    subst e1
    cases hr
    exact k
  | (i, n) :: L, pc, pc', ls, ls', st, st', hd, hr, k => by
    simp only [own_d, Bool.and_eq_true, decide_eq_true_eq] at hd
    simp only [own_x] at hr
    cases hq : own_p i n ls st with
    | none => rw [hq] at hr; cases hr
    | some q =>
      obtain ⟨l1, s1⟩ := q
      rw [hq] at hr
      exact own_p_ok h hx hd.1 hq (own_x_ok h hx L hd.2 hr k)

/-! ### own layer 2: where a walk stands, and that it comes to its end -/
def own_G (p : Program) (e : Env) (below : List Frame) (A : State) (Q : Outcome → State → Prop) : Prop :=
  ∃ s₂ o, Steps p.tables e below A s₂ ∧ s₂.status = .running ∧ Ended s₂ below o ∧ Q o s₂
theorem own_st {p : Program} {e : Env} {below : List Frame} {A A' : State} {Q : Outcome → State → Prop} (st : ∀ t, Steps p.tables e below A' t → Steps p.tables e below A t) (g : own_G p e below A' Q) : own_G p e below A Q := by
  obtain ⟨s2, o, h1, h2⟩ := g
  exact ⟨s2, o, st _ h1, h2⟩
def own_E (s : State) (n0 : Nat) (P : Option Value → Heap → Prop) (C S : Nat) (o : Outcome) (U : State) : Prop := ∃ v L, o = .returned v ∧ (Fr n0 L ∧ P v U.heap) ∧ FrameEnd s o U L C S
def own_X (p : Program) (l : Launch) (e : Env) (R : Room) (s : State) (m : MethodId) (args : Array Value) (below : List Frame) (meth : Method) (c : Code) (Z : State) (bytes : ByteArray) (maxL : Nat) (ret : Option FieldType) (y : MethodName) (n0 : Nat) (h : Heap) (T : State) (k n : Nat) : Prop :=
  (p.tables.exec = Jvm.exec ∧ c.code = bytes ∧ c.maxLocals = maxL ∧ s.vm.findClass y.cls = some m.cls ∧ meth.name = y.name ∧ meth.sig.returnType = ret ∧ Z.Warmed39 s.vm ∧ meth.locks = false) ∧
    n0 ≤ h.size ∧ T.heap = h ∧ ∃ locs, Stand p l e R s m args below meth c T locs k n ∧ Fr n0 locs
/-- a body's contract: from these arguments and this heap it returns, and P says what, and what heap it leaves -/
def own_C (l : Launch) (Z : State) (y : MethodName) (bytes : ByteArray) (maxL : Nat) (ret : Option FieldType) (rm : Room) (as : Array Value) (h0 : Heap) (n0 : Nat) (P : Option Value → Heap → Prop) : Prop :=
  ∀ ws : List Jvm.Cond, MetFree l y (head1 (Jvm.Cond.code y bytes maxL ret :: ws) rm) (fun a U => a = as ∧ Z.Warmed39 U.vm ∧ U.heap = h0) (fun _ _ _ _ _ => True)
    (fun _ U o U' => ∃ v L, o = .returned v ∧ (Fr n0 L ∧ P v U'.heap) ∧ FrameEnd U o U' L rm.cells rm.slots)
theorem own_body {l : Launch} {Z : State} {y : MethodName} {bytes : ByteArray} {maxL : Nat} {ret : Option FieldType} {rm : Room} {as : Array Value} {h0 : Heap} {n0 : Nat} {P : Option Value → Heap → Prop} (hpl : plainFor y = true) (h0n : n0 ≤ h0.size) {ls : Array Slot} (hef : ∀ m, entryFrame m as maxL = mkF m 0 ls [])
    (k : ∀ p e s m below meth c T, own_X p l e rm s m as below meth c Z bytes maxL ret y n0 h0 T 0 0 → own_G p e below (T.setTop (mkF m 0 ls [])) (own_E s n0 P rm.cells rm.slots)) : own_C l Z y bytes maxL ret rm as h0 n0 P := by
  intro ws
  refine MetFree.of_bodySF hpl hisR ?_
  intro p e s m args below meth c s₁ Bd hml0 hP hK
  obtain ⟨rfl, hZ, hh⟩ := hP
  have e0 : s₁.heap = h0 := by rw [← hh, Bd.state]; rfl
  have X0 : Stand p l e rm s m args below meth c s₁ [] 0 0 := Stand.of_body Bd
  have g := k p e s m below meth c s₁ ⟨⟨Bd.exec, Bd.bytes, hml0, findClass_of_methodNamed Bd.named, (name_of_methodNamed Bd.named Bd.method).1, Bd.returns, hZ, Bd.notSynchronized⟩, h0n, e0, [], X0, Fr.nil n0⟩
  rw [← hef m] at g
  exact g

section Walk
variable {p : Program} {l : Launch} {e : Env} {R : Room} {s : State} {m : MethodId} {args : Array Value} {below : List Frame} {meth : Method} {c : Code} {Z : State} {bytes : ByteArray} {maxL : Nat} {ret : Option FieldType} {y : MethodName} {n0 : Nat} {h : Heap} {T : State} {k n : Nat} {Q : Outcome → State → Prop} {pc pc' : Nat} {ls ls' : Array Slot} {st st' : List Value} {a0 : Array Value}
theorem own_blk (X : own_X p l e R s m args below meth c Z bytes maxL ret y n0 h T k n) (L : List (Instr × Nat)) (hd : own_d bytes pc L pc' = true) (hr : own_x L ls st = some (ls', st')) (g : own_G p e below (T.setTop (mkF m pc' ls' st')) Q) : own_G p e below (T.setTop (mkF m pc ls st)) Q := by
  obtain ⟨⟨hx, hby, -⟩, -, -, locs, X, -⟩ := X
  subst hby
  exact own_st (fun t q => own_x_ok X.here hx L hd hr q) g
/-! branches -/
def own_tg (pc : Nat) (o : Int) (pc' : Nat) : Bool := decide (0 ≤ (pc : Int) + o) && decide (((pc : Int) + o).toNat = pc')
def own_cI : ClassFile.Cond → Int → Int → Prop
  | .eq, x, y => x = y
  | .ne, x, y => ¬ x = y
  | .lt, x, y => x < y
  | .ge, x, y => y ≤ x
  | .gt, x, y => y < x
  | .le, x, y => x ≤ y
theorem own_icmp_iff (cd : ClassFile.Cond) (x y : Int32) : if_icmp.holds cd x y = true ↔ own_cI cd x.toInt y.toInt := by
  cases cd <;> simp [if_icmp.holds, own_cI, Int32.lt_iff_toInt_lt, Int32.le_iff_toInt_le, Int32.toInt_inj]
theorem own_if_iff (cd : ClassFile.Cond) (x : Int32) : ifCond.holds cd x = true ↔ own_cI cd x.toInt 0 := by
  rw [if0]; exact own_icmp_iff cd x 0
theorem own_l_iff (cd : ClassFile.Cond) (x y : Int64) : ifCond.holds cd (if x > y then 1 else if x = y then 0 else -1) = true ↔ own_cI cd x.toInt y.toInt := by
  rw [own_if_iff]
  have e1 : (x > y) = (y.toInt < x.toInt) := by rw [gt_iff_lt, Int64.lt_iff_toInt_lt]
  have e2 : (x = y) = (x.toInt = y.toInt) := by rw [Int64.toInt_inj]
  simp only [e1, e2]
  by_cases q1 : y.toInt < x.toInt
  · simp only [q1, if_true]
    have e3 : (1 : Int32).toInt = 1 := rfl
    cases cd <;> simp only [own_cI, e3] <;> omega
  · by_cases q2 : x.toInt = y.toInt
    · simp only [q1, q2, if_true, if_false]
      have e3 : (0 : Int32).toInt = 0 := rfl
      cases cd <;> simp [own_cI]
    · simp only [q1, q2, if_false]
      have e3 : (-1 : Int32).toInt = -1 := rfl
      cases cd <;> simp only [own_cI, e3] <;> omega
theorem own_tg_s {o : Int} (hp : own_tg pc o pc' = true) : 0 ≤ (pc : Int) + o ∧ ((pc : Int) + o).toNat = pc' := by
  simpa [own_tg] using hp
theorem own_goto (X : own_X p l e R s m args below meth c Z bytes maxL ret y n0 h T k n) {o : Int} (hd : decode bytes pc = .ok (.goto o, 3)) (hp : own_tg pc o pc' = true) (g : own_G p e below (T.setTop (mkF m pc' ls st)) Q) : own_G p e below (T.setTop (mkF m pc ls st)) Q := by
  obtain ⟨⟨hx, hby, -⟩, -, -, locs, X, -⟩ := X
  subst hby
  exact own_st (fun t q => XS.goto X.here hx rfl rfl hd (own_tg_s hp).1 (own_tg_s hp).2 q) g
theorem own_icmp (X : own_X p l e R s m args below meth c Z bytes maxL ret y n0 h T k n) {cd : ClassFile.Cond} {o : Int} {v w : Int32} (hd : decode bytes pc = .ok (.if_icmp cd o, 3)) (hp : own_tg pc o pc' = true) (gT : own_cI cd v.toInt w.toInt → own_G p e below (T.setTop (mkF m pc' ls st)) Q) (gF : ¬ own_cI cd v.toInt w.toInt → own_G p e below (T.setTop (mkF m (pc + 3) ls st)) Q) :
    own_G p e below (T.setTop (mkF m pc ls (.int w :: .int v :: st))) Q := by
  obtain ⟨⟨hx, hby, -⟩, -, -, locs, X, -⟩ := X
  subst hby
  cases hc : if_icmp.holds cd v w with
  | true => exact own_st (fun t q => XS.icmpYes X.here hx rfl rfl hd rfl hc (own_tg_s hp).1 (own_tg_s hp).2 q) (gT ((own_icmp_iff cd v w).mp hc))
  | false => exact own_st (fun t q => XS.icmpNo X.here hx rfl hd rfl hc q) (gF fun q => by rw [(own_icmp_iff cd v w).mpr q] at hc; cases hc)
theorem own_if (X : own_X p l e R s m args below meth c Z bytes maxL ret y n0 h T k n) {cd : ClassFile.Cond} {o : Int} {v : Int32} (hd : decode bytes pc = .ok (.ifCond cd o, 3)) (hp : own_tg pc o pc' = true) (gT : own_cI cd v.toInt 0 → own_G p e below (T.setTop (mkF m pc' ls st)) Q) (gF : ¬ own_cI cd v.toInt 0 → own_G p e below (T.setTop (mkF m (pc + 3) ls st)) Q) :
    own_G p e below (T.setTop (mkF m pc ls (.int v :: st))) Q := by
  obtain ⟨⟨hx, hby, -⟩, -, -, locs, X, -⟩ := X
  subst hby
  cases hc : ifCond.holds cd v with
  | true => exact own_st (fun t q => XS.ifYes X.here hx rfl rfl hd rfl hc (own_tg_s hp).1 (own_tg_s hp).2 q) (gT ((own_if_iff cd v).mp hc))
  | false => exact own_st (fun t q => XS.ifNo X.here hx rfl hd rfl hc q) (gF fun q => by rw [(own_if_iff cd v).mpr q] at hc; cases hc)
theorem own_lif (X : own_X p l e R s m args below meth c Z bytes maxL ret y n0 h T k n) {cd : ClassFile.Cond} {o : Int} {v w : Int64} (hd1 : decode bytes pc = .ok (.lcmp, 1)) (hd : decode bytes (pc + 1) = .ok (.ifCond cd o, 3)) (hp : own_tg (pc + 1) o pc' = true) (gT : own_cI cd v.toInt w.toInt → own_G p e below (T.setTop (mkF m pc' ls st)) Q) (gF : ¬ own_cI cd v.toInt w.toInt → own_G p e below (T.setTop (mkF m (pc + 4) ls st)) Q) :
    own_G p e below (T.setTop (mkF m pc ls (.long w :: .long v :: st))) Q := by
  obtain ⟨⟨hx, hby, -⟩, -, -, locs, X, -⟩ := X
  subst hby
  refine own_st (fun t q => XS.lcmp X.here hx rfl hd1 rfl q) ?_
  show own_G p e below (T.setTop (mkF m (pc + 1) ls (.int (if v > w then 1 else if v = w then 0 else -1) :: st))) Q
  cases hc : ifCond.holds cd (if v > w then 1 else if v = w then 0 else -1) with
  | true => exact own_st (fun t q => XS.ifYes X.here hx rfl rfl hd rfl hc (own_tg_s hp).1 (own_tg_s hp).2 q) (gT ((own_l_iff cd v w).mp hc))
  | false => exact own_st (fun t q => XS.ifNo X.here hx rfl hd rfl hc q) (gF fun q => by rw [(own_l_iff cd v w).mpr q] at hc; cases hc)
/-! division -/
theorem own_idiv (X : own_X p l e R s m args below meth c Z bytes maxL ret y n0 h T k n) {v w : Int32} (hd : decode bytes pc = .ok (.idiv, 1)) (hw : w ≠ 0) (g : own_G p e below (T.setTop (mkF m (pc + 1) ls (.int (v / w) :: st))) Q) : own_G p e below (T.setTop (mkF m pc ls (.int w :: .int v :: st))) Q := by
  obtain ⟨⟨hx, hby, -⟩, -, -, locs, X, -⟩ := X
  subst hby
  exact own_st (fun t q => XS.idiv X.here hx rfl hd rfl hw q) g
theorem own_iremS (X : own_X p l e R s m args below meth c Z bytes maxL ret y n0 h T k n) {v w : Int32} (hd : decode bytes pc = .ok (.irem, 1)) (hw : w ≠ 0) (g : own_G p e below (T.setTop (mkF m (pc + 1) ls (.int (own_irem v w) :: st))) Q) : own_G p e below (T.setTop (mkF m pc ls (.int w :: .int v :: st))) Q := by
  obtain ⟨⟨hx, hby, -⟩, -, -, locs, X, -⟩ := X
  subst hby
  exact own_st (fun t q => XS.irem X.here hx rfl hd rfl hw q) g
theorem own_ldiv (X : own_X p l e R s m args below meth c Z bytes maxL ret y n0 h T k n) {v w : Int64} (hd : decode bytes pc = .ok (.ldiv, 1)) (hw : w ≠ 0) (g : own_G p e below (T.setTop (mkF m (pc + 1) ls (.long (v / w) :: st))) Q) : own_G p e below (T.setTop (mkF m pc ls (.long w :: .long v :: st))) Q := by
  obtain ⟨⟨hx, hby, -⟩, -, -, locs, X, -⟩ := X
  subst hby
  exact own_st (fun t q => XS.ldiv X.here hx rfl hd rfl hw q) g
theorem own_lremS (X : own_X p l e R s m args below meth c Z bytes maxL ret y n0 h T k n) {v w : Int64} (hd : decode bytes pc = .ok (.lrem, 1)) (hw : w ≠ 0) (g : own_G p e below (T.setTop (mkF m (pc + 1) ls (.long (own_lrem v w) :: st))) Q) : own_G p e below (T.setTop (mkF m pc ls (.long w :: .long v :: st))) Q := by
  obtain ⟨⟨hx, hby, -⟩, -, -, locs, X, -⟩ := X
  subst hby
  exact own_st (fun t q => XS.lrem X.here hx rfl hd rfl hw q) g
/-! constants of the pool -/
theorem own_ldc (X : own_X p l e R s m args below meth c Z bytes maxL ret y n0 h T k n) {i : Nat} {v : Int32} (w : (Jvm.Cond.constant y.cls i v).before a0 Z = true) (hd : decode bytes pc = .ok (.ldc i, 2)) (g : own_G p e below (T.setTop (mkF m (pc + 2) ls (.int v :: st))) Q) : own_G p e below (T.setTop (mkF m pc ls st)) Q := by
  obtain ⟨⟨hx, hby, hml, hown, hnm, hret, hZ, hlk⟩, -, -, locs, X, -⟩ := X
  subst hby
  exact own_st (fun t q => X.ldcInt hx hown (mvT hZ w) (g := mkF m pc ls st) rfl hd t q) g
theorem own_ldc2 (X : own_X p l e R s m args below meth c Z bytes maxL ret y n0 h T k n) {i : Nat} {v : Int64} (w : (Jvm.Cond.constantLong y.cls i v).before a0 Z = true) (hd : decode bytes pc = .ok (.ldc2_w i, 3)) (g : own_G p e below (T.setTop (mkF m (pc + 3) ls (.long v :: st))) Q) : own_G p e below (T.setTop (mkF m pc ls st)) Q := by
  obtain ⟨⟨hx, hby, hml, hown, hnm, hret, hZ, hlk⟩, -, -, locs, X, -⟩ := X
  subst hby
  exact own_st (fun t q => X.ldc2Long hx hown (mvT hZ w) (g := mkF m pc ls st) rfl hd t q) g
/-! returns -/
variable {P : Option Value → Heap → Prop} {C S : Nat}
theorem own_retI (X : own_X p l e R s m args below meth c Z bytes maxL (some .int) y n0 h T k n) (hd : decode bytes pc = .ok (.ireturn, 1)) {v : Int32} (hk : k ≤ C) (hn : n ≤ S) (hP : P (some (.int v)) h) : own_G p e below (T.setTop (mkF m pc ls (.int v :: st))) (own_E s n0 P C S) := by
  obtain ⟨⟨hx, hby, hml, hown, hnm, hret, hZ, hlk⟩, -, eT, locs, X, N⟩ := X
  subst hby
  obtain ⟨fs, hr, hrun, hended, hW, hsame⟩ := X.leave (v := some (.int v)) (fun q => by rw [hret] at q; cases q)
  refine ⟨_, _, ?_, hrun, hended, _, _, rfl, ⟨N, by show P _ T.heap; rw [eT]; exact hP⟩, ⟨_, rfl⟩, hW, hsame.mono hk hn⟩
  have hm' : T.vm.method? m = some meth := X.method'
  have hnn : narrow .int (.int v) = .int v := rfl
  show Steps p.tables e below (T.setTop { method := m, pc := pc, locals := ls, stack := _ :: st, locked := none }) _
  jvm_step X.here [X.here.top, hx, hd, hm', hret, hnn]
  first | (intro acts; rw [hr _ acts rfl rfl rfl]) | rw [hr _ _ rfl rfl rfl]
  exact Steps.refl _
theorem own_retN {t : FieldType} (X : own_X p l e R s m args below meth c Z bytes maxL (some t) y n0 h T k n) (ht : t = .boolean ∨ t = .byte ∨ t = .char ∨ t = .short) (hd : decode bytes pc = .ok (.ireturn, 1)) {v v' : Int32} (hv : nar t v = v') (hk : k ≤ C) (hn : n ≤ S) (hP : P (some (.int v')) h) : own_G p e below (T.setTop (mkF m pc ls (.int v :: st))) (own_E s n0 P C S) := by
  obtain ⟨⟨hx, hby, hml, hown, hnm, hret, hZ, hlk⟩, -, eT, locs, X, N⟩ := X
  subst hby hv
  obtain ⟨fs, hr, hrun, hended, hW, hsame⟩ := X.leave (v := some (.int (nar t v))) (fun q => by rw [hret] at q; cases q)
  exact ⟨_, _, retN X hx hret ht hd hr, hrun, hended, _, _, rfl, ⟨N, by show P _ T.heap; rw [eT]; exact hP⟩, ⟨_, rfl⟩, hW, hsame.mono hk hn⟩
theorem own_retL (X : own_X p l e R s m args below meth c Z bytes maxL (some .long) y n0 h T k n) (hd : decode bytes pc = .ok (.lreturn, 1)) {v : Int64} (hk : k ≤ C) (hn : n ≤ S) (hP : P (some (.long v)) h) : own_G p e below (T.setTop (mkF m pc ls [.long v])) (own_E s n0 P C S) := by
  obtain ⟨⟨hx, hby, hml, hown, hnm, hret, hZ, hlk⟩, -, eT, locs, X, N⟩ := X
  subst hby
  obtain ⟨fs, hr, hrun, hended, hW, hsame⟩ := X.leave (v := some (.long v)) (fun q => by rw [hret] at q; cases q)
  exact ⟨_, _, X.lreturnOut hx hret hd hr, hrun, hended, _, _, rfl, ⟨N, by show P _ T.heap; rw [eT]; exact hP⟩, ⟨_, rfl⟩, hW, hsame.mono hk hn⟩
theorem own_retA {t : FieldType} (X : own_X p l e R s m args below meth c Z bytes maxL (some t) y n0 h T k n) (ht : t.isReference = true) (hd : decode bytes pc = .ok (.areturn, 1)) {v : Addr} (hk : k ≤ C) (hn : n ≤ S) (hP : P (some (.ref v)) h) : own_G p e below (T.setTop (mkF m pc ls [.ref v])) (own_E s n0 P C S) := by
  obtain ⟨⟨hx, hby, hml, hown, hnm, hret, hZ, hlk⟩, -, eT, locs, X, N⟩ := X
  subst hby
  obtain ⟨fs, hr, hrun, hended, hW, hsame⟩ := X.leave (v := some (.ref v)) (fun q => by rw [hret] at q; cases q)
  exact ⟨_, _, X.areturnOut hx rfl hret ht hd hr, hrun, hended, _, _, rfl, ⟨N, by show P _ T.heap; rw [eT]; exact hP⟩, ⟨_, rfl⟩, hW, hsame.mono hk hn⟩
theorem own_retV (X : own_X p l e R s m args below meth c Z bytes maxL none y n0 h T k n) (hd : decode bytes pc = .ok (.return_, 1)) (hk : k ≤ C) (hn : n ≤ S) (hP : P none h) : own_G p e below (T.setTop (mkF m pc ls [])) (own_E s n0 P C S) := by
  obtain ⟨⟨hx, hby, hml, hown, hnm, hret, hZ, hlk⟩, -, eT, locs, X, N⟩ := X
  subst hby
  obtain ⟨fs, hr, hrun, hended, hW, hsame⟩ := X.leave (v := none) (fun _ => rfl)
  exact ⟨_, _, X.returnOut hx hret hd hr, hrun, hended, _, _, rfl, ⟨N, by show P _ T.heap; rw [eT]; exact hP⟩, ⟨_, rfl⟩, hW, hsame.mono hk hn⟩
/-! calls -/
theorem own_callS (X : own_X p l e R s m args below meth c Z bytes maxL ret y n0 h T k n) {i : Nat} {z : MethodName} {zb : ByteArray} {zl : Nat} {zr : Option FieldType} {rm : Room} {as : Array Value} {P : Option Value → Heap → Prop}
    (w1 : (Jvm.Cond.methodLink y.cls i z).before a0 Z = true) (w2 : (Jvm.Cond.static z).before a0 Z = true) (w3 : (Jvm.Cond.initialized z.cls).before a0 Z = true) (w4 : (Jvm.Cond.code z zb zl zr).before a0 Z = true) (hy : z.cls ≠ "java/lang/invoke/MethodHandle" ∧ z.cls ≠ "java/lang/invoke/VarHandle")
    (K : own_C l Z z zb zl zr rm as h n0 P) (hd : decode bytes pc = .ok (.invokestatic i, 3)) (argsL rest : List Value) (hst : st = argsL.reverse ++ rest) (has : argsL.toArray = as) {ps : List FieldType} {pr : Option FieldType} (hsg : parseMethodDescriptor z.desc = some ⟨ps, pr⟩) (hlen : argsL.length = ps.length) (hsz : ls.size = maxL)
    (hf : rm.frames + 1 ≤ R.frames) (hl : (rest.map fun v => v.category).sum + (zl + 11) + rm.locals ≤ R.locals) (hc : k + rm.cells ≤ R.cells) (hs : n + rm.slots ≤ R.slots) (hn : ∀ v h', P v h' → n0 ≤ h'.size)
    (g : ∀ v h' T', own_X p l e R s m args below meth c Z bytes maxL ret y n0 h' T' (k + rm.cells) (n + rm.slots) → P v h' → own_G p e below (T'.setTop (mkF m (pc + 3) ls (v.toList ++ rest))) Q) : own_G p e below (T.setTop (mkF m pc ls st)) Q := by
  obtain ⟨M, hn0, eT, locs, X, N⟩ := X
  have M' := M
  obtain ⟨hx, hby, hml, hown, hnm, hret, hZ, hlk⟩ := M'
  subst hby hst has
  obtain ⟨v, vm₁, B, -, X', ⟨L, hq, l1, l2, l3⟩, stp⟩ := Jvm.LawKit.callS X hx (y := z) hown (mvT hZ w1) (mvT hZ w2) (mvT hZ w3) (mvT hZ w4) hy (backOf (W := (rest.map fun v => v.category).sum) (Q := fun v h' L => Fr n0 L ∧ P v h') (K []) hZ w4 w3 hf hl) (g := mkF m pc ls (argsL.reverse ++ rest)) rfl (hsz.trans hml.symm) (argsL := argsL) (rest := rest)
    (lenOf hsg hlen) rfl (Nat.le_of_eq (Nat.zero_add _)) hd (fun _ _ => ⟨rfl, eT, hc, hs⟩)
  obtain ⟨U, Lc, k', n'⟩ := B
  dsimp only [Pt.U, Pt.locs, Pt.cells, Pt.slots] at X' hq l1 l2 l3 stp
  subst l1 l2 l3
  exact own_st stp (g v U.heap U ⟨M, hn v _ hq.2, rfl, _, X', Fr.app N hq.1⟩ hq.2)
theorem own_callP (X : own_X p l e R s m args below meth c Z bytes maxL ret y n0 h T k n) {i : Nat} {z : MethodName} {zb : ByteArray} {zl : Nat} {zr : Option FieldType} {rm : Room} {as : Array Value} {v : Option Value}
    (w1 : (Jvm.Cond.methodLink y.cls i z).before a0 Z = true) (w2 : (Jvm.Cond.static z).before a0 Z = true) (w3 : (Jvm.Cond.initialized z.cls).before a0 Z = true) (w4 : (Jvm.Cond.code z zb zl zr).before a0 Z = true) (hy : z.cls ≠ "java/lang/invoke/MethodHandle" ∧ z.cls ≠ "java/lang/invoke/VarHandle")
    (K : own_C l Z z zb zl zr rm as h n0 (fun v' h' => v' = v ∧ h' = h)) (hd : decode bytes pc = .ok (.invokestatic i, 3)) (argsL rest : List Value) (hst : st = argsL.reverse ++ rest) (has : argsL.toArray = as) {ps : List FieldType} {pr : Option FieldType} (hsg : parseMethodDescriptor z.desc = some ⟨ps, pr⟩) (hlen : argsL.length = ps.length) (hsz : ls.size = maxL)
    (hf : rm.frames + 1 ≤ R.frames) (hl : (rest.map fun v => v.category).sum + (zl + 11) + rm.locals ≤ R.locals) (hc : k + rm.cells ≤ R.cells) (hs : n + rm.slots ≤ R.slots)
    (g : ∀ T', own_X p l e R s m args below meth c Z bytes maxL ret y n0 h T' (k + rm.cells) (n + rm.slots) → own_G p e below (T'.setTop (mkF m (pc + 3) ls (v.toList ++ rest))) Q) : own_G p e below (T.setTop (mkF m pc ls st)) Q :=
  own_callS X w1 w2 w3 w4 hy K hd argsL rest hst has hsg hlen hsz hf hl hc hs (fun v h' q => by rw [q.2]; exact X.2.1) (fun v' h' T' X' q => by obtain ⟨q1, q2⟩ := q; subst q1; rw [q2] at X'; exact g T' X')
theorem own_callN (X : own_X p l e R s m args below meth c Z bytes maxL ret y n0 h T k n) {i : Nat} {z : MethodName} {zb : ByteArray} {zl : Nat} {rm : Room} {as : Array Value} {P : Option Value → Heap → Prop} (hz : z.name = "<init>")
    (w1 : (Jvm.Cond.methodLink y.cls i z).before a0 Z = true) (w2 : (Jvm.Cond.instanceMethod z).before a0 Z = true) (w3 : (Jvm.Cond.initialized z.cls).before a0 Z = true) (w4 : (Jvm.Cond.code z zb zl none).before a0 Z = true) (hy : z.cls ≠ "java/lang/invoke/MethodHandle" ∧ z.cls ≠ "java/lang/invoke/VarHandle")
    (K : own_C l Z z zb zl none rm as h n0 P) (hd : decode bytes pc = .ok (.invokespecial i, 3)) {a : Addr} (argsL rest : List Value) (hst : st = argsL.reverse ++ .ref a :: rest) (has : (.ref a :: argsL).toArray = as) {ps : List FieldType} {pr : Option FieldType} (hsg : parseMethodDescriptor z.desc = some ⟨ps, pr⟩) (hlen : argsL.length = ps.length) (hsz : ls.size = maxL)
    (hf : rm.frames + 1 ≤ R.frames) (hl : (rest.map fun v => v.category).sum + (zl + 11) + rm.locals ≤ R.locals) (hc : k + rm.cells ≤ R.cells) (hs : n + rm.slots ≤ R.slots) (hn : ∀ v h', P v h' → n0 ≤ h'.size)
    (g : ∀ v h' T', own_X p l e R s m args below meth c Z bytes maxL ret y n0 h' T' (k + rm.cells) (n + rm.slots) → P v h' → own_G p e below (T'.setTop (mkF m (pc + 3) ls (v.toList ++ rest))) Q) : own_G p e below (T.setTop (mkF m pc ls st)) Q := by
  obtain ⟨M, hn0, eT, locs, X, N⟩ := X
  have M' := M
  obtain ⟨hx, hby, hml, hown, hnm, hret, hZ, hlk⟩ := M'
  subst hby hst has
  obtain ⟨v, vm₁, B, -, X', ⟨L, hq, l1, l2, l3⟩, stp⟩ := X.specialBack hx (y := z) hz hown (mvT hZ w1) (mvT hZ w2) (mvT hZ w4) hy (backOf (W := (rest.map fun v => v.category).sum) (Q := fun v h' L => Fr n0 L ∧ P v h') (K []) hZ w4 w3 hf hl) (g := mkF m pc ls (argsL.reverse ++ .ref a :: rest)) rfl (hsz.trans hml.symm) (Steps.refl _) (a := a) (argsL := argsL) (rest := rest)
    (lenOf hsg hlen) rfl (Nat.le_of_eq (Nat.zero_add _)) hd (fun _ _ => ⟨rfl, eT, hc, hs⟩)
  obtain ⟨U, Lc, k', n'⟩ := B
  dsimp only [Pt.U, Pt.locs, Pt.cells, Pt.slots] at X' hq l1 l2 l3 stp
  subst l1 l2 l3
  exact own_st (fun t q => stp.trans q) (g v U.heap U ⟨M, hn v _ hq.2, rfl, _, X', Fr.app N hq.1⟩ hq.2)
theorem own_callV (X : own_X p l e R s m args below meth c Z bytes maxL ret y n0 h T k n) {i : Nat} {z : MethodName} {zb : ByteArray} {zl : Nat} {zr : Option FieldType} {rm : Room} {as : Array Value} {P : Option Value → Heap → Prop}
    (w1 : (Jvm.Cond.methodLink y.cls i z).before a0 Z = true) (w2 : (Jvm.Cond.declares z).before a0 Z = true) (w5 : (Jvm.Cond.selects z.cls z z).before a0 Z = true) (w6 : (Jvm.Cond.instanceMethod z).before a0 Z = true) (w3 : (Jvm.Cond.initialized z.cls).before a0 Z = true) (w4 : (Jvm.Cond.code z zb zl zr).before a0 Z = true) (hy : z.cls ≠ "java/lang/invoke/MethodHandle" ∧ z.cls ≠ "java/lang/invoke/VarHandle")
    {a : Addr} (E : Exa Z h a z.cls) (K : own_C l Z z zb zl zr rm as h n0 P) (hd : decode bytes pc = .ok (.invokevirtual i, 3)) (argsL rest : List Value) (hst : st = argsL.reverse ++ .ref a :: rest) (has : (.ref a :: argsL).toArray = as) {ps : List FieldType} {pr : Option FieldType} (hsg : parseMethodDescriptor z.desc = some ⟨ps, pr⟩) (hlen : argsL.length = ps.length) (hsz : ls.size = maxL)
    (hf : rm.frames + 1 ≤ R.frames) (hl : (rest.map fun v => v.category).sum + (zl + 11) + rm.locals ≤ R.locals) (hc : k + rm.cells ≤ R.cells) (hs : n + rm.slots ≤ R.slots) (hn : ∀ v h', P v h' → n0 ≤ h'.size)
    (g : ∀ v h' T', own_X p l e R s m args below meth c Z bytes maxL ret y n0 h' T' (k + rm.cells) (n + rm.slots) → P v h' → own_G p e below (T'.setTop (mkF m (pc + 3) ls (v.toList ++ rest))) Q) : own_G p e below (T.setTop (mkF m pc ls st)) Q := by
  obtain ⟨M, hn0, eT, locs, X, N⟩ := X
  have M' := M
  obtain ⟨hx, hby, hml, hown, hnm, hret, hZ, hlk⟩ := M'
  subst hby hst has
  obtain ⟨cq, kq, qa, qb, qc⟩ := isOf hZ eT E
  obtain ⟨v, vm₁, B, -, X', ⟨L, hq, l1, l2, l3⟩, stp⟩ := X.virtualBack hx (y := z) (z := z) hown (mvT hZ w1) (mvT hZ w2) (notFace_of_selects (args := #[]) (mvT hZ w5)) (mvT hZ w5) (mvT hZ w6) hy (backOf (W := (rest.map fun v => v.category).sum) (Q := fun v h' L => Fr n0 L ∧ P v h') (K []) hZ w4 w3 hf hl) qa qc (g := mkF m pc ls (argsL.reverse ++ .ref a :: rest)) rfl (hsz.trans hml.symm) (Steps.refl _) (argsL := argsL) (rest := rest)
    (lenOf hsg hlen) rfl (Nat.le_of_eq (Nat.zero_add _)) hd (fun _ _ => ⟨rfl, eT, hc, hs⟩)
  obtain ⟨U, Lc, k', n'⟩ := B
  dsimp only [Pt.U, Pt.locs, Pt.cells, Pt.slots] at X' hq l1 l2 l3 stp
  subst l1 l2 l3
  exact own_st (fun t q => stp.trans q) (g v U.heap U ⟨M, hn v _ hq.2, rfl, _, X', Fr.app N hq.1⟩ hq.2)
/-! fields -/
theorem own_getF (X : own_X p l e R s m args below meth c Z bytes maxL ret y n0 h T k n) {i : Nat} {O f d : String} (w : (Jvm.Cond.fieldLink y.cls i O f d).before a0 Z = true) {a : Addr} {v : Value} (F : Fld Z h a O f d v) (hd : decode bytes pc = .ok (.getfield i, 3))
    (g : ∀ T', own_X p l e R s m args below meth c Z bytes maxL ret y n0 h T' k n → own_G p e below (T'.setTop (mkF m (pc + 3) ls (v :: st))) Q) : own_G p e below (T.setTop (mkF m pc ls (.ref a :: st))) Q := by
  obtain ⟨M, hn0, eT, locs, X, N⟩ := X
  have M' := M
  obtain ⟨hx, hby, hml, hown, hnm, hret, hZ, hlk⟩ := M'
  subst hby
  obtain ⟨T', X', e', stp⟩ := getF X hx hZ hown (host := "") (Or.inl w) Via.refl eT F (g := mkF m pc ls (.ref a :: st)) rfl rfl hd
  exact own_st stp (g T' ⟨M, hn0, e', _, X', N⟩)
theorem own_putF (X : own_X p l e R s m args below meth c Z bytes maxL ret y n0 h T k n) {i kk : Nat} {O f d K : String} {ty : FieldType} (w : (Jvm.Cond.fieldLink y.cls i O f d).before a0 Z = true) {a : Addr} {v old : Value} (F : Fld Z h a O f d old) (E : Exa Z h a K) (L : (Jvm.Cond.lays K O f d).before a0 Z = true ∨ ((Jvm.Cond.laysFinal K O f d).before a0 Z = true ∧ y.cls = O ∧ y.name = "<init>")) (wi : (Jvm.Cond.instantiable K kk).before a0 Z = true)
    (hty : parseFieldDescriptor d = some ty) (hn : narrow ty v = v) (hf : fits ty v = true) (ha : n0 ≤ a) (hd : decode bytes pc = .ok (.putfield i, 3))
    (g : ∀ h' T', own_X p l e R s m args below meth c Z bytes maxL ret y n0 h' T' k n → Wr h h' a (Jvm.RoadKit.slotOf Z O f d) v → own_G p e below (T'.setTop (mkF m (pc + 3) ls st)) Q) : own_G p e below (T.setTop (mkF m pc ls (v :: .ref a :: st))) Q := by
  obtain ⟨M, hn0, eT, locs, X, N⟩ := X
  have M' := M
  obtain ⟨hx, hby, hml, hown, hnm, hret, hZ, hlk⟩ := M'
  subst hby
  obtain ⟨T', h', X', e', W', stp⟩ := putF X hx hZ hown (host := "") (Or.inl w) Via.refl eT F E (L.imp id fun q => ⟨q.1, q.2.1, hnm.trans q.2.2⟩) wi hty hn hf (g := mkF m pc ls (v :: .ref a :: st)) rfl rfl hd
  exact own_st stp (g h' T' ⟨M, by rw [W'.size]; exact hn0, e', _, X', Fr.snoc X' N ha⟩ W')
/-! new -/
theorem own_newO (X : own_X p l e R s m args below meth c Z bytes maxL ret y n0 h T k n) {i nn : Nat} {K : String} (w : (Jvm.Cond.classLink y.cls i K).before a0 Z = true) (wi : (Jvm.Cond.instantiable K nn).before a0 Z = true) (wz : (Jvm.Cond.initialized K).before a0 Z = true) (hd : decode bytes pc = .ok (.new i, 3)) (hc : k + 1 ≤ R.cells) (hs : n + nn ≤ R.slots)
    (g : ∀ h' T', own_X p l e R s m args below meth c Z bytes maxL ret y n0 h' T' (k + 1) (n + nn) → Ext h h' → Exa Z h' h.size K → (∀ {O nm d : String} {ty : FieldType}, Laid Z a0 K O nm d → parseFieldDescriptor d = some ty → Fld Z h' h.size O nm d (defaultValue ty)) → own_G p e below (T'.setTop (mkF m (pc + 3) ls (.ref h.size :: st))) Q) : own_G p e below (T.setTop (mkF m pc ls st)) Q := by
  obtain ⟨M, hn0, eT, locs, X, N⟩ := X
  have M' := M
  obtain ⟨hx, hby, hml, hown, hnm, hret, hZ, hlk⟩ := M'
  subst hby
  obtain ⟨T', h', X', e', E', A', D', -, stp⟩ := newO X hx hZ hown w wi wz eT (g := mkF m pc ls st) rfl hd hc hs
  exact own_st stp (g h' T' ⟨M, Nat.le_trans hn0 E'.1, e', _, X', N⟩ E' A' D')
end Walk
/-! ### own layer 3: arrays: the array at a has n places, place j holds f j -/
def own_A (Z : State) (h : Heap) (a : Addr) (ty : FieldType) (n : Nat) (f : Int → Value) : Prop := n < 2147483648 ∧ ∃ c : Cell, Arr Z h a c ty ∧ c.slots.size = n ∧ ∀ j : Nat, j < n → c.slots[j]? = some (f (j : Int))
def own_u {α : Type} (f : Int → α) (i : Int) (x : α) : Int → α := fun j => if j = i then x else f j
section Arrs
variable {Z : State} {h h' : Heap} {a b : Addr} {ty : FieldType} {n : Nat} {f : Int → Value}
theorem own_A_lt (A : own_A Z h a ty n f) : a < h.size := by obtain ⟨-, c, A, -⟩ := A; exact A.lt
theorem own_A_ext (A : own_A Z h a ty n f) (E : Ext h h') : own_A Z h' a ty n f := by obtain ⟨q, c, A, r⟩ := A; exact ⟨q, c, A.ext E, r⟩
theorem own_A_other (A : own_A Z h b ty n f) {sl : Nat} {v : Value} (W : Wr h h' a sl v) (q : b ≠ a) : own_A Z h' b ty n f := by obtain ⟨q1, c, A, r⟩ := A; exact ⟨q1, c, A.other W q, r⟩
theorem own_A_keep (A : own_A Z h a ty n f) {ws : List Addr} (K : Keep h h' ws) (q : a ∉ ws) : own_A Z h' a ty n f := by obtain ⟨q1, c, A, r⟩ := A; exact ⟨q1, c, ⟨K.2.1 a c A.1 q, A.2⟩, r⟩
theorem own_A_new {k : ClassId} {z : Int32} (A : Arr Z h a (newA k ty z) ty) (q : 0 ≤ z.toInt) : own_A Z h a ty z.toInt.toNat (fun _ => defaultValue ty) := by
  have := Int32.toInt_lt z
  refine ⟨by omega, _, A, by rw [sz_new]; rfl, fun j hj => ?_⟩
  have hj' : j < z.toNatClampNeg := hj
  simp [newA, hj']
theorem own_A_set {sl : Nat} {v : Value} (A : own_A Z h a ty n f) (W : Wr h h' a sl v) (i : Int) (hi : i = (sl : Int)) : own_A Z h' a ty n (own_u f i v) := by
  obtain ⟨q, c, A, S, H⟩ := A
  have W0 := W
  obtain ⟨c2, g1, -, g3, -⟩ := W0
  cases g1.symm.trans A.1
  refine ⟨q, _, A.same W, by rw [sz_set]; exact S, fun j hj => ?_⟩
  subst hi
  by_cases u : j = sl
  · subst u; simp [Cell.setSlot, own_u, g3]
  · have e1 : ¬ ((j : Int) = (sl : Int)) := by omega
    simp only [own_u, e1, if_false, Cell.setSlot]
    rw [Array.getElem?_setIfInBounds_ne (fun q => u q.symm)]
    exact H j hj
theorem own_A_eq {g : Int → Value} (A : own_A Z h a ty n f) (q : ∀ j : Int, 0 ≤ j → j < n → g j = f j) : own_A Z h a ty n g := by
  obtain ⟨q1, c, A, S, H⟩ := A
  exact ⟨q1, c, A, S, fun j hj => by rw [H j hj, q j (by omega) (by omega)]⟩
theorem own_tnc (j : Int32) : j.toNatClampNeg = j.toInt.toNat := rfl
theorem own_z32 : (0 : Int32).toInt = 0 := rfl
theorem own_idx {j : Int32} (h0 : 0 ≤ j.toInt) : ¬ j < 0 := by rw [Int32.lt_iff_toInt_lt, own_z32]; omega
theorem own_inb {j : Int32} {cl : Cell} (S : cl.slots.size = n) (h0 : 0 ≤ j.toInt) (h1 : j.toInt < n) : ¬ (j < 0 ∨ cl.slots.size ≤ j.toNatClampNeg) := by
  rw [Int32.lt_iff_toInt_lt, S, own_z32, own_tnc]; omega
theorem own_nat {j : Int32} (h0 : 0 ≤ j.toInt) : j.toInt = (j.toNatClampNeg : Int) := by rw [own_tnc]; omega
end Arrs
/-- the same, of ints -/
def own_I (Z : State) (h : Heap) (a : Addr) (ty : FieldType) (n : Nat) (g : Int → Int32) : Prop := own_A Z h a ty n (fun j => .int (g j))
theorem own_I_ext {Z : State} {h h' : Heap} {a : Addr} {ty : FieldType} {n : Nat} {g : Int → Int32} (A : own_I Z h a ty n g) (E : Ext h h') : own_I Z h' a ty n g := own_A_ext A E
theorem own_I_other {Z : State} {h h' : Heap} {a b : Addr} {ty : FieldType} {n : Nat} {g : Int → Int32} (A : own_I Z h b ty n g) {sl : Nat} {v : Value} (W : Wr h h' a sl v) (q : b ≠ a) : own_I Z h' b ty n g := own_A_other A W q
theorem own_I_keep {Z : State} {h h' : Heap} {a : Addr} {ty : FieldType} {n : Nat} {g : Int → Int32} (A : own_I Z h a ty n g) {ws : List Addr} (K : Keep h h' ws) (q : a ∉ ws) : own_I Z h' a ty n g := own_A_keep A K q
theorem own_I_eq {Z : State} {h : Heap} {a : Addr} {ty : FieldType} {n : Nat} {f g : Int → Int32} (A : own_I Z h a ty n f) (q : ∀ j : Int, 0 ≤ j → j < n → g j = f j) : own_I Z h a ty n g := own_A_eq A (fun j h0 h1 => by rw [q j h0 h1])
theorem own_I_set {Z : State} {h h' : Heap} {a : Addr} {ty : FieldType} {n : Nat} {g : Int → Int32} {sl : Nat} {x : Int32} (A : own_I Z h a ty n g) (W : Wr h h' a sl (.int x)) (i : Int) (hi : i = (sl : Int)) : own_I Z h' a ty n (own_u g i x) :=
  own_A_eq (own_A_set A W i hi) (fun j _ _ => by simp only [own_u]; split <;> rfl)
theorem own_u_ne {α : Type} {g : Int → α} {i j : Int} {x : α} (h : j ≠ i) : own_u g i x j = g j := if_neg h
theorem own_u_eq {α : Type} {g : Int → α} {i j : Int} {x : α} (h : j = i) : own_u g i x j = x := if_pos h
section Arrs2
variable {p : Program} {l : Launch} {e : Env} {R : Room} {s : State} {m : MethodId} {args : Array Value} {below : List Frame} {meth : Method} {c : Code} {Z : State} {bytes : ByteArray} {maxL : Nat} {ret : Option FieldType} {y : MethodName} {n0 : Nat} {h : Heap} {T : State} {k n : Nat} {Q : Outcome → State → Prop} {pc pc' : Nat} {ls ls' : Array Slot} {st st' : List Value} {a0 : Array Value} {a : Addr} {nn : Nat} {f : Int → Value} {gg : Int → Int32}
theorem own_len (X : own_X p l e R s m args below meth c Z bytes maxL ret y n0 h T k n) {ty : FieldType} (A : own_A Z h a ty nn f) (hd : decode bytes pc = .ok (.arraylength, 1)) (g : own_G p e below (T.setTop (mkF m (pc + 1) ls (.int (Int32.ofNat nn) :: st))) Q) : own_G p e below (T.setTop (mkF m pc ls (.ref a :: st))) Q := by
  obtain ⟨⟨hx, hby, hml, hown, hnm, hret, hZ, hlk⟩, hn0, eT, locs, X, N⟩ := X
  obtain ⟨q, cl, A, S, H⟩ := A
  subst hby
  refine own_st (fun t q => X.arraylength hx (by rw [eT]; exact A.1) (State.isArrayOf_alike hZ.alike A.2.1) (g := mkF m pc ls (.ref a :: st)) rfl rfl hd t q) ?_
  show own_G p e below (T.setTop (mkF m (pc + 1) ls (.int cl.slots.size.toInt32 :: st))) Q
  rw [S]
  exact g
theorem own_iald (X : own_X p l e R s m args below meth c Z bytes maxL ret y n0 h T k n) (A : own_I Z h a .int nn gg) (hd : decode bytes pc = .ok (.iaload, 1)) {j : Int32} (h0 : 0 ≤ j.toInt) (h1 : j.toInt < nn) (g : own_G p e below (T.setTop (mkF m (pc + 1) ls (.int (gg j.toInt) :: st))) Q) : own_G p e below (T.setTop (mkF m pc ls (.int j :: .ref a :: st))) Q := by
  obtain ⟨⟨hx, hby, hml, hown, hnm, hret, hZ, hlk⟩, hn0, eT, locs, X, N⟩ := X
  obtain ⟨q, cl, A, S, H⟩ := A
  subst hby
  have e1 := own_nat h0
  refine own_st (fun t q => X.iaload hx (by rw [eT]; exact A.1) (State.isArrayOf_alike hZ.alike A.2.1) A.2.2 (own_inb S h0 h1) (H _ (by omega)) (g := mkF m pc ls (.int j :: .ref a :: st)) rfl rfl hd t q) ?_
  show own_G p e below (T.setTop (mkF m (pc + 1) ls (.int (gg (j.toNatClampNeg : Int)) :: st))) Q
  rw [← e1]
  exact g
theorem own_bald (X : own_X p l e R s m args below meth c Z bytes maxL ret y n0 h T k n) (A : own_I Z h a .byte nn gg) (hd : decode bytes pc = .ok (.baload, 1)) {j : Int32} (h0 : 0 ≤ j.toInt) (h1 : j.toInt < nn) (g : own_G p e below (T.setTop (mkF m (pc + 1) ls (.int (gg j.toInt) :: st))) Q) : own_G p e below (T.setTop (mkF m pc ls (.int j :: .ref a :: st))) Q := by
  obtain ⟨⟨hx, hby, hml, hown, hnm, hret, hZ, hlk⟩, hn0, eT, locs, X, N⟩ := X
  obtain ⟨q, cl, A, S, H⟩ := A
  subst hby
  have e1 := own_nat h0
  refine own_st (fun t q => X.baloadBytes hx (by rw [eT]; exact A.1) (State.isArrayOf_alike hZ.alike A.2.1) A.2.2 (own_inb S h0 h1) (H _ (by omega)) (g := mkF m pc ls (.int j :: .ref a :: st)) rfl rfl hd t q) ?_
  show own_G p e below (T.setTop (mkF m (pc + 1) ls (.int (gg (j.toNatClampNeg : Int)) :: st))) Q
  rw [← e1]
  exact g
theorem own_zald (X : own_X p l e R s m args below meth c Z bytes maxL ret y n0 h T k n) (A : own_I Z h a .boolean nn gg) (hd : decode bytes pc = .ok (.baload, 1)) {j : Int32} (h0 : 0 ≤ j.toInt) (h1 : j.toInt < nn) (g : own_G p e below (T.setTop (mkF m (pc + 1) ls (.int (gg j.toInt) :: st))) Q) : own_G p e below (T.setTop (mkF m pc ls (.int j :: .ref a :: st))) Q := by
  obtain ⟨⟨hx, hby, hml, hown, hnm, hret, hZ, hlk⟩, hn0, eT, locs, X, N⟩ := X
  obtain ⟨q, cl, A, S, H⟩ := A
  subst hby
  have e1 := own_nat h0
  refine own_st (fun t q => X.baloadBooleans hx (by rw [eT]; exact A.1) (State.isArrayOf_alike hZ.alike A.2.1) A.2.2 (own_inb S h0 h1) (H _ (by omega)) (g := mkF m pc ls (.int j :: .ref a :: st)) rfl rfl hd t q) ?_
  show own_G p e below (T.setTop (mkF m (pc + 1) ls (.int (gg (j.toNatClampNeg : Int)) :: st))) Q
  rw [← e1]
  exact g
theorem own_iast (X : own_X p l e R s m args below meth c Z bytes maxL ret y n0 h T k n) (A : own_I Z h a .int nn gg) (ha : n0 ≤ a) (hd : decode bytes pc = .ok (.iastore, 1)) {j x : Int32} (h0 : 0 ≤ j.toInt) (h1 : j.toInt < nn)
    (g : ∀ h' T', own_X p l e R s m args below meth c Z bytes maxL ret y n0 h' T' k n → own_I Z h' a .int nn (own_u gg j.toInt x) → Wr h h' a j.toNatClampNeg (.int x) → own_G p e below (T'.setTop (mkF m (pc + 1) ls st)) Q) : own_G p e below (T.setTop (mkF m pc ls (.int x :: .int j :: .ref a :: st))) Q := by
  obtain ⟨M, hn0, eT, locs, X, N⟩ := X
  have M' := M
  obtain ⟨hx, hby, hml, hown, hnm, hret, hZ, hlk⟩ := M'
  have AA := A
  obtain ⟨q, cl, A, S, H⟩ := A
  subst hby
  obtain ⟨T', h', X', e', W', stp⟩ := stI X hx hZ eT A (own_inb S h0 h1) (g := mkF m pc ls (.int x :: .int j :: .ref a :: st)) rfl rfl hd
  exact own_st stp (g h' T' ⟨M, by rw [W'.size]; exact hn0, e', _, X', Fr.snoc X' N ha⟩ (own_I_set AA W' _ (own_nat h0)) W')
theorem own_bast (X : own_X p l e R s m args below meth c Z bytes maxL ret y n0 h T k n) (A : own_I Z h a .byte nn gg) (ha : n0 ≤ a) (hd : decode bytes pc = .ok (.bastore, 1)) {j x : Int32} (h0 : 0 ≤ j.toInt) (h1 : j.toInt < nn) (hx8 : x.toInt8.toInt32 = x)
    (g : ∀ h' T', own_X p l e R s m args below meth c Z bytes maxL ret y n0 h' T' k n → own_I Z h' a .byte nn (own_u gg j.toInt x) → Wr h h' a j.toNatClampNeg (.int x) → own_G p e below (T'.setTop (mkF m (pc + 1) ls st)) Q) : own_G p e below (T.setTop (mkF m pc ls (.int x :: .int j :: .ref a :: st))) Q := by
  obtain ⟨M, hn0, eT, locs, X, N⟩ := X
  have M' := M
  obtain ⟨hx, hby, hml, hown, hnm, hret, hZ, hlk⟩ := M'
  have AA := A
  obtain ⟨q, cl, A, S, H⟩ := A
  subst hby
  obtain ⟨T', h', X', e', W', stp⟩ := stB X hx hZ eT A (own_inb S h0 h1) (g := mkF m pc ls (.int x :: .int j :: .ref a :: st)) rfl rfl hd
  have W2 : Wr h h' a j.toNatClampNeg (.int x) := by have q := W'; simp only [nar, hx8] at q; exact q
  exact own_st stp (g h' T' ⟨M, by rw [W'.size]; exact hn0, e', _, X', Fr.snoc X' N ha⟩ (own_I_set AA W2 _ (own_nat h0)) W2)
theorem own_zast (X : own_X p l e R s m args below meth c Z bytes maxL ret y n0 h T k n) (A : own_I Z h a .boolean nn gg) (ha : n0 ≤ a) (hd : decode bytes pc = .ok (.bastore, 1)) {j x : Int32} (h0 : 0 ≤ j.toInt) (h1 : j.toInt < nn) (hx1 : x &&& 1 = x)
    (g : ∀ h' T', own_X p l e R s m args below meth c Z bytes maxL ret y n0 h' T' k n → own_I Z h' a .boolean nn (own_u gg j.toInt x) → Wr h h' a j.toNatClampNeg (.int x) → own_G p e below (T'.setTop (mkF m (pc + 1) ls st)) Q) : own_G p e below (T.setTop (mkF m pc ls (.int x :: .int j :: .ref a :: st))) Q := by
  obtain ⟨M, hn0, eT, locs, X, N⟩ := X
  have M' := M
  obtain ⟨hx, hby, hml, hown, hnm, hret, hZ, hlk⟩ := M'
  have AA := A
  obtain ⟨q, cl, A, S, H⟩ := A
  subst hby
  obtain ⟨T', h', X', e', W', stp⟩ := stZ X hx hZ eT A (own_inb S h0 h1) (g := mkF m pc ls (.int x :: .int j :: .ref a :: st)) rfl rfl hd
  have W2 : Wr h h' a j.toNatClampNeg (.int x) := by have q := W'; simp only [nar, hx1] at q; exact q
  exact own_st stp (g h' T' ⟨M, by rw [W'.size]; exact hn0, e', _, X', Fr.snoc X' N ha⟩ (own_I_set AA W2 _ (own_nat h0)) W2)
theorem own_jast (X : own_X p l e R s m args below meth c Z bytes maxL ret y n0 h T k n) (A : own_A Z h a .long nn f) (ha : n0 ≤ a) (hd : decode bytes pc = .ok (.lastore, 1)) {j : Int32} {x : Int64} (h0 : 0 ≤ j.toInt) (h1 : j.toInt < nn)
    (g : ∀ h' T', own_X p l e R s m args below meth c Z bytes maxL ret y n0 h' T' k n → own_A Z h' a .long nn (own_u f j.toInt (.long x)) → Wr h h' a j.toNatClampNeg (.long x) → own_G p e below (T'.setTop (mkF m (pc + 1) ls st)) Q) : own_G p e below (T.setTop (mkF m pc ls (.long x :: .int j :: .ref a :: st))) Q := by
  obtain ⟨M, hn0, eT, locs, X, N⟩ := X
  have M' := M
  obtain ⟨hx, hby, hml, hown, hnm, hret, hZ, hlk⟩ := M'
  have AA := A
  obtain ⟨q, cl, A, S, H⟩ := A
  subst hby
  obtain ⟨T', h', X', e', W', stp⟩ := stJ X hx hZ eT A (own_inb S h0 h1) (g := mkF m pc ls (.long x :: .int j :: .ref a :: st)) rfl rfl hd
  exact own_st stp (g h' T' ⟨M, by rw [W'.size]; exact hn0, e', _, X', Fr.snoc X' N ha⟩ (own_A_set AA W' _ (own_nat h0)) W')
theorem own_newP (X : own_X p l e R s m args below meth c Z bytes maxL ret y n0 h T k n) {aty : ArrayType} (w : (Jvm.Cond.arrayClass (newarray.typeOf aty)).before a0 Z = true) (hd : decode bytes pc = .ok (.newarray aty, 2)) {v : Int32} (h0 : 0 ≤ v.toInt) (cap : Nat) (hcap : v.toInt ≤ cap) (hb : cap * 8 ≤ 536870912) (hc : k + 1 ≤ R.cells) (hs : n + cap ≤ R.slots)
    (g : ∀ h' T', own_X p l e R s m args below meth c Z bytes maxL ret y n0 h' T' (k + 1) (n + cap) → Ext h h' → own_A Z h' h.size (newarray.typeOf aty) v.toInt.toNat (fun _ => defaultValue (newarray.typeOf aty)) → own_G p e below (T'.setTop (mkF m (pc + 2) ls (.ref h.size :: st))) Q) : own_G p e below (T.setTop (mkF m pc ls (.int v :: st))) Q := by
  obtain ⟨M, hn0, eT, locs, X, N⟩ := X
  have M' := M
  obtain ⟨hx, hby, hml, hown, hnm, hret, hZ, hlk⟩ := M'
  subst hby
  have e1 := own_nat h0
  obtain ⟨T', h', cA, X', e', E', A', stp⟩ := newP X hx hZ w eT (g := mkF m pc ls (.int v :: st)) rfl hd rfl (own_idx h0) (cap := cap) (by omega) hb hc hs
  exact own_st stp (g h' T' ⟨M, Nat.le_trans hn0 E'.1, e', _, X', N⟩ E' (own_A_new A' h0))
theorem own_newI (X : own_X p l e R s m args below meth c Z bytes maxL ret y n0 h T k n) {aty : ArrayType} (w : (Jvm.Cond.arrayClass (newarray.typeOf aty)).before a0 Z = true) (hdf : defaultValue (newarray.typeOf aty) = .int 0) (hd : decode bytes pc = .ok (.newarray aty, 2)) {v : Int32} (h0 : 0 ≤ v.toInt) (cap : Nat) (hcap : v.toInt ≤ cap) (hb : cap * 8 ≤ 536870912) (hc : k + 1 ≤ R.cells) (hs : n + cap ≤ R.slots)
    (g : ∀ h' T', own_X p l e R s m args below meth c Z bytes maxL ret y n0 h' T' (k + 1) (n + cap) → Ext h h' → own_I Z h' h.size (newarray.typeOf aty) v.toInt.toNat (fun _ => 0) → own_G p e below (T'.setTop (mkF m (pc + 2) ls (.ref h.size :: st))) Q) : own_G p e below (T.setTop (mkF m pc ls (.int v :: st))) Q :=
  own_newP X w hd h0 cap hcap hb hc hs (fun h' T' X' E A => g h' T' X' E (own_A_eq A fun _ _ _ => hdf.symm))
end Arrs2
/-! ### own numbers -/
theorem own_addc {x k : Int32} {d : Int} (hk : k.toInt = d) (h1 : -2147483648 ≤ x.toInt + d) (h2 : x.toInt + d < 2147483648) : (x + k).toInt = x.toInt + d := by
  subst hk; exact Jvm.Kit.i32_add (by omega) (by omega)
theorem own_subc {x k : Int32} {d : Int} (hk : k.toInt = d) (h1 : -2147483648 ≤ x.toInt - d) (h2 : x.toInt - d < 2147483648) : (x - k).toInt = x.toInt - d := by
  subst hk; exact Jvm.Kit.i32_sub (by omega) (by omega)
theorem own_mulc {x k : Int32} {d : Int} (hk : k.toInt = d) (h1 : -2147483648 ≤ x.toInt * d) (h2 : x.toInt * d < 2147483648) : (x * k).toInt = x.toInt * d := by
  subst hk; exact Jvm.Kit.i32_mul (by omega) (by omega)
theorem own_i2b_int (x : Int32) : (own_i2b x).toInt = x.toInt.bmod 256 := by
  simp [own_i2b, Int8.toInt_toInt32, Int32.toInt_toInt8]
theorem own_i2b_b (x : Int32) : -128 ≤ (own_i2b x).toInt ∧ (own_i2b x).toInt < 128 ∧ (own_i2b x).toInt % 256 = x.toInt % 256 := by
  rw [own_i2b_int]
  have h1 := Int.bmod_emod (x := x.toInt) (m := 256)
  have h2 := Int.le_bmod (x := x.toInt) (m := 256) (by decide)
  have h3 := Int.bmod_lt (x := x.toInt) (m := 256) (by decide)
  omega
theorem own_i2b_fix (x : Int32) : (own_i2b x).toInt8.toInt32 = own_i2b x := by
  simp [own_i2b]
theorem own_i2b_id {x : Int32} (h1 : -128 ≤ x.toInt) (h2 : x.toInt < 128) : own_i2b x = x := by
  apply Int32.toInt_inj.mp
  have := own_i2b_b x
  omega
theorem own_irem_int (x y : Int32) : (own_irem x y).toInt = x.toInt.tmod y.toInt := by
  have a := (x % y).toInt_lt; have b := (x % y).le_toInt
  rw [Int32.toInt_mod] at a b
  rw [own_irem, Int32.toInt_sub, Int32.toInt_mul, Int32.toInt_div, Int.bmod_mul_bmod, Int.sub_bmod_bmod, Int.mul_comm, ← Int.tmod_def]
  exact Jvm.Kit.bmod32 b a
theorem own_irem_pos {x y : Int32} (h : 0 ≤ x.toInt) : (own_irem x y).toInt = x.toInt % y.toInt := by rw [own_irem_int, Int.tmod_eq_emod_of_nonneg h]
theorem own_idiv_pos {x y : Int32} (h : 0 ≤ x.toInt) : (x / y).toInt = x.toInt / y.toInt := by
  have a := x.toInt_lt
  rw [Jvm.Kit.i32_div (by omega), Int.tdiv_eq_ediv_of_nonneg h]
theorem own_lrem_pos {x y : Int64} (h : 0 ≤ x.toInt) : (own_lrem x y).toInt = x.toInt % y.toInt := by rw [own_lrem]; exact Jvm.Kit.i64_rem_nonneg h
theorem own_ldiv_pos {x y : Int64} (h : 0 ≤ x.toInt) : (x / y).toInt = x.toInt / y.toInt := by
  have a := x.toInt_lt
  rw [Jvm.Kit.i64_div (by omega), Int.tdiv_eq_ediv_of_nonneg h]
/-! bits -/
theorem own_lushr_bv (x : Int64) (y : Int32) (k : Nat) (hk : ((y &&& 0x3f).toInt64.toBitVec % 64).toNat = k) : (own_lushr x y).toBitVec = x.toBitVec >>> k := by
  simp only [own_lushr, UInt64.toBitVec_toInt64, UInt64.toBitVec_shiftRight, Int64.toBitVec_toUInt64, BitVec.ushiftRight_eq', hk]
theorem own_lshl_bv (x : Int64) (y : Int32) (k : Nat) (hk : ((y &&& 0x3f).toInt64.toBitVec.smod 64#64).toNat = k) : (own_lshl x y).toBitVec = x.toBitVec <<< k := by
  have e : (own_lshl x y).toBitVec = x.toBitVec <<< ((y &&& 0x3f).toInt64.toBitVec.smod 64#64) := rfl
  rw [e, BitVec.shiftLeft_eq', hk]
theorem own_iushr_bv (x : Int32) (y : Int32) (k : Nat) (hk : ((y &&& 31).toBitVec % 32).toNat = k) : (own_iushr x y).toBitVec = x.toBitVec >>> k := by
  simp only [own_iushr, UInt32.toBitVec_toInt32, UInt32.toBitVec_shiftRight, Int32.toBitVec_toUInt32, BitVec.ushiftRight_eq', hk]
theorem own_iushr_int (x y : Int32) (k : Nat) (hk : ((y &&& 31).toBitVec % 32).toNat = k) (h : 0 ≤ x.toInt) : (own_iushr x y).toInt = x.toInt / 2 ^ k := by
  have e : (own_iushr x y).toInt = (own_iushr x y).toBitVec.toInt := rfl
  have e1 : x.toInt = x.toBitVec.toInt := rfl
  rw [e, own_iushr_bv x y k hk, e1]
  rw [e1] at h
  have h2 : x.toBitVec.toInt = (x.toBitVec.toNat : Int) := by
    rw [BitVec.toInt_eq_toNat_cond] at h ⊢
    split at h
    · rw [if_pos (by assumption)]
    · have := x.toBitVec.isLt; omega
  have h3 : 2 * x.toBitVec.toNat < 2 ^ 32 := by
    have := BitVec.toInt_lt (x := x.toBitVec); omega
  rw [BitVec.toInt_eq_toNat_cond, BitVec.toNat_ushiftRight, Nat.shiftRight_eq_div_pow]
  have h4 : x.toBitVec.toNat / 2 ^ k ≤ x.toBitVec.toNat := Nat.div_le_self _ _
  rw [if_pos (by omega), h2, Int.natCast_ediv, Int.natCast_pow]
  rfl
theorem own_pos_nat {x : Int32} (h : 0 ≤ x.toInt) : x.toInt = (x.toBitVec.toNat : Int) := by
  have e : x.toInt = x.toBitVec.toInt := rfl
  rw [e] at h ⊢
  rw [BitVec.toInt_eq_toNat_cond] at h ⊢
  have := x.toBitVec.isLt
  split at h
  · rw [if_pos (by assumption)]
  · omega
theorem own_nat_pos {x : Int32} {n : Nat} (h : x.toBitVec.toNat = n) (hn : n < 2147483648) : x.toInt = (n : Int) := by
  have e : x.toInt = x.toBitVec.toInt := rfl
  rw [e, BitVec.toInt_eq_toNat_cond, h, if_pos (by omega)]
/-- an or of a multiple of 2^k and what lies below 2^k is their sum -/
theorem own_or {x y : Int32} (k : Nat) (hx : 0 ≤ x.toInt) (hx2 : x.toInt % 2 ^ k = 0) (hy : 0 ≤ y.toInt) (hy2 : y.toInt < 2 ^ k) : (x ||| y).toInt = x.toInt + y.toInt := by
  have e1 := own_pos_nat hx
  have e2 := own_pos_nat hy
  have b1 := Int32.toInt_lt x
  have b2 := Int32.toInt_lt y
  have hm : x.toBitVec.toNat % 2 ^ k = 0 := by
    rw [e1] at hx2
    have : ((x.toBitVec.toNat % 2 ^ k : Nat) : Int) = 0 := by rw [Int.natCast_emod, Int.natCast_pow]; exact hx2
    omega
  have hl : y.toBitVec.toNat < 2 ^ k := by
    rw [e2] at hy2
    have : (y.toBitVec.toNat : Int) < ((2 ^ k : Nat) : Int) := by rw [Int.natCast_pow]; exact hy2
    omega
  have hd : x.toBitVec.toNat = 2 ^ k * (x.toBitVec.toNat / 2 ^ k) := by
    have := Nat.div_add_mod x.toBitVec.toNat (2 ^ k); omega
  have e3 : (x ||| y).toBitVec.toNat = x.toBitVec.toNat + y.toBitVec.toNat := by
    rw [Int32.toBitVec_or, BitVec.toNat_or]
    generalize y.toBitVec.toNat = b at *
    rw [hd, ← Nat.two_pow_add_eq_or_of_lt hl]
  have hlt : (x ||| y).toBitVec.toNat < 2147483648 := by
    rw [Int32.toBitVec_or, BitVec.toNat_or]
    exact Nat.or_lt_two_pow (n := 31) (by omega) (by omega)
  rw [own_nat_pos e3 (by omega)]
  omega
theorem own_mask (x m : Int32) (k : Nat) (hk : k < 32) (hm : m.toBitVec.toNat = 2 ^ k - 1) : (x &&& m).toInt = x.toInt % 2 ^ k := Jvm.Kit.i32_mask x m hk hm
/-! the high bits of a byte -/
theorem own_fin256 {x : Int32} (h0 : 0 ≤ x.toInt) (h1 : x.toInt < 256) : ∃ n : Fin 256, x = Int32.ofNat n.val ∧ x.toInt = (n.val : Int) := by
  refine ⟨⟨x.toInt.toNat, by omega⟩, ?_, by show x.toInt = (x.toInt.toNat : Int); omega⟩
  apply Int32.toInt_inj.mp
  rw [Int32.toInt_ofNat_of_lt (by show x.toInt.toNat < _; omega)]
  show x.toInt = (x.toInt.toNat : Int); omega
theorem own_f192 : ∀ n : Fin 256, (Int32.ofNat n.val &&& 192).toInt = (n.val : Int) - (n.val : Int) % 64 := by decide +kernel
theorem own_f224 : ∀ n : Fin 256, (Int32.ofNat n.val &&& 224).toInt = (n.val : Int) - (n.val : Int) % 32 := by decide +kernel
theorem own_f240 : ∀ n : Fin 256, (Int32.ofNat n.val &&& 240).toInt = (n.val : Int) - (n.val : Int) % 16 := by decide +kernel
theorem own_f248 : ∀ n : Fin 256, (Int32.ofNat n.val &&& 248).toInt = (n.val : Int) - (n.val : Int) % 8 := by decide +kernel
theorem own_h192 {x : Int32} (h0 : 0 ≤ x.toInt) (h1 : x.toInt < 256) : (x &&& 192).toInt = x.toInt - x.toInt % 64 := by
  obtain ⟨n, e1, e2⟩ := own_fin256 h0 h1; rw [e2, e1]; exact own_f192 n
theorem own_h224 {x : Int32} (h0 : 0 ≤ x.toInt) (h1 : x.toInt < 256) : (x &&& 224).toInt = x.toInt - x.toInt % 32 := by
  obtain ⟨n, e1, e2⟩ := own_fin256 h0 h1; rw [e2, e1]; exact own_f224 n
theorem own_h240 {x : Int32} (h0 : 0 ≤ x.toInt) (h1 : x.toInt < 256) : (x &&& 240).toInt = x.toInt - x.toInt % 16 := by
  obtain ⟨n, e1, e2⟩ := own_fin256 h0 h1; rw [e2, e1]; exact own_f240 n
theorem own_h248 {x : Int32} (h0 : 0 ≤ x.toInt) (h1 : x.toInt < 256) : (x &&& 248).toInt = x.toInt - x.toInt % 8 := by
  obtain ⟨n, e1, e2⟩ := own_fin256 h0 h1; rw [e2, e1]; exact own_f248 n
theorem own_m255 (x : Int32) : (x &&& 255).toInt = x.toInt % 256 := Jvm.Kit.i32_mask x 255 (k := 8) (by decide) (by decide)
theorem own_m63 (x : Int32) : (x &&& 63).toInt = x.toInt % 64 := Jvm.Kit.i32_mask x 63 (k := 6) (by decide) (by decide)
theorem own_l192 (x : Int32) : (x &&& 192).toInt = x.toInt % 256 - x.toInt % 64 := by
  have e : x &&& 192 = (x &&& 255) &&& 192 := by rw [Int32.and_assoc]; rfl
  have h := own_m255 x
  rw [e, own_h192 (by omega) (by omega), h]; omega
theorem own_shr (x y : Int32) (k : Nat) (hk : ((y &&& 31).toBitVec.smod 32).toNat = k) : (own_ishr x y).toInt = x.toInt / 2 ^ k := Jvm.Kit.i32_shr x _ hk
theorem own_shl (x y : Int32) (k : Nat) (hk : ((y &&& 31).toBitVec.smod 32).toNat = k) (h1 : -2147483648 ≤ x.toInt * 2 ^ k) (h2 : x.toInt * 2 ^ k < 2147483648) : (own_ishl x y).toInt = x.toInt * 2 ^ k := Jvm.Kit.i32_shl x _ hk (by omega) (by omega)
/-- an or with a constant that is a multiple of 2^k -/
theorem own_orc {x y : Int32} {d : Int} (k : Nat) (hx : x.toInt = d) (h0 : 0 ≤ d) (h1 : d % 2 ^ k = 0) (hy : 0 ≤ y.toInt) (hy2 : y.toInt < 2 ^ k) : (x ||| y).toInt = d + y.toInt := by
  subst hx; exact own_or k h0 h1 hy hy2
theorem own_b255 (x : Int32) : (own_i2b x &&& 255).toInt = x.toInt % 256 := by
  have h1 := own_m255 (own_i2b x)
  have h2 := own_i2b_b x
  omega
theorem own_ofNat {n : Nat} (h : n < 2147483648) : (Int32.ofNat n).toInt = (n : Int) := Int32.toInt_ofNat_of_lt (by omega)
def own_end (cp q : Int32) : Int32 := if cp.toInt < 128 then q + 1 else if cp.toInt < 2048 then q + 2 else if cp.toInt < 65536 then q + 3 else q + 4
def own_enc (cp : Int32) (q : Int) (g : Int → Int32) : Int → Int32 := if cp.toInt < 128 then (own_u g (q) (own_i2b cp)) else if cp.toInt < 2048 then (own_u (own_u g (q) (own_i2b (192 ||| own_ishr cp 6))) (q + 1) (own_i2b (128 ||| (cp &&& 63)))) else if cp.toInt < 65536 then (own_u (own_u (own_u g (q) (own_i2b (224 ||| own_ishr cp 12))) (q + 1) (own_i2b (128 ||| (own_ishr cp 6 &&& 63)))) (q + 2) (own_i2b (128 ||| (cp &&& 63)))) else (own_u (own_u (own_u (own_u g (q) (own_i2b (240 ||| own_ishr cp 18))) (q + 1) (own_i2b (128 ||| (own_ishr cp 12 &&& 63)))) (q + 2) (own_i2b (128 ||| (own_ishr cp 6 &&& 63)))) (q + 3) (own_i2b (128 ||| (cp &&& 63))))
def own_ct (b : Int32) : Int32 := if (b &&& 192).toInt = 128 then 1 else 0
abbrev own_y1 : MethodName := ⟨"com/example/cesta/cesta/Utf8", "encode", "(I[BI)I"⟩
theorem pl1 : plainFor own_y1 = true := plainFor_of_name (by first | (simp [plainName, overriddenIn]; done) | decide +kernel)
def B1_0_4 : List (Instr × Nat) := [(.iload_n 0, 1), (.sipush 128, 3)]
theorem B1_0_4d : own_d prog_135_method_2_code 0 B1_0_4 4 = true := by decide +kernel
theorem d1_4 : decode prog_135_method_2_code 4 = .ok (.if_icmp .ge 12, 3) := by decide +kernel
def B1_16_20 : List (Instr × Nat) := [(.iload_n 0, 1), (.sipush 2048, 3)]
theorem B1_16_20d : own_d prog_135_method_2_code 16 B1_16_20 20 = true := by decide +kernel
theorem d1_20 : decode prog_135_method_2_code 20 = .ok (.if_icmp .ge 33, 3) := by decide +kernel
def B1_53_54 : List (Instr × Nat) := [(.iload_n 0, 1)]
theorem B1_53_54d : own_d prog_135_method_2_code 53 B1_53_54 54 = true := by decide +kernel
theorem d1_54 : decode prog_135_method_2_code 54 = .ok (.ldc 7, 2) := by decide +kernel
theorem d1_56 : decode prog_135_method_2_code 56 = .ok (.if_icmp .ge 50, 3) := by decide +kernel
def B1_106_117 : List (Instr × Nat) := [(.aload_n 1, 1), (.iload_n 2, 1), (.sipush 240, 3), (.iload_n 0, 1), (.bipush 18, 2), (.ishr, 1), (.ior, 1), (.i2b, 1)]
theorem B1_106_117d : own_d prog_135_method_2_code 106 B1_106_117 117 = true := by decide +kernel
theorem d1_117 : decode prog_135_method_2_code 117 = .ok (.bastore, 1) := by decide +kernel
def B1_118_134 : List (Instr × Nat) := [(.aload_n 1, 1), (.iload_n 2, 1), (.iconst 1, 1), (.iadd, 1), (.sipush 128, 3), (.iload_n 0, 1), (.bipush 12, 2), (.ishr, 1), (.bipush 63, 2), (.iand, 1), (.ior, 1), (.i2b, 1)]
theorem B1_118_134d : own_d prog_135_method_2_code 118 B1_118_134 134 = true := by decide +kernel
theorem d1_134 : decode prog_135_method_2_code 134 = .ok (.bastore, 1) := by decide +kernel
def B1_135_151 : List (Instr × Nat) := [(.aload_n 1, 1), (.iload_n 2, 1), (.iconst 2, 1), (.iadd, 1), (.sipush 128, 3), (.iload_n 0, 1), (.bipush 6, 2), (.ishr, 1), (.bipush 63, 2), (.iand, 1), (.ior, 1), (.i2b, 1)]
theorem B1_135_151d : own_d prog_135_method_2_code 135 B1_135_151 151 = true := by decide +kernel
theorem d1_151 : decode prog_135_method_2_code 151 = .ok (.bastore, 1) := by decide +kernel
def B1_152_165 : List (Instr × Nat) := [(.aload_n 1, 1), (.iload_n 2, 1), (.iconst 3, 1), (.iadd, 1), (.sipush 128, 3), (.iload_n 0, 1), (.bipush 63, 2), (.iand, 1), (.ior, 1), (.i2b, 1)]
theorem B1_152_165d : own_d prog_135_method_2_code 152 B1_152_165 165 = true := by decide +kernel
theorem d1_165 : decode prog_135_method_2_code 165 = .ok (.bastore, 1) := by decide +kernel
def B1_166_169 : List (Instr × Nat) := [(.iload_n 2, 1), (.iconst 4, 1), (.iadd, 1)]
theorem B1_166_169d : own_d prog_135_method_2_code 166 B1_166_169 169 = true := by decide +kernel
theorem d1_169 : decode prog_135_method_2_code 169 = .ok (.ireturn, 1) := by decide +kernel
def B1_59_70 : List (Instr × Nat) := [(.aload_n 1, 1), (.iload_n 2, 1), (.sipush 224, 3), (.iload_n 0, 1), (.bipush 12, 2), (.ishr, 1), (.ior, 1), (.i2b, 1)]
theorem B1_59_70d : own_d prog_135_method_2_code 59 B1_59_70 70 = true := by decide +kernel
theorem d1_70 : decode prog_135_method_2_code 70 = .ok (.bastore, 1) := by decide +kernel
def B1_71_87 : List (Instr × Nat) := [(.aload_n 1, 1), (.iload_n 2, 1), (.iconst 1, 1), (.iadd, 1), (.sipush 128, 3), (.iload_n 0, 1), (.bipush 6, 2), (.ishr, 1), (.bipush 63, 2), (.iand, 1), (.ior, 1), (.i2b, 1)]
theorem B1_71_87d : own_d prog_135_method_2_code 71 B1_71_87 87 = true := by decide +kernel
theorem d1_87 : decode prog_135_method_2_code 87 = .ok (.bastore, 1) := by decide +kernel
def B1_88_101 : List (Instr × Nat) := [(.aload_n 1, 1), (.iload_n 2, 1), (.iconst 2, 1), (.iadd, 1), (.sipush 128, 3), (.iload_n 0, 1), (.bipush 63, 2), (.iand, 1), (.ior, 1), (.i2b, 1)]
theorem B1_88_101d : own_d prog_135_method_2_code 88 B1_88_101 101 = true := by decide +kernel
theorem d1_101 : decode prog_135_method_2_code 101 = .ok (.bastore, 1) := by decide +kernel
def B1_102_105 : List (Instr × Nat) := [(.iload_n 2, 1), (.iconst 3, 1), (.iadd, 1)]
theorem B1_102_105d : own_d prog_135_method_2_code 102 B1_102_105 105 = true := by decide +kernel
theorem d1_105 : decode prog_135_method_2_code 105 = .ok (.ireturn, 1) := by decide +kernel
def B1_23_34 : List (Instr × Nat) := [(.aload_n 1, 1), (.iload_n 2, 1), (.sipush 192, 3), (.iload_n 0, 1), (.bipush 6, 2), (.ishr, 1), (.ior, 1), (.i2b, 1)]
theorem B1_23_34d : own_d prog_135_method_2_code 23 B1_23_34 34 = true := by decide +kernel
theorem d1_34 : decode prog_135_method_2_code 34 = .ok (.bastore, 1) := by decide +kernel
def B1_35_48 : List (Instr × Nat) := [(.aload_n 1, 1), (.iload_n 2, 1), (.iconst 1, 1), (.iadd, 1), (.sipush 128, 3), (.iload_n 0, 1), (.bipush 63, 2), (.iand, 1), (.ior, 1), (.i2b, 1)]
theorem B1_35_48d : own_d prog_135_method_2_code 35 B1_35_48 48 = true := by decide +kernel
theorem d1_48 : decode prog_135_method_2_code 48 = .ok (.bastore, 1) := by decide +kernel
def B1_49_52 : List (Instr × Nat) := [(.iload_n 2, 1), (.iconst 2, 1), (.iadd, 1)]
theorem B1_49_52d : own_d prog_135_method_2_code 49 B1_49_52 52 = true := by decide +kernel
theorem d1_52 : decode prog_135_method_2_code 52 = .ok (.ireturn, 1) := by decide +kernel
def B1_7_11 : List (Instr × Nat) := [(.aload_n 1, 1), (.iload_n 2, 1), (.iload_n 0, 1), (.i2b, 1)]
theorem B1_7_11d : own_d prog_135_method_2_code 7 B1_7_11 11 = true := by decide +kernel
theorem d1_11 : decode prog_135_method_2_code 11 = .ok (.bastore, 1) := by decide +kernel
def B1_12_15 : List (Instr × Nat) := [(.iload_n 2, 1), (.iconst 1, 1), (.iadd, 1)]
theorem B1_12_15d : own_d prog_135_method_2_code 12 B1_12_15 15 = true := by decide +kernel
theorem d1_15 : decode prog_135_method_2_code 15 = .ok (.ireturn, 1) := by decide +kernel
set_option maxRecDepth 65536 in
set_option maxHeartbeats 40000000 in
theorem c_enc (l : Launch) (Z : State) (a0 : Array Value) (hw : ∀ d ∈ tables_1, d.before a0 Z = true) (cp : Int32) (b : Addr) (q : Int32) (g : Int → Int32) (h0 : Heap) (n0 : Nat) (Z0 : n0 ≤ h0.size) (n_b : n0 ≤ b) (A : own_I Z h0 b .byte 12 g) (hq : 0 ≤ q.toInt ∧ q.toInt ≤ 7) :
    own_C l Z own_y1 prog_135_method_2_code 3 (some .int) ({ frames := 0, cells := 0, slots := 0, locals := 0 } : Room) #[(.int cp), (.ref b), (.int q)] h0 n0 (fun v h => v = some (.int (own_end cp q)) ∧ n0 ≤ h.size ∧ own_I Z h b .byte 12 (own_enc cp q.toInt g)) := by
  refine own_body pl1 Z0 (ls := #[.val (.int cp), .val (.ref b), .val (.int q)]) (fun m => by first | (simp [entryFrame, mkF, argsToLocals, Value.category]; done) | rfl) ?_
  intro p e s m below meth c T0 X0
  have i1 : (q + (1 : Int32)).toInt = q.toInt + 1 := own_addc rfl (by omega) (by omega)
  have i2 : (q + (2 : Int32)).toInt = q.toInt + 2 := own_addc rfl (by omega) (by omega)
  have i3 : (q + (3 : Int32)).toInt = q.toInt + 3 := own_addc rfl (by omega) (by omega)
  refine own_blk X0 B1_0_4 B1_0_4d (ls' := #[.val (.int cp), .val (.ref b), .val (.int q)]) (st' := [(.int (128 : Int32)), (.int cp)]) rfl ?_
  refine own_icmp X0 d1_4 (pc' := 16) (by decide) (fun c4 => ?_) (fun c4 => ?_)
  · have c4 : 128 ≤ cp.toInt := c4
    refine own_blk X0 B1_16_20 B1_16_20d (ls' := #[.val (.int cp), .val (.ref b), .val (.int q)]) (st' := [(.int (2048 : Int32)), (.int cp)]) rfl ?_
    refine own_icmp X0 d1_20 (pc' := 53) (by decide) (fun c20 => ?_) (fun c20 => ?_)
    · have c20 : 2048 ≤ cp.toInt := c20
      refine own_blk X0 B1_53_54 B1_53_54d (ls' := #[.val (.int cp), .val (.ref b), .val (.int q)]) (st' := [(.int cp)]) rfl ?_
      refine own_ldc X0 (hw _ (List.mem_of_getElem? (i := 12) rfl)) d1_54 ?_
      refine own_icmp X0 d1_56 (pc' := 106) (by decide) (fun c56 => ?_) (fun c56 => ?_)
      · have c56 : 65536 ≤ cp.toInt := c56
        refine own_blk X0 B1_106_117 B1_106_117d (ls' := #[.val (.int cp), .val (.ref b), .val (.int q)]) (st' := [(.int (own_i2b ((240 : Int32) ||| (own_ishr cp (18 : Int32))))), (.int q), (.ref b)]) rfl ?_
        refine own_bast X0 A n_b d1_117 (by omega) (by omega) (own_i2b_fix _) (fun h1 T1 X1 A1 W1 => ?_)
        have A1 : own_I Z h1 b .byte 12 (own_u g (q.toInt) (own_i2b ((240 : Int32) ||| (own_ishr cp (18 : Int32))))) := A1
        generalize eg1 : own_u g (q.toInt) (own_i2b ((240 : Int32) ||| (own_ishr cp (18 : Int32)))) = g1 at A1
        refine own_blk X1 B1_118_134 B1_118_134d (ls' := #[.val (.int cp), .val (.ref b), .val (.int q)]) (st' := [(.int (own_i2b ((128 : Int32) ||| ((own_ishr cp (12 : Int32)) &&& (63 : Int32))))), (.int (q + (1 : Int32))), (.ref b)]) rfl ?_
        refine own_bast X1 A1 n_b d1_134 (by omega) (by omega) (own_i2b_fix _) (fun h2 T2 X2 A2 W2 => ?_)
        have A2 : own_I Z h2 b .byte 12 (own_u g1 (q.toInt + 1) (own_i2b ((128 : Int32) ||| ((own_ishr cp (12 : Int32)) &&& (63 : Int32))))) := by rw [← i1]; exact A2
        generalize eg2 : own_u g1 (q.toInt + 1) (own_i2b ((128 : Int32) ||| ((own_ishr cp (12 : Int32)) &&& (63 : Int32)))) = g2 at A2
        refine own_blk X2 B1_135_151 B1_135_151d (ls' := #[.val (.int cp), .val (.ref b), .val (.int q)]) (st' := [(.int (own_i2b ((128 : Int32) ||| ((own_ishr cp (6 : Int32)) &&& (63 : Int32))))), (.int (q + (2 : Int32))), (.ref b)]) rfl ?_
        refine own_bast X2 A2 n_b d1_151 (by omega) (by omega) (own_i2b_fix _) (fun h3 T3 X3 A3 W3 => ?_)
        have A3 : own_I Z h3 b .byte 12 (own_u g2 (q.toInt + 2) (own_i2b ((128 : Int32) ||| ((own_ishr cp (6 : Int32)) &&& (63 : Int32))))) := by rw [← i2]; exact A3
        generalize eg3 : own_u g2 (q.toInt + 2) (own_i2b ((128 : Int32) ||| ((own_ishr cp (6 : Int32)) &&& (63 : Int32)))) = g3 at A3
        refine own_blk X3 B1_152_165 B1_152_165d (ls' := #[.val (.int cp), .val (.ref b), .val (.int q)]) (st' := [(.int (own_i2b ((128 : Int32) ||| (cp &&& (63 : Int32))))), (.int (q + (3 : Int32))), (.ref b)]) rfl ?_
        refine own_bast X3 A3 n_b d1_165 (by omega) (by omega) (own_i2b_fix _) (fun h4 T4 X4 A4 W4 => ?_)
        have A4 : own_I Z h4 b .byte 12 (own_u g3 (q.toInt + 3) (own_i2b ((128 : Int32) ||| (cp &&& (63 : Int32))))) := by rw [← i3]; exact A4
        generalize eg4 : own_u g3 (q.toInt + 3) (own_i2b ((128 : Int32) ||| (cp &&& (63 : Int32)))) = g4 at A4
        refine own_blk X4 B1_166_169 B1_166_169d (ls' := #[.val (.int cp), .val (.ref b), .val (.int q)]) (st' := [(.int (q + (4 : Int32)))]) rfl ?_
        exact own_retI X4 d1_169 (by decide) (by decide) (⟨by rw [own_end, if_neg (by omega), if_neg (by omega), if_neg (by omega)], X4.2.1, by rw [own_enc, if_neg (by omega), if_neg (by omega), if_neg (by omega)]; subst eg1 eg2 eg3 eg4; exact A4⟩)
      · have c56 : ¬ (65536 ≤ cp.toInt) := c56
        refine own_blk X0 B1_59_70 B1_59_70d (ls' := #[.val (.int cp), .val (.ref b), .val (.int q)]) (st' := [(.int (own_i2b ((224 : Int32) ||| (own_ishr cp (12 : Int32))))), (.int q), (.ref b)]) rfl ?_
        refine own_bast X0 A n_b d1_70 (by omega) (by omega) (own_i2b_fix _) (fun h5 T5 X5 A5 W5 => ?_)
        have A5 : own_I Z h5 b .byte 12 (own_u g (q.toInt) (own_i2b ((224 : Int32) ||| (own_ishr cp (12 : Int32))))) := A5
        generalize eg5 : own_u g (q.toInt) (own_i2b ((224 : Int32) ||| (own_ishr cp (12 : Int32)))) = g5 at A5
        refine own_blk X5 B1_71_87 B1_71_87d (ls' := #[.val (.int cp), .val (.ref b), .val (.int q)]) (st' := [(.int (own_i2b ((128 : Int32) ||| ((own_ishr cp (6 : Int32)) &&& (63 : Int32))))), (.int (q + (1 : Int32))), (.ref b)]) rfl ?_
        refine own_bast X5 A5 n_b d1_87 (by omega) (by omega) (own_i2b_fix _) (fun h6 T6 X6 A6 W6 => ?_)
        have A6 : own_I Z h6 b .byte 12 (own_u g5 (q.toInt + 1) (own_i2b ((128 : Int32) ||| ((own_ishr cp (6 : Int32)) &&& (63 : Int32))))) := by rw [← i1]; exact A6
        generalize eg6 : own_u g5 (q.toInt + 1) (own_i2b ((128 : Int32) ||| ((own_ishr cp (6 : Int32)) &&& (63 : Int32)))) = g6 at A6
        refine own_blk X6 B1_88_101 B1_88_101d (ls' := #[.val (.int cp), .val (.ref b), .val (.int q)]) (st' := [(.int (own_i2b ((128 : Int32) ||| (cp &&& (63 : Int32))))), (.int (q + (2 : Int32))), (.ref b)]) rfl ?_
        refine own_bast X6 A6 n_b d1_101 (by omega) (by omega) (own_i2b_fix _) (fun h7 T7 X7 A7 W7 => ?_)
        have A7 : own_I Z h7 b .byte 12 (own_u g6 (q.toInt + 2) (own_i2b ((128 : Int32) ||| (cp &&& (63 : Int32))))) := by rw [← i2]; exact A7
        generalize eg7 : own_u g6 (q.toInt + 2) (own_i2b ((128 : Int32) ||| (cp &&& (63 : Int32)))) = g7 at A7
        refine own_blk X7 B1_102_105 B1_102_105d (ls' := #[.val (.int cp), .val (.ref b), .val (.int q)]) (st' := [(.int (q + (3 : Int32)))]) rfl ?_
        exact own_retI X7 d1_105 (by decide) (by decide) (⟨by rw [own_end, if_neg (by omega), if_neg (by omega), if_pos (by omega)], X7.2.1, by rw [own_enc, if_neg (by omega), if_neg (by omega), if_pos (by omega)]; subst eg5 eg6 eg7; exact A7⟩)
    · have c20 : ¬ (2048 ≤ cp.toInt) := c20
      refine own_blk X0 B1_23_34 B1_23_34d (ls' := #[.val (.int cp), .val (.ref b), .val (.int q)]) (st' := [(.int (own_i2b ((192 : Int32) ||| (own_ishr cp (6 : Int32))))), (.int q), (.ref b)]) rfl ?_
      refine own_bast X0 A n_b d1_34 (by omega) (by omega) (own_i2b_fix _) (fun h8 T8 X8 A8 W8 => ?_)
      have A8 : own_I Z h8 b .byte 12 (own_u g (q.toInt) (own_i2b ((192 : Int32) ||| (own_ishr cp (6 : Int32))))) := A8
      generalize eg8 : own_u g (q.toInt) (own_i2b ((192 : Int32) ||| (own_ishr cp (6 : Int32)))) = g8 at A8
      refine own_blk X8 B1_35_48 B1_35_48d (ls' := #[.val (.int cp), .val (.ref b), .val (.int q)]) (st' := [(.int (own_i2b ((128 : Int32) ||| (cp &&& (63 : Int32))))), (.int (q + (1 : Int32))), (.ref b)]) rfl ?_
      refine own_bast X8 A8 n_b d1_48 (by omega) (by omega) (own_i2b_fix _) (fun h9 T9 X9 A9 W9 => ?_)
      have A9 : own_I Z h9 b .byte 12 (own_u g8 (q.toInt + 1) (own_i2b ((128 : Int32) ||| (cp &&& (63 : Int32))))) := by rw [← i1]; exact A9
      generalize eg9 : own_u g8 (q.toInt + 1) (own_i2b ((128 : Int32) ||| (cp &&& (63 : Int32)))) = g9 at A9
      refine own_blk X9 B1_49_52 B1_49_52d (ls' := #[.val (.int cp), .val (.ref b), .val (.int q)]) (st' := [(.int (q + (2 : Int32)))]) rfl ?_
      exact own_retI X9 d1_52 (by decide) (by decide) (⟨by rw [own_end, if_neg (by omega), if_pos (by omega)], X9.2.1, by rw [own_enc, if_neg (by omega), if_pos (by omega)]; subst eg8 eg9; exact A9⟩)
  · have c4 : ¬ (128 ≤ cp.toInt) := c4
    refine own_blk X0 B1_7_11 B1_7_11d (ls' := #[.val (.int cp), .val (.ref b), .val (.int q)]) (st' := [(.int (own_i2b cp)), (.int q), (.ref b)]) rfl ?_
    refine own_bast X0 A n_b d1_11 (by omega) (by omega) (own_i2b_fix _) (fun h10 T10 X10 A10 W10 => ?_)
    have A10 : own_I Z h10 b .byte 12 (own_u g (q.toInt) (own_i2b cp)) := A10
    generalize eg10 : own_u g (q.toInt) (own_i2b cp) = g10 at A10
    refine own_blk X10 B1_12_15 B1_12_15d (ls' := #[.val (.int cp), .val (.ref b), .val (.int q)]) (st' := [(.int (q + (1 : Int32)))]) rfl ?_
    exact own_retI X10 d1_15 (by decide) (by decide) (⟨by rw [own_end, if_pos (by omega)], X10.2.1, by rw [own_enc, if_pos (by omega)]; subst eg10; exact A10⟩)
abbrev own_y2 : MethodName := ⟨"com/example/cesta/cesta/Utf8EncodePinLaw", "kept", "([BIIIB)Z"⟩
theorem pl2 : plainFor own_y2 = true := plainFor_of_name (by first | (simp [plainName, overriddenIn]; done) | decide +kernel)
def B2_0_2 : List (Instr × Nat) := [(.iload_n 1, 1), (.iload_n 2, 1)]
theorem B2_0_2d : own_d method_2_code 0 B2_0_2 2 = true := by decide +kernel
theorem d2_2 : decode method_2_code 2 = .ok (.if_icmp .lt 8, 3) := by decide +kernel
def B2_10_12 : List (Instr × Nat) := [(.aload_n 0, 1), (.iload_n 1, 1)]
theorem B2_10_12d : own_d method_2_code 10 B2_10_12 12 = true := by decide +kernel
theorem d2_12 : decode method_2_code 12 = .ok (.baload, 1) := by decide +kernel
def B2_13_15 : List (Instr × Nat) := [(.iload 4, 2)]
theorem B2_13_15d : own_d method_2_code 13 B2_13_15 15 = true := by decide +kernel
theorem d2_15 : decode method_2_code 15 = .ok (.if_icmp .ne 7, 3) := by decide +kernel
def B2_18_19 : List (Instr × Nat) := [(.iconst 1, 1)]
theorem B2_18_19d : own_d method_2_code 18 B2_18_19 19 = true := by decide +kernel
theorem d2_19 : decode method_2_code 19 = .ok (.goto 4, 3) := by decide +kernel
theorem d2_23 : decode method_2_code 23 = .ok (.ireturn, 1) := by decide +kernel
def B2_5_7 : List (Instr × Nat) := [(.iload_n 1, 1), (.iload_n 3, 1)]
theorem B2_5_7d : own_d method_2_code 5 B2_5_7 7 = true := by decide +kernel
theorem d2_7 : decode method_2_code 7 = .ok (.if_icmp .lt 11, 3) := by decide +kernel
set_option maxRecDepth 65536 in
set_option maxHeartbeats 40000000 in
theorem c_kept (l : Launch) (Z : State) (a0 : Array Value) (hw : ∀ d ∈ tables_1, d.before a0 Z = true) (b : Addr) (i q en f : Int32) (g : Int → Int32) (h0 : Heap) (n0 : Nat) (Z0 : n0 ≤ h0.size) (A : own_I Z h0 b .byte 12 g) (hi : 0 ≤ i.toInt ∧ i.toInt < 12) (hk : ¬ (q.toInt ≤ i.toInt ∧ i.toInt < en.toInt) → g i.toInt = f) :
    own_C l Z own_y2 method_2_code 5 (some .boolean) ({ frames := 0, cells := 0, slots := 0, locals := 0 } : Room) #[(.ref b), (.int i), (.int q), (.int en), (.int f)] h0 n0 (fun v h => v = some (.int 1) ∧ h = h0) := by
  refine own_body pl2 Z0 (ls := #[.val (.ref b), .val (.int i), .val (.int q), .val (.int en), .val (.int f)]) (fun m => by first | (simp [entryFrame, mkF, argsToLocals, Value.category]; done) | rfl) ?_
  intro p e s m below meth c T0 X0
  refine own_blk X0 B2_0_2 B2_0_2d (ls' := #[.val (.ref b), .val (.int i), .val (.int q), .val (.int en), .val (.int f)]) (st' := [(.int q), (.int i)]) rfl ?_
  refine own_icmp X0 d2_2 (pc' := 10) (by decide) (fun c2 => ?_) (fun c2 => ?_)
  · have c2 : i.toInt < q.toInt := c2
    refine own_blk X0 B2_10_12 B2_10_12d (ls' := #[.val (.ref b), .val (.int i), .val (.int q), .val (.int en), .val (.int f)]) (st' := [(.int i), (.ref b)]) rfl ?_
    refine own_bald X0 A d2_12 (by omega) (by omega) ?_
    show own_G p e below (T0.setTop (mkF m 13 #[.val (.ref b), .val (.int i), .val (.int q), .val (.int en), .val (.int f)] [(.int (g i.toInt))])) _
    refine own_blk X0 B2_13_15 B2_13_15d (ls' := #[.val (.ref b), .val (.int i), .val (.int q), .val (.int en), .val (.int f)]) (st' := [(.int f), (.int (g i.toInt))]) rfl ?_
    refine own_icmp X0 d2_15 (pc' := 22) (by decide) (fun (c15 : ¬ (g i.toInt).toInt = f.toInt) => by exfalso; exact c15 (by rw [hk (by omega)])) (fun c15 => ?_)
    have c15 : ¬ (¬ (g i.toInt).toInt = f.toInt) := c15
    refine own_blk X0 B2_18_19 B2_18_19d (ls' := #[.val (.ref b), .val (.int i), .val (.int q), .val (.int en), .val (.int f)]) (st' := [(.int (1 : Int32))]) rfl ?_
    refine own_goto X0 d2_19 (pc' := 23) (by decide) ?_
    exact own_retN X0 (by simp) d2_23 (v' := (1 : Int32)) (rfl) (by decide) (by decide) (⟨rfl, rfl⟩)
  · have c2 : ¬ (i.toInt < q.toInt) := c2
    refine own_blk X0 B2_5_7 B2_5_7d (ls' := #[.val (.ref b), .val (.int i), .val (.int q), .val (.int en), .val (.int f)]) (st' := [(.int en), (.int i)]) rfl ?_
    refine own_icmp X0 d2_7 (pc' := 18) (by decide) (fun c7 => ?_) (fun c7 => ?_)
    · have c7 : i.toInt < en.toInt := c7
      refine own_blk X0 B2_18_19 B2_18_19d (ls' := #[.val (.ref b), .val (.int i), .val (.int q), .val (.int en), .val (.int f)]) (st' := [(.int (1 : Int32))]) rfl ?_
      refine own_goto X0 d2_19 (pc' := 23) (by decide) ?_
      exact own_retN X0 (by simp) d2_23 (v' := (1 : Int32)) (rfl) (by decide) (by decide) (⟨rfl, rfl⟩)
    · have c7 : ¬ (i.toInt < en.toInt) := c7
      refine own_blk X0 B2_10_12 B2_10_12d (ls' := #[.val (.ref b), .val (.int i), .val (.int q), .val (.int en), .val (.int f)]) (st' := [(.int i), (.ref b)]) rfl ?_
      refine own_bald X0 A d2_12 (by omega) (by omega) ?_
      show own_G p e below (T0.setTop (mkF m 13 #[.val (.ref b), .val (.int i), .val (.int q), .val (.int en), .val (.int f)] [(.int (g i.toInt))])) _
      refine own_blk X0 B2_13_15 B2_13_15d (ls' := #[.val (.ref b), .val (.int i), .val (.int q), .val (.int en), .val (.int f)]) (st' := [(.int f), (.int (g i.toInt))]) rfl ?_
      refine own_icmp X0 d2_15 (pc' := 22) (by decide) (fun (c15 : ¬ (g i.toInt).toInt = f.toInt) => by exfalso; exact c15 (by rw [hk (by omega)])) (fun c15 => ?_)
      have c15 : ¬ (¬ (g i.toInt).toInt = f.toInt) := c15
      refine own_blk X0 B2_18_19 B2_18_19d (ls' := #[.val (.ref b), .val (.int i), .val (.int q), .val (.int en), .val (.int f)]) (st' := [(.int (1 : Int32))]) rfl ?_
      refine own_goto X0 d2_19 (pc' := 23) (by decide) ?_
      exact own_retN X0 (by simp) d2_23 (v' := (1 : Int32)) (rfl) (by decide) (by decide) (⟨rfl, rfl⟩)
abbrev own_y3 : MethodName := ⟨"com/example/cesta/cesta/Utf8EncodePinLaw", "cont", "(I)Z"⟩
theorem pl3 : plainFor own_y3 = true := plainFor_of_name (by first | (simp [plainName, overriddenIn]; done) | decide +kernel)
def B3_0_8 : List (Instr × Nat) := [(.iload_n 0, 1), (.sipush 192, 3), (.iand, 1), (.sipush 128, 3)]
theorem B3_0_8d : own_d method_3_code 0 B3_0_8 8 = true := by decide +kernel
theorem d3_8 : decode method_3_code 8 = .ok (.if_icmp .ne 7, 3) := by decide +kernel
def B3_15_16 : List (Instr × Nat) := [(.iconst 0, 1)]
theorem B3_15_16d : own_d method_3_code 15 B3_15_16 16 = true := by decide +kernel
theorem d3_16 : decode method_3_code 16 = .ok (.ireturn, 1) := by decide +kernel
def B3_11_12 : List (Instr × Nat) := [(.iconst 1, 1)]
theorem B3_11_12d : own_d method_3_code 11 B3_11_12 12 = true := by decide +kernel
theorem d3_12 : decode method_3_code 12 = .ok (.goto 4, 3) := by decide +kernel
set_option maxRecDepth 65536 in
set_option maxHeartbeats 40000000 in
theorem c_cont (l : Launch) (Z : State) (a0 : Array Value) (hw : ∀ d ∈ tables_1, d.before a0 Z = true) (b : Int32) (h0 : Heap) (n0 : Nat) (Z0 : n0 ≤ h0.size)  :
    own_C l Z own_y3 method_3_code 1 (some .boolean) ({ frames := 0, cells := 0, slots := 0, locals := 0 } : Room) #[(.int b)] h0 n0 (fun v h => v = some (.int (own_ct b)) ∧ h = h0) := by
  refine own_body pl3 Z0 (ls := #[.val (.int b)]) (fun m => by first | (simp [entryFrame, mkF, argsToLocals, Value.category]; done) | rfl) ?_
  intro p e s m below meth c T0 X0
  refine own_blk X0 B3_0_8 B3_0_8d (ls' := #[.val (.int b)]) (st' := [(.int (128 : Int32)), (.int (b &&& (192 : Int32)))]) rfl ?_
  refine own_icmp X0 d3_8 (pc' := 15) (by decide) (fun c8 => ?_) (fun c8 => ?_)
  · have c8 : ¬ (b &&& (192 : Int32)).toInt = 128 := c8
    refine own_blk X0 B3_15_16 B3_15_16d (ls' := #[.val (.int b)]) (st' := [(.int (0 : Int32))]) rfl ?_
    exact own_retN X0 (by simp) d3_16 (v' := (0 : Int32)) (rfl) (by decide) (by decide) (⟨by rw [own_ct, if_neg (by omega)], rfl⟩)
  · have c8 : ¬ (¬ (b &&& (192 : Int32)).toInt = 128) := c8
    refine own_blk X0 B3_11_12 B3_11_12d (ls' := #[.val (.int b)]) (st' := [(.int (1 : Int32))]) rfl ?_
    refine own_goto X0 d3_12 (pc' := 16) (by decide) ?_
    exact own_retN X0 (by simp) d3_16 (v' := (1 : Int32)) (rfl) (by decide) (by decide) (⟨by rw [own_ct, if_pos (by omega)], rfl⟩)
theorem own_x1 {cp : Int32} (h0 : 0 ≤ cp.toInt) (h1 : cp.toInt < 128) : (own_i2b cp &&& 255).toInt = cp.toInt := by rw [own_b255]; omega
theorem own_xl (cp : Int32) : (own_i2b (128 ||| (cp &&& 63)) &&& 255).toInt = 128 + cp.toInt % 64 := by
  have h := own_m63 cp
  rw [own_b255, own_orc (d := 128) 6 rfl (by omega) (by decide) (by omega) (by omega), h]; omega
theorem own_xs {cp y : Int32} (k : Nat) (hk : ((y &&& 31).toBitVec.smod 32).toNat = k) : (own_i2b (128 ||| (own_ishr cp y &&& 63)) &&& 255).toInt = 128 + cp.toInt / 2 ^ k % 64 := by
  rw [own_xl, own_shr cp y k hk]
theorem own_x2 {cp : Int32} (h0 : 0 ≤ cp.toInt) (h1 : cp.toInt < 2048) : (own_i2b (192 ||| own_ishr cp 6) &&& 255).toInt = 192 + cp.toInt / 64 := by
  have h := own_shr cp 6 6 (by decide)
  rw [own_b255, own_orc (d := 192) 6 rfl (by omega) (by decide) (by omega) (by omega), h]; omega
theorem own_x3 {cp : Int32} (h0 : 0 ≤ cp.toInt) (h1 : cp.toInt < 65536) : (own_i2b (224 ||| own_ishr cp 12) &&& 255).toInt = 224 + cp.toInt / 4096 := by
  have h := own_shr cp 12 12 (by decide)
  rw [own_b255, own_orc (d := 224) 5 rfl (by omega) (by decide) (by omega) (by omega), h]; omega
theorem own_x4 {cp : Int32} (h0 : 0 ≤ cp.toInt) (h1 : cp.toInt < 1114112) : (own_i2b (240 ||| own_ishr cp 18) &&& 255).toInt = 240 + cp.toInt / 262144 := by
  have h := own_shr cp 18 18 (by decide)
  rw [own_b255, own_orc (d := 240) 4 rfl (by omega) (by decide) (by omega) (by omega), h]; omega
theorem own_mk (x m : Int32) (k : Nat) (hk : k < 32) (hm : m.toBitVec.toNat = 2 ^ k - 1) : (x &&& m).toInt = x.toInt % 2 ^ k := Jvm.Kit.i32_mask x m hk hm
theorem own_ma {x y : Int32} (h0 : 0 ≤ x.toInt) (h1 : x.toInt < 1048576) (h2 : 0 ≤ y.toInt) (h3 : y.toInt < 64) : (x * 64 + y).toInt = x.toInt * 64 + y.toInt := by
  have e : (x * 64).toInt = x.toInt * 64 := own_mulc rfl (by omega) (by omega)
  rw [Jvm.Kit.i32_add (by omega) (by omega), e]
theorem pl0 : plainFor x = true := plainFor_of_name (by first | (simp [plainName, overriddenIn]; done) | decide +kernel)
def B0_0_1 : List (Instr × Nat) := [(.iload_n 1, 1)]
theorem B0_0_1d : own_d code 0 B0_0_1 1 = true := by decide +kernel
theorem d0_1 : decode code 1 = .ok (.ldc 7, 2) := by decide +kernel
def B0_3_11 : List (Instr × Nat) := [(.iand, 1), (.istore 4, 2), (.iload_n 0, 1), (.iconst 3, 1), (.iand, 1), (.istore 5, 2)]
theorem B0_3_11d : own_d code 3 B0_3_11 11 = true := by decide +kernel
def B0_92_102 : List (Instr × Nat) := [(.iload_n 2, 1), (.bipush 7, 2), (.iand, 1), (.istore 7, 2), (.iload_n 3, 1), (.i2b, 1), (.istore 8, 2)]
theorem B0_92_102d : own_d code 92 B0_92_102 102 = true := by decide +kernel
def B0_102_104 : List (Instr × Nat) := [(.bipush 12, 2)]
theorem B0_102_104d : own_d code 102 B0_102_104 104 = true := by decide +kernel
theorem d0_104 : decode code 104 = .ok (.newarray .byte, 2) := by decide +kernel
def B0_106_110 : List (Instr × Nat) := [(.dup, 1), (.iconst 0, 1), (.iload 8, 2)]
theorem B0_106_110d : own_d code 106 B0_106_110 110 = true := by decide +kernel
theorem d0_110 : decode code 110 = .ok (.bastore, 1) := by decide +kernel
def B0_111_115 : List (Instr × Nat) := [(.dup, 1), (.iconst 1, 1), (.iload 8, 2)]
theorem B0_111_115d : own_d code 111 B0_111_115 115 = true := by decide +kernel
theorem d0_115 : decode code 115 = .ok (.bastore, 1) := by decide +kernel
def B0_116_120 : List (Instr × Nat) := [(.dup, 1), (.iconst 2, 1), (.iload 8, 2)]
theorem B0_116_120d : own_d code 116 B0_116_120 120 = true := by decide +kernel
theorem d0_120 : decode code 120 = .ok (.bastore, 1) := by decide +kernel
def B0_121_125 : List (Instr × Nat) := [(.dup, 1), (.iconst 3, 1), (.iload 8, 2)]
theorem B0_121_125d : own_d code 121 B0_121_125 125 = true := by decide +kernel
theorem d0_125 : decode code 125 = .ok (.bastore, 1) := by decide +kernel
def B0_126_130 : List (Instr × Nat) := [(.dup, 1), (.iconst 4, 1), (.iload 8, 2)]
theorem B0_126_130d : own_d code 126 B0_126_130 130 = true := by decide +kernel
theorem d0_130 : decode code 130 = .ok (.bastore, 1) := by decide +kernel
def B0_131_135 : List (Instr × Nat) := [(.dup, 1), (.iconst 5, 1), (.iload 8, 2)]
theorem B0_131_135d : own_d code 131 B0_131_135 135 = true := by decide +kernel
theorem d0_135 : decode code 135 = .ok (.bastore, 1) := by decide +kernel
def B0_136_141 : List (Instr × Nat) := [(.dup, 1), (.bipush 6, 2), (.iload 8, 2)]
theorem B0_136_141d : own_d code 136 B0_136_141 141 = true := by decide +kernel
theorem d0_141 : decode code 141 = .ok (.bastore, 1) := by decide +kernel
def B0_142_147 : List (Instr × Nat) := [(.dup, 1), (.bipush 7, 2), (.iload 8, 2)]
theorem B0_142_147d : own_d code 142 B0_142_147 147 = true := by decide +kernel
theorem d0_147 : decode code 147 = .ok (.bastore, 1) := by decide +kernel
def B0_148_153 : List (Instr × Nat) := [(.dup, 1), (.bipush 8, 2), (.iload 8, 2)]
theorem B0_148_153d : own_d code 148 B0_148_153 153 = true := by decide +kernel
theorem d0_153 : decode code 153 = .ok (.bastore, 1) := by decide +kernel
def B0_154_159 : List (Instr × Nat) := [(.dup, 1), (.bipush 9, 2), (.iload 8, 2)]
theorem B0_154_159d : own_d code 154 B0_154_159 159 = true := by decide +kernel
theorem d0_159 : decode code 159 = .ok (.bastore, 1) := by decide +kernel
def B0_160_165 : List (Instr × Nat) := [(.dup, 1), (.bipush 10, 2), (.iload 8, 2)]
theorem B0_160_165d : own_d code 160 B0_160_165 165 = true := by decide +kernel
theorem d0_165 : decode code 165 = .ok (.bastore, 1) := by decide +kernel
def B0_166_171 : List (Instr × Nat) := [(.dup, 1), (.bipush 11, 2), (.iload 8, 2)]
theorem B0_166_171d : own_d code 166 B0_166_171 171 = true := by decide +kernel
theorem d0_171 : decode code 171 = .ok (.bastore, 1) := by decide +kernel
def B0_172_180 : List (Instr × Nat) := [(.astore 9, 2), (.iload 6, 2), (.aload 9, 2), (.iload 7, 2)]
theorem B0_172_180d : own_d code 172 B0_172_180 180 = true := by decide +kernel
theorem d0_180 : decode code 180 = .ok (.invokestatic 12, 3) := by decide +kernel
theorem pd1 : parseMethodDescriptor "(I[BI)I" = some ⟨[.int, (.array .byte), .int], some .int⟩ := by decide +kernel
def B0_183_190 : List (Instr × Nat) := [(.istore 10, 2), (.iload 6, 2), (.sipush 128, 3)]
theorem B0_183_190d : own_d code 183 B0_183_190 190 = true := by decide +kernel
theorem d0_190 : decode code 190 = .ok (.if_icmp .ge 7, 3) := by decide +kernel
def B0_197_202 : List (Instr × Nat) := [(.iload 6, 2), (.sipush 2048, 3)]
theorem B0_197_202d : own_d code 197 B0_197_202 202 = true := by decide +kernel
theorem d0_202 : decode code 202 = .ok (.if_icmp .ge 7, 3) := by decide +kernel
def B0_209_211 : List (Instr × Nat) := [(.iload 6, 2)]
theorem B0_209_211d : own_d code 209 B0_209_211 211 = true := by decide +kernel
theorem d0_211 : decode code 211 = .ok (.ldc 10, 2) := by decide +kernel
theorem d0_213 : decode code 213 = .ok (.if_icmp .ge 7, 3) := by decide +kernel
def B0_220_221 : List (Instr × Nat) := [(.iconst 4, 1)]
theorem B0_220_221d : own_d code 220 B0_220_221 221 = true := by decide +kernel
def B0_221_230 : List (Instr × Nat) := [(.istore 11, 2), (.iload 10, 2), (.iload 7, 2), (.iload 11, 2), (.iadd, 1)]
theorem B0_221_230d : own_d code 221 B0_221_230 230 = true := by decide +kernel
theorem d0_230 : decode code 230 = .ok (.if_icmp .eq 5, 3) := by decide +kernel
def B0_235_244 : List (Instr × Nat) := [(.aload 9, 2), (.iconst 0, 1), (.iload 7, 2), (.iload 10, 2), (.iload 8, 2)]
theorem B0_235_244d : own_d code 235 B0_235_244 244 = true := by decide +kernel
theorem d0_244 : decode code 244 = .ok (.invokestatic 18, 3) := by decide +kernel
theorem pd2 : parseMethodDescriptor "([BIIIB)Z" = some ⟨[(.array .byte), .int, .int, .int, .byte], some .boolean⟩ := by decide +kernel
theorem d0_247 : decode code 247 = .ok (.ifCond .eq 178, 3) := by decide +kernel
def B0_250_259 : List (Instr × Nat) := [(.aload 9, 2), (.iconst 1, 1), (.iload 7, 2), (.iload 10, 2), (.iload 8, 2)]
theorem B0_250_259d : own_d code 250 B0_250_259 259 = true := by decide +kernel
theorem d0_259 : decode code 259 = .ok (.invokestatic 18, 3) := by decide +kernel
theorem d0_262 : decode code 262 = .ok (.ifCond .eq 163, 3) := by decide +kernel
def B0_265_274 : List (Instr × Nat) := [(.aload 9, 2), (.iconst 2, 1), (.iload 7, 2), (.iload 10, 2), (.iload 8, 2)]
theorem B0_265_274d : own_d code 265 B0_265_274 274 = true := by decide +kernel
theorem d0_274 : decode code 274 = .ok (.invokestatic 18, 3) := by decide +kernel
theorem d0_277 : decode code 277 = .ok (.ifCond .eq 148, 3) := by decide +kernel
def B0_280_289 : List (Instr × Nat) := [(.aload 9, 2), (.iconst 3, 1), (.iload 7, 2), (.iload 10, 2), (.iload 8, 2)]
theorem B0_280_289d : own_d code 280 B0_280_289 289 = true := by decide +kernel
theorem d0_289 : decode code 289 = .ok (.invokestatic 18, 3) := by decide +kernel
theorem d0_292 : decode code 292 = .ok (.ifCond .eq 133, 3) := by decide +kernel
def B0_295_304 : List (Instr × Nat) := [(.aload 9, 2), (.iconst 4, 1), (.iload 7, 2), (.iload 10, 2), (.iload 8, 2)]
theorem B0_295_304d : own_d code 295 B0_295_304 304 = true := by decide +kernel
theorem d0_304 : decode code 304 = .ok (.invokestatic 18, 3) := by decide +kernel
theorem d0_307 : decode code 307 = .ok (.ifCond .eq 118, 3) := by decide +kernel
def B0_310_319 : List (Instr × Nat) := [(.aload 9, 2), (.iconst 5, 1), (.iload 7, 2), (.iload 10, 2), (.iload 8, 2)]
theorem B0_310_319d : own_d code 310 B0_310_319 319 = true := by decide +kernel
theorem d0_319 : decode code 319 = .ok (.invokestatic 18, 3) := by decide +kernel
theorem d0_322 : decode code 322 = .ok (.ifCond .eq 103, 3) := by decide +kernel
def B0_325_335 : List (Instr × Nat) := [(.aload 9, 2), (.bipush 6, 2), (.iload 7, 2), (.iload 10, 2), (.iload 8, 2)]
theorem B0_325_335d : own_d code 325 B0_325_335 335 = true := by decide +kernel
theorem d0_335 : decode code 335 = .ok (.invokestatic 18, 3) := by decide +kernel
theorem d0_338 : decode code 338 = .ok (.ifCond .eq 87, 3) := by decide +kernel
def B0_341_351 : List (Instr × Nat) := [(.aload 9, 2), (.bipush 7, 2), (.iload 7, 2), (.iload 10, 2), (.iload 8, 2)]
theorem B0_341_351d : own_d code 341 B0_341_351 351 = true := by decide +kernel
theorem d0_351 : decode code 351 = .ok (.invokestatic 18, 3) := by decide +kernel
theorem d0_354 : decode code 354 = .ok (.ifCond .eq 71, 3) := by decide +kernel
def B0_357_367 : List (Instr × Nat) := [(.aload 9, 2), (.bipush 8, 2), (.iload 7, 2), (.iload 10, 2), (.iload 8, 2)]
theorem B0_357_367d : own_d code 357 B0_357_367 367 = true := by decide +kernel
theorem d0_367 : decode code 367 = .ok (.invokestatic 18, 3) := by decide +kernel
theorem d0_370 : decode code 370 = .ok (.ifCond .eq 55, 3) := by decide +kernel
def B0_373_383 : List (Instr × Nat) := [(.aload 9, 2), (.bipush 9, 2), (.iload 7, 2), (.iload 10, 2), (.iload 8, 2)]
theorem B0_373_383d : own_d code 373 B0_373_383 383 = true := by decide +kernel
theorem d0_383 : decode code 383 = .ok (.invokestatic 18, 3) := by decide +kernel
theorem d0_386 : decode code 386 = .ok (.ifCond .eq 39, 3) := by decide +kernel
def B0_389_399 : List (Instr × Nat) := [(.aload 9, 2), (.bipush 10, 2), (.iload 7, 2), (.iload 10, 2), (.iload 8, 2)]
theorem B0_389_399d : own_d code 389 B0_389_399 399 = true := by decide +kernel
theorem d0_399 : decode code 399 = .ok (.invokestatic 18, 3) := by decide +kernel
theorem d0_402 : decode code 402 = .ok (.ifCond .eq 23, 3) := by decide +kernel
def B0_405_415 : List (Instr × Nat) := [(.aload 9, 2), (.bipush 11, 2), (.iload 7, 2), (.iload 10, 2), (.iload 8, 2)]
theorem B0_405_415d : own_d code 405 B0_405_415 415 = true := by decide +kernel
theorem d0_415 : decode code 415 = .ok (.invokestatic 18, 3) := by decide +kernel
theorem d0_418 : decode code 418 = .ok (.ifCond .eq 7, 3) := by decide +kernel
def B0_421_422 : List (Instr × Nat) := [(.iconst 1, 1)]
theorem B0_421_422d : own_d code 421 B0_421_422 422 = true := by decide +kernel
theorem d0_422 : decode code 422 = .ok (.goto 4, 3) := by decide +kernel
def B0_426_430 : List (Instr × Nat) := [(.istore 12, 2), (.iload 12, 2)]
theorem B0_426_430d : own_d code 426 B0_426_430 430 = true := by decide +kernel
theorem d0_430 : decode code 430 = .ok (.ifCond .ne 5, 3) := by decide +kernel
def B0_435_439 : List (Instr × Nat) := [(.aload 9, 2), (.iload 7, 2)]
theorem B0_435_439d : own_d code 435 B0_435_439 439 = true := by decide +kernel
theorem d0_439 : decode code 439 = .ok (.baload, 1) := by decide +kernel
def B0_440_446 : List (Instr × Nat) := [(.sipush 255, 3), (.iand, 1), (.istore 13, 2)]
theorem B0_440_446d : own_d code 440 B0_440_446 446 = true := by decide +kernel
def B0_446_449 : List (Instr × Nat) := [(.iload 11, 2), (.iconst 1, 1)]
theorem B0_446_449d : own_d code 446 B0_446_449 449 = true := by decide +kernel
theorem d0_449 : decode code 449 = .ok (.if_icmp .ne 16, 3) := by decide +kernel
def B0_465_471 : List (Instr × Nat) := [(.aload 9, 2), (.iload 7, 2), (.iconst 1, 1), (.iadd, 1)]
theorem B0_465_471d : own_d code 465 B0_465_471 471 = true := by decide +kernel
theorem d0_471 : decode code 471 = .ok (.baload, 1) := by decide +kernel
def B0_472_478 : List (Instr × Nat) := [(.sipush 255, 3), (.iand, 1), (.istore 14, 2)]
theorem B0_472_478d : own_d code 472 B0_472_478 478 = true := by decide +kernel
def B0_478_480 : List (Instr × Nat) := [(.iload 14, 2)]
theorem B0_478_480d : own_d code 478 B0_478_480 480 = true := by decide +kernel
theorem d0_480 : decode code 480 = .ok (.invokestatic 24, 3) := by decide +kernel
theorem pd3 : parseMethodDescriptor "(I)Z" = some ⟨[.int], some .boolean⟩ := by decide +kernel
theorem d0_483 : decode code 483 = .ok (.ifCond .ne 5, 3) := by decide +kernel
def B0_488_491 : List (Instr × Nat) := [(.iload 11, 2), (.iconst 2, 1)]
theorem B0_488_491d : own_d code 488 B0_488_491 491 = true := by decide +kernel
theorem d0_491 : decode code 491 = .ok (.if_icmp .ne 40, 3) := by decide +kernel
def B0_531_537 : List (Instr × Nat) := [(.aload 9, 2), (.iload 7, 2), (.iconst 2, 1), (.iadd, 1)]
theorem B0_531_537d : own_d code 531 B0_531_537 537 = true := by decide +kernel
theorem d0_537 : decode code 537 = .ok (.baload, 1) := by decide +kernel
def B0_538_544 : List (Instr × Nat) := [(.sipush 255, 3), (.iand, 1), (.istore 15, 2)]
theorem B0_538_544d : own_d code 538 B0_538_544 544 = true := by decide +kernel
def B0_544_546 : List (Instr × Nat) := [(.iload 15, 2)]
theorem B0_544_546d : own_d code 544 B0_544_546 546 = true := by decide +kernel
theorem d0_546 : decode code 546 = .ok (.invokestatic 24, 3) := by decide +kernel
theorem d0_549 : decode code 549 = .ok (.ifCond .ne 5, 3) := by decide +kernel
def B0_554_557 : List (Instr × Nat) := [(.iload 11, 2), (.iconst 3, 1)]
theorem B0_554_557d : own_d code 554 B0_554_557 557 = true := by decide +kernel
theorem d0_557 : decode code 557 = .ok (.if_icmp .ne 49, 3) := by decide +kernel
def B0_606_612 : List (Instr × Nat) := [(.aload 9, 2), (.iload 7, 2), (.iconst 3, 1), (.iadd, 1)]
theorem B0_606_612d : own_d code 606 B0_606_612 612 = true := by decide +kernel
theorem d0_612 : decode code 612 = .ok (.baload, 1) := by decide +kernel
def B0_613_619 : List (Instr × Nat) := [(.sipush 255, 3), (.iand, 1), (.istore 16, 2)]
theorem B0_613_619d : own_d code 613 B0_613_619 619 = true := by decide +kernel
def B0_619_621 : List (Instr × Nat) := [(.iload 16, 2)]
theorem B0_619_621d : own_d code 619 B0_619_621 621 = true := by decide +kernel
theorem d0_621 : decode code 621 = .ok (.invokestatic 24, 3) := by decide +kernel
theorem d0_624 : decode code 624 = .ok (.ifCond .ne 5, 3) := by decide +kernel
def B0_629_638 : List (Instr × Nat) := [(.iload 13, 2), (.sipush 248, 3), (.iand, 1), (.sipush 240, 3)]
theorem B0_629_638d : own_d code 629 B0_629_638 638 = true := by decide +kernel
theorem d0_638 : decode code 638 = .ok (.if_icmp .ne 44, 3) := by decide +kernel
def B0_641_675 : List (Instr × Nat) := [(.iload 6, 2), (.iload 13, 2), (.bipush 7, 2), (.iand, 1), (.bipush 64, 2), (.imul, 1), (.iload 14, 2), (.bipush 63, 2), (.iand, 1), (.iadd, 1), (.bipush 64, 2), (.imul, 1), (.iload 15, 2), (.bipush 63, 2), (.iand, 1), (.iadd, 1), (.bipush 64, 2), (.imul, 1), (.iload 16, 2), (.bipush 63, 2), (.iand, 1), (.iadd, 1)]
theorem B0_641_675d : own_d code 641 B0_641_675 675 = true := by decide +kernel
theorem d0_675 : decode code 675 = .ok (.if_icmp .ne 7, 3) := by decide +kernel
def B0_678_679 : List (Instr × Nat) := [(.iconst 1, 1)]
theorem B0_678_679d : own_d code 678 B0_678_679 679 = true := by decide +kernel
theorem d0_679 : decode code 679 = .ok (.goto 4, 3) := by decide +kernel
theorem d0_683 : decode code 683 = .ok (.ireturn, 1) := by decide +kernel
def B0_216_217 : List (Instr × Nat) := [(.iconst 3, 1)]
theorem B0_216_217d : own_d code 216 B0_216_217 217 = true := by decide +kernel
theorem d0_217 : decode code 217 = .ok (.goto 4, 3) := by decide +kernel
def B0_560_569 : List (Instr × Nat) := [(.iload 13, 2), (.sipush 240, 3), (.iand, 1), (.sipush 224, 3)]
theorem B0_560_569d : own_d code 560 B0_560_569 569 = true := by decide +kernel
theorem d0_569 : decode code 569 = .ok (.if_icmp .ne 35, 3) := by decide +kernel
def B0_572_597 : List (Instr × Nat) := [(.iload 6, 2), (.iload 13, 2), (.bipush 15, 2), (.iand, 1), (.bipush 64, 2), (.imul, 1), (.iload 14, 2), (.bipush 63, 2), (.iand, 1), (.iadd, 1), (.bipush 64, 2), (.imul, 1), (.iload 15, 2), (.bipush 63, 2), (.iand, 1), (.iadd, 1)]
theorem B0_572_597d : own_d code 572 B0_572_597 597 = true := by decide +kernel
theorem d0_597 : decode code 597 = .ok (.if_icmp .ne 7, 3) := by decide +kernel
def B0_600_601 : List (Instr × Nat) := [(.iconst 1, 1)]
theorem B0_600_601d : own_d code 600 B0_600_601 601 = true := by decide +kernel
theorem d0_601 : decode code 601 = .ok (.goto 4, 3) := by decide +kernel
theorem d0_605 : decode code 605 = .ok (.ireturn, 1) := by decide +kernel
def B0_205_206 : List (Instr × Nat) := [(.iconst 2, 1)]
theorem B0_205_206d : own_d code 205 B0_205_206 206 = true := by decide +kernel
theorem d0_206 : decode code 206 = .ok (.goto 15, 3) := by decide +kernel
def B0_494_503 : List (Instr × Nat) := [(.iload 13, 2), (.sipush 224, 3), (.iand, 1), (.sipush 192, 3)]
theorem B0_494_503d : own_d code 494 B0_494_503 503 = true := by decide +kernel
theorem d0_503 : decode code 503 = .ok (.if_icmp .ne 26, 3) := by decide +kernel
def B0_506_522 : List (Instr × Nat) := [(.iload 6, 2), (.iload 13, 2), (.bipush 31, 2), (.iand, 1), (.bipush 64, 2), (.imul, 1), (.iload 14, 2), (.bipush 63, 2), (.iand, 1), (.iadd, 1)]
theorem B0_506_522d : own_d code 506 B0_506_522 522 = true := by decide +kernel
theorem d0_522 : decode code 522 = .ok (.if_icmp .ne 7, 3) := by decide +kernel
def B0_525_526 : List (Instr × Nat) := [(.iconst 1, 1)]
theorem B0_525_526d : own_d code 525 B0_525_526 526 = true := by decide +kernel
theorem d0_526 : decode code 526 = .ok (.goto 4, 3) := by decide +kernel
theorem d0_530 : decode code 530 = .ok (.ireturn, 1) := by decide +kernel
def B0_193_194 : List (Instr × Nat) := [(.iconst 1, 1)]
theorem B0_193_194d : own_d code 193 B0_193_194 194 = true := by decide +kernel
theorem d0_194 : decode code 194 = .ok (.goto 27, 3) := by decide +kernel
def B0_452_456 : List (Instr × Nat) := [(.iload 13, 2), (.iload 6, 2)]
theorem B0_452_456d : own_d code 452 B0_452_456 456 = true := by decide +kernel
theorem d0_456 : decode code 456 = .ok (.if_icmp .ne 7, 3) := by decide +kernel
def B0_459_460 : List (Instr × Nat) := [(.iconst 1, 1)]
theorem B0_459_460d : own_d code 459 B0_459_460 460 = true := by decide +kernel
theorem d0_460 : decode code 460 = .ok (.goto 4, 3) := by decide +kernel
theorem d0_464 : decode code 464 = .ok (.ireturn, 1) := by decide +kernel
def B0_11_13 : List (Instr × Nat) := [(.iload 5, 2)]
theorem B0_11_13d : own_d code 11 B0_11_13 13 = true := by decide +kernel
theorem d0_13 : decode code 13 = .ok (.ifCond .ne 13, 3) := by decide +kernel
def B0_26_29 : List (Instr × Nat) := [(.iload 5, 2), (.iconst 1, 1)]
theorem B0_26_29d : own_d code 26 B0_26_29 29 = true := by decide +kernel
theorem d0_29 : decode code 29 = .ok (.if_icmp .ne 18, 3) := by decide +kernel
def B0_47_50 : List (Instr × Nat) := [(.iload 5, 2), (.iconst 2, 1)]
theorem B0_47_50d : own_d code 47 B0_47_50 50 = true := by decide +kernel
theorem d0_50 : decode code 50 = .ok (.if_icmp .ne 32, 3) := by decide +kernel
theorem d0_82 : decode code 82 = .ok (.ldc 10, 2) := by decide +kernel
def B0_84_86 : List (Instr × Nat) := [(.iload 4, 2)]
theorem B0_84_86d : own_d code 84 B0_84_86 86 = true := by decide +kernel
theorem d0_86 : decode code 86 = .ok (.ldc 11, 2) := by decide +kernel
theorem d0_88 : decode code 88 = .ok (.irem, 1) := by decide +kernel
def B0_89_92 : List (Instr × Nat) := [(.iadd, 1), (.istore 6, 2)]
theorem B0_89_92d : own_d code 89 B0_89_92 92 = true := by decide +kernel
def B0_53_58 : List (Instr × Nat) := [(.sipush 2048, 3), (.iload 4, 2)]
theorem B0_53_58d : own_d code 53 B0_53_58 58 = true := by decide +kernel
theorem d0_58 : decode code 58 = .ok (.ldc 8, 2) := by decide +kernel
theorem d0_60 : decode code 60 = .ok (.irem, 1) := by decide +kernel
def B0_61_66 : List (Instr × Nat) := [(.iadd, 1), (.istore 6, 2), (.iload 6, 2)]
theorem B0_61_66d : own_d code 61 B0_61_66 66 = true := by decide +kernel
theorem d0_66 : decode code 66 = .ok (.ldc 9, 2) := by decide +kernel
theorem d0_68 : decode code 68 = .ok (.if_icmp .lt 24, 3) := by decide +kernel
def B0_71_79 : List (Instr × Nat) := [(.iload 6, 2), (.sipush 2048, 3), (.iadd, 1), (.istore 6, 2)]
theorem B0_71_79d : own_d code 71 B0_71_79 79 = true := by decide +kernel
theorem d0_79 : decode code 79 = .ok (.goto 13, 3) := by decide +kernel
def B0_32_40 : List (Instr × Nat) := [(.sipush 128, 3), (.iload 4, 2), (.sipush 1920, 3)]
theorem B0_32_40d : own_d code 32 B0_32_40 40 = true := by decide +kernel
theorem d0_40 : decode code 40 = .ok (.irem, 1) := by decide +kernel
def B0_41_44 : List (Instr × Nat) := [(.iadd, 1), (.istore 6, 2)]
theorem B0_41_44d : own_d code 41 B0_41_44 44 = true := by decide +kernel
theorem d0_44 : decode code 44 = .ok (.goto 48, 3) := by decide +kernel
def B0_16_23 : List (Instr × Nat) := [(.iload 4, 2), (.bipush 127, 2), (.iand, 1), (.istore 6, 2)]
theorem B0_16_23d : own_d code 16 B0_16_23 23 = true := by decide +kernel
theorem d0_23 : decode code 23 = .ok (.goto 69, 3) := by decide +kernel
set_option maxRecDepth 65536 in
set_option maxHeartbeats 40000000 in
theorem c_law (l : Launch) (Z : State) (a0 : Array Value) (hw : ∀ d ∈ tables_1, d.before a0 Z = true) (z0 : Int32) (z1 : Int32) (z2 : Int32) (z3 : Int32) (h0 : Heap) (n0 : Nat) (Z0 : n0 ≤ h0.size)  :
    own_C l Z x code maxLocals ret room_1 #[(.int z0), (.int z1), (.int z2), (.int z3)] h0 n0 (fun v h => v = some (.int 1)) := by
  refine own_body pl0 Z0 (ls := #[.val (.int z0), .val (.int z1), .val (.int z2), .val (.int z3), .unset, .unset, .unset, .unset, .unset, .unset, .unset, .unset, .unset, .unset, .unset, .unset, .unset]) (fun m => by first | (simp [entryFrame, mkF, argsToLocals, Value.category, maxLocals]; done) | rfl) ?_
  intro p e s m below meth c T0 X0
  refine own_blk X0 B0_0_1 B0_0_1d (ls' := #[.val (.int z0), .val (.int z1), .val (.int z2), .val (.int z3), .unset, .unset, .unset, .unset, .unset, .unset, .unset, .unset, .unset, .unset, .unset, .unset, .unset]) (st' := [(.int z1)]) rfl ?_
  refine own_ldc X0 (hw _ (List.mem_of_getElem? (i := 0) rfl)) d0_1 ?_
  refine own_blk X0 B0_3_11 B0_3_11d (ls' := #[.val (.int z0), .val (.int z1), .val (.int z2), .val (.int z3), .val (.int (z1 &&& (2147483647 : Int32))), .val (.int (z0 &&& (3 : Int32))), .unset, .unset, .unset, .unset, .unset, .unset, .unset, .unset, .unset, .unset, .unset]) (st' := []) rfl ?_
  generalize enn : (z1 &&& (2147483647 : Int32)) = nn
  generalize ekk : (z0 &&& (3 : Int32)) = kk
  have hnn : 0 ≤ nn.toInt := by rw [← enn, own_mask _ _ 31 (by decide) (by decide)]; omega
  have J92 : ∀ cp : Int32, 0 ≤ cp.toInt → cp.toInt < 1114112 → own_G p e below (T0.setTop (mkF m 92 #[.val (.int z0), .val (.int z1), .val (.int z2), .val (.int z3), .val (.int nn), .val (.int kk), .val (.int cp), .unset, .unset, .unset, .unset, .unset, .unset, .unset, .unset, .unset, .unset] [])) (own_E s n0 (fun v h => v = some (.int 1)) room_1.cells room_1.slots) := by
    intro cp hc0 hc1
    refine own_blk X0 B0_92_102 B0_92_102d (ls' := #[.val (.int z0), .val (.int z1), .val (.int z2), .val (.int z3), .val (.int nn), .val (.int kk), .val (.int cp), .val (.int (z2 &&& (7 : Int32))), .val (.int (own_i2b z3)), .unset, .unset, .unset, .unset, .unset, .unset, .unset, .unset]) (st' := []) rfl ?_
    generalize eq : (z2 &&& (7 : Int32)) = q
    generalize ef : (own_i2b z3) = f
    have hq : 0 ≤ q.toInt ∧ q.toInt ≤ 7 := by rw [← eq, own_mask _ 7 3 (by decide) (by decide)]; omega
    have hf8 : f.toInt8.toInt32 = f := by rw [← ef]; exact own_i2b_fix _
    have i1 : (q + (1 : Int32)).toInt = q.toInt + 1 := own_addc rfl (by omega) (by omega)
    have i2 : (q + (2 : Int32)).toInt = q.toInt + 2 := own_addc rfl (by omega) (by omega)
    have i3 : (q + (3 : Int32)).toInt = q.toInt + 3 := own_addc rfl (by omega) (by omega)
    have i4 : (q + (4 : Int32)).toInt = q.toInt + 4 := own_addc rfl (by omega) (by omega)
    refine own_blk X0 B0_102_104 B0_102_104d (ls' := #[.val (.int z0), .val (.int z1), .val (.int z2), .val (.int z3), .val (.int nn), .val (.int kk), .val (.int cp), .val (.int q), .val (.int f), .unset, .unset, .unset, .unset, .unset, .unset, .unset, .unset]) (st' := [(.int (12 : Int32))]) rfl ?_
    refine own_newI X0 (hw _ (List.mem_of_getElem? (i := 1) rfl)) rfl d0_104 (by decide) 12 (by decide) (by decide) (by decide) (by decide) (fun h1 T1 X1 E1 A1 => ?_)
    have n_b : n0 ≤ h0.size := X0.2.1
    have A1 : own_I Z h1 h0.size .byte 12 (fun _ => (0 : Int32)) := A1
    generalize ez_b : h0.size = b at A1 n_b ⊢
    show own_G p e below (T1.setTop (mkF m 106 #[.val (.int z0), .val (.int z1), .val (.int z2), .val (.int z3), .val (.int nn), .val (.int kk), .val (.int cp), .val (.int q), .val (.int f), .unset, .unset, .unset, .unset, .unset, .unset, .unset, .unset] [(.ref b)])) _
    refine own_blk X1 B0_106_110 B0_106_110d (ls' := #[.val (.int z0), .val (.int z1), .val (.int z2), .val (.int z3), .val (.int nn), .val (.int kk), .val (.int cp), .val (.int q), .val (.int f), .unset, .unset, .unset, .unset, .unset, .unset, .unset, .unset]) (st' := [(.int f), (.int (0 : Int32)), (.ref b), (.ref b)]) rfl ?_
    refine own_bast X1 A1 n_b d0_110 (by decide) (by decide) hf8 (fun h2 T2 X2 A2 W2 => ?_)
    have A2 : own_I Z h2 b .byte 12 (own_u (fun _ => (0 : Int32)) (0) f) := A2
    generalize eg2 : own_u (fun _ => (0 : Int32)) (0) f = g2 at A2
    refine own_blk X2 B0_111_115 B0_111_115d (ls' := #[.val (.int z0), .val (.int z1), .val (.int z2), .val (.int z3), .val (.int nn), .val (.int kk), .val (.int cp), .val (.int q), .val (.int f), .unset, .unset, .unset, .unset, .unset, .unset, .unset, .unset]) (st' := [(.int f), (.int (1 : Int32)), (.ref b), (.ref b)]) rfl ?_
    refine own_bast X2 A2 n_b d0_115 (by decide) (by decide) hf8 (fun h3 T3 X3 A3 W3 => ?_)
    have A3 : own_I Z h3 b .byte 12 (own_u g2 (1) f) := A3
    generalize eg3 : own_u g2 (1) f = g3 at A3
    refine own_blk X3 B0_116_120 B0_116_120d (ls' := #[.val (.int z0), .val (.int z1), .val (.int z2), .val (.int z3), .val (.int nn), .val (.int kk), .val (.int cp), .val (.int q), .val (.int f), .unset, .unset, .unset, .unset, .unset, .unset, .unset, .unset]) (st' := [(.int f), (.int (2 : Int32)), (.ref b), (.ref b)]) rfl ?_
    refine own_bast X3 A3 n_b d0_120 (by decide) (by decide) hf8 (fun h4 T4 X4 A4 W4 => ?_)
    have A4 : own_I Z h4 b .byte 12 (own_u g3 (2) f) := A4
    generalize eg4 : own_u g3 (2) f = g4 at A4
    refine own_blk X4 B0_121_125 B0_121_125d (ls' := #[.val (.int z0), .val (.int z1), .val (.int z2), .val (.int z3), .val (.int nn), .val (.int kk), .val (.int cp), .val (.int q), .val (.int f), .unset, .unset, .unset, .unset, .unset, .unset, .unset, .unset]) (st' := [(.int f), (.int (3 : Int32)), (.ref b), (.ref b)]) rfl ?_
    refine own_bast X4 A4 n_b d0_125 (by decide) (by decide) hf8 (fun h5 T5 X5 A5 W5 => ?_)
    have A5 : own_I Z h5 b .byte 12 (own_u g4 (3) f) := A5
    generalize eg5 : own_u g4 (3) f = g5 at A5
    refine own_blk X5 B0_126_130 B0_126_130d (ls' := #[.val (.int z0), .val (.int z1), .val (.int z2), .val (.int z3), .val (.int nn), .val (.int kk), .val (.int cp), .val (.int q), .val (.int f), .unset, .unset, .unset, .unset, .unset, .unset, .unset, .unset]) (st' := [(.int f), (.int (4 : Int32)), (.ref b), (.ref b)]) rfl ?_
    refine own_bast X5 A5 n_b d0_130 (by decide) (by decide) hf8 (fun h6 T6 X6 A6 W6 => ?_)
    have A6 : own_I Z h6 b .byte 12 (own_u g5 (4) f) := A6
    generalize eg6 : own_u g5 (4) f = g6 at A6
    refine own_blk X6 B0_131_135 B0_131_135d (ls' := #[.val (.int z0), .val (.int z1), .val (.int z2), .val (.int z3), .val (.int nn), .val (.int kk), .val (.int cp), .val (.int q), .val (.int f), .unset, .unset, .unset, .unset, .unset, .unset, .unset, .unset]) (st' := [(.int f), (.int (5 : Int32)), (.ref b), (.ref b)]) rfl ?_
    refine own_bast X6 A6 n_b d0_135 (by decide) (by decide) hf8 (fun h7 T7 X7 A7 W7 => ?_)
    have A7 : own_I Z h7 b .byte 12 (own_u g6 (5) f) := A7
    generalize eg7 : own_u g6 (5) f = g7 at A7
    refine own_blk X7 B0_136_141 B0_136_141d (ls' := #[.val (.int z0), .val (.int z1), .val (.int z2), .val (.int z3), .val (.int nn), .val (.int kk), .val (.int cp), .val (.int q), .val (.int f), .unset, .unset, .unset, .unset, .unset, .unset, .unset, .unset]) (st' := [(.int f), (.int (6 : Int32)), (.ref b), (.ref b)]) rfl ?_
    refine own_bast X7 A7 n_b d0_141 (by decide) (by decide) hf8 (fun h8 T8 X8 A8 W8 => ?_)
    have A8 : own_I Z h8 b .byte 12 (own_u g7 (6) f) := A8
    generalize eg8 : own_u g7 (6) f = g8 at A8
    refine own_blk X8 B0_142_147 B0_142_147d (ls' := #[.val (.int z0), .val (.int z1), .val (.int z2), .val (.int z3), .val (.int nn), .val (.int kk), .val (.int cp), .val (.int q), .val (.int f), .unset, .unset, .unset, .unset, .unset, .unset, .unset, .unset]) (st' := [(.int f), (.int (7 : Int32)), (.ref b), (.ref b)]) rfl ?_
    refine own_bast X8 A8 n_b d0_147 (by decide) (by decide) hf8 (fun h9 T9 X9 A9 W9 => ?_)
    have A9 : own_I Z h9 b .byte 12 (own_u g8 (7) f) := A9
    generalize eg9 : own_u g8 (7) f = g9 at A9
    refine own_blk X9 B0_148_153 B0_148_153d (ls' := #[.val (.int z0), .val (.int z1), .val (.int z2), .val (.int z3), .val (.int nn), .val (.int kk), .val (.int cp), .val (.int q), .val (.int f), .unset, .unset, .unset, .unset, .unset, .unset, .unset, .unset]) (st' := [(.int f), (.int (8 : Int32)), (.ref b), (.ref b)]) rfl ?_
    refine own_bast X9 A9 n_b d0_153 (by decide) (by decide) hf8 (fun h10 T10 X10 A10 W10 => ?_)
    have A10 : own_I Z h10 b .byte 12 (own_u g9 (8) f) := A10
    generalize eg10 : own_u g9 (8) f = g10 at A10
    refine own_blk X10 B0_154_159 B0_154_159d (ls' := #[.val (.int z0), .val (.int z1), .val (.int z2), .val (.int z3), .val (.int nn), .val (.int kk), .val (.int cp), .val (.int q), .val (.int f), .unset, .unset, .unset, .unset, .unset, .unset, .unset, .unset]) (st' := [(.int f), (.int (9 : Int32)), (.ref b), (.ref b)]) rfl ?_
    refine own_bast X10 A10 n_b d0_159 (by decide) (by decide) hf8 (fun h11 T11 X11 A11 W11 => ?_)
    have A11 : own_I Z h11 b .byte 12 (own_u g10 (9) f) := A11
    generalize eg11 : own_u g10 (9) f = g11 at A11
    refine own_blk X11 B0_160_165 B0_160_165d (ls' := #[.val (.int z0), .val (.int z1), .val (.int z2), .val (.int z3), .val (.int nn), .val (.int kk), .val (.int cp), .val (.int q), .val (.int f), .unset, .unset, .unset, .unset, .unset, .unset, .unset, .unset]) (st' := [(.int f), (.int (10 : Int32)), (.ref b), (.ref b)]) rfl ?_
    refine own_bast X11 A11 n_b d0_165 (by decide) (by decide) hf8 (fun h12 T12 X12 A12 W12 => ?_)
    have A12 : own_I Z h12 b .byte 12 (own_u g11 (10) f) := A12
    generalize eg12 : own_u g11 (10) f = g12 at A12
    refine own_blk X12 B0_166_171 B0_166_171d (ls' := #[.val (.int z0), .val (.int z1), .val (.int z2), .val (.int z3), .val (.int nn), .val (.int kk), .val (.int cp), .val (.int q), .val (.int f), .unset, .unset, .unset, .unset, .unset, .unset, .unset, .unset]) (st' := [(.int f), (.int (11 : Int32)), (.ref b), (.ref b)]) rfl ?_
    refine own_bast X12 A12 n_b d0_171 (by decide) (by decide) hf8 (fun h13 T13 X13 A13 W13 => ?_)
    have A13 : own_I Z h13 b .byte 12 (own_u g12 (11) f) := A13
    generalize eg13 : own_u g12 (11) f = g13 at A13
    have A14 : own_I Z h13 b .byte 12 (fun _ => f) := own_I_eq A13 (fun j h0 h1 => by
      show f = g13 j
      rw [← eg13]
      by_cases e0 : j = 11
      · rw [own_u_eq e0]
      rw [own_u_ne e0]
      rw [← eg12]
      by_cases e1 : j = 10
      · rw [own_u_eq e1]
      rw [own_u_ne e1]
      rw [← eg11]
      by_cases e2 : j = 9
      · rw [own_u_eq e2]
      rw [own_u_ne e2]
      rw [← eg10]
      by_cases e3 : j = 8
      · rw [own_u_eq e3]
      rw [own_u_ne e3]
      rw [← eg9]
      by_cases e4 : j = 7
      · rw [own_u_eq e4]
      rw [own_u_ne e4]
      rw [← eg8]
      by_cases e5 : j = 6
      · rw [own_u_eq e5]
      rw [own_u_ne e5]
      rw [← eg7]
      by_cases e6 : j = 5
      · rw [own_u_eq e6]
      rw [own_u_ne e6]
      rw [← eg6]
      by_cases e7 : j = 4
      · rw [own_u_eq e7]
      rw [own_u_ne e7]
      rw [← eg5]
      by_cases e8 : j = 3
      · rw [own_u_eq e8]
      rw [own_u_ne e8]
      rw [← eg4]
      by_cases e9 : j = 2
      · rw [own_u_eq e9]
      rw [own_u_ne e9]
      rw [← eg3]
      by_cases e10 : j = 1
      · rw [own_u_eq e10]
      rw [own_u_ne e10]
      rw [← eg2]
      by_cases e11 : j = 0
      · rw [own_u_eq e11]
      rw [own_u_ne e11]
      omega)
    refine own_blk X13 B0_172_180 B0_172_180d (ls' := #[.val (.int z0), .val (.int z1), .val (.int z2), .val (.int z3), .val (.int nn), .val (.int kk), .val (.int cp), .val (.int q), .val (.int f), .val (.ref b), .unset, .unset, .unset, .unset, .unset, .unset, .unset]) (st' := [(.int q), (.ref b), (.int cp)]) rfl ?_
    refine own_callS X13 (hw _ (List.mem_of_getElem? (i := 2) rfl)) (hw _ (List.mem_of_getElem? (i := 3) rfl)) (hw _ (List.mem_of_getElem? (i := 4) rfl)) (hw _ (List.mem_of_getElem? (i := 5) rfl)) (by decide) (c_enc l Z a0 hw cp b q (fun _ => f) h13 n0 X13.2.1 n_b A14 hq) d0_180 [(.int cp), (.ref b), (.int q)] [] rfl rfl pd1 rfl rfl (by decide) (Nat.le_of_ble_eq_true rfl) (by decide) (by decide) (fun _ _ q => q.2.1) (fun v15 h15 T15 X15 q15 => ?_)
    obtain ⟨rfl, _, A15⟩ := q15
    show own_G p e below (T15.setTop (mkF m 183 #[.val (.int z0), .val (.int z1), .val (.int z2), .val (.int z3), .val (.int nn), .val (.int kk), .val (.int cp), .val (.int q), .val (.int f), .val (.ref b), .unset, .unset, .unset, .unset, .unset, .unset, .unset] [(.int (own_end cp q))])) _
    refine own_blk X15 B0_183_190 B0_183_190d (ls' := #[.val (.int z0), .val (.int z1), .val (.int z2), .val (.int z3), .val (.int nn), .val (.int kk), .val (.int cp), .val (.int q), .val (.int f), .val (.ref b), .val (.int (own_end cp q)), .unset, .unset, .unset, .unset, .unset, .unset]) (st' := [(.int (128 : Int32)), (.int cp)]) rfl ?_
    refine own_icmp X15 d0_190 (pc' := 197) (by decide) (fun c190 => ?_) (fun c190 => ?_)
    · have c190 : 128 ≤ cp.toInt := c190
      refine own_blk X15 B0_197_202 B0_197_202d (ls' := #[.val (.int z0), .val (.int z1), .val (.int z2), .val (.int z3), .val (.int nn), .val (.int kk), .val (.int cp), .val (.int q), .val (.int f), .val (.ref b), .val (.int (own_end cp q)), .unset, .unset, .unset, .unset, .unset, .unset]) (st' := [(.int (2048 : Int32)), (.int cp)]) rfl ?_
      refine own_icmp X15 d0_202 (pc' := 209) (by decide) (fun c202 => ?_) (fun c202 => ?_)
      · have c202 : 2048 ≤ cp.toInt := c202
        refine own_blk X15 B0_209_211 B0_209_211d (ls' := #[.val (.int z0), .val (.int z1), .val (.int z2), .val (.int z3), .val (.int nn), .val (.int kk), .val (.int cp), .val (.int q), .val (.int f), .val (.ref b), .val (.int (own_end cp q)), .unset, .unset, .unset, .unset, .unset, .unset]) (st' := [(.int cp)]) rfl ?_
        refine own_ldc X15 (hw _ (List.mem_of_getElem? (i := 10) rfl)) d0_211 ?_
        refine own_icmp X15 d0_213 (pc' := 220) (by decide) (fun c213 => ?_) (fun c213 => ?_)
        · have c213 : 65536 ≤ cp.toInt := c213
          refine own_blk X15 B0_220_221 B0_220_221d (ls' := #[.val (.int z0), .val (.int z1), .val (.int z2), .val (.int z3), .val (.int nn), .val (.int kk), .val (.int cp), .val (.int q), .val (.int f), .val (.ref b), .val (.int (own_end cp q)), .unset, .unset, .unset, .unset, .unset, .unset]) (st' := [(.int (4 : Int32))]) rfl ?_
          have A16 : own_I Z h15 b .byte 12 (own_u (own_u (own_u (own_u (fun _ => f) (q.toInt) (own_i2b (240 ||| own_ishr cp 18))) (q.toInt + 1) (own_i2b (128 ||| (own_ishr cp 12 &&& 63)))) (q.toInt + 2) (own_i2b (128 ||| (own_ishr cp 6 &&& 63)))) (q.toInt + 3) (own_i2b (128 ||| (cp &&& 63)))) := by have q1 := A15; rw [own_enc, if_neg (by omega), if_neg (by omega), if_neg (by omega)] at q1; exact q1
          have hend : own_end cp q = q + (4 : Int32) := by rw [own_end, if_neg (by omega), if_neg (by omega), if_neg (by omega)]
          rw [hend]
          generalize eG : (own_u (own_u (own_u (own_u (fun _ => f) (q.toInt) (own_i2b (240 ||| own_ishr cp 18))) (q.toInt + 1) (own_i2b (128 ||| (own_ishr cp 12 &&& 63)))) (q.toInt + 2) (own_i2b (128 ||| (own_ishr cp 6 &&& 63)))) (q.toInt + 3) (own_i2b (128 ||| (cp &&& 63)))) = G at A16
          have r0 : G (q.toInt) = own_i2b (240 ||| own_ishr cp 18) := by rw [← eG, own_u_ne (by omega), own_u_ne (by omega), own_u_ne (by omega), own_u_eq (by omega)]
          have r1 : G (q.toInt + 1) = own_i2b (128 ||| (own_ishr cp 12 &&& 63)) := by rw [← eG, own_u_ne (by omega), own_u_ne (by omega), own_u_eq (by omega)]
          have r2 : G (q.toInt + 2) = own_i2b (128 ||| (own_ishr cp 6 &&& 63)) := by rw [← eG, own_u_ne (by omega), own_u_eq (by omega)]
          have r3 : G (q.toInt + 3) = own_i2b (128 ||| (cp &&& 63)) := by rw [← eG, own_u_eq (by omega)]
          have ro : ∀ j : Int, ¬ (q.toInt ≤ j ∧ j < q.toInt + 4) → G j = f := by intro j hj; rw [← eG, own_u_ne (by omega), own_u_ne (by omega), own_u_ne (by omega), own_u_ne (by omega)]
          refine own_blk X15 B0_221_230 B0_221_230d (ls' := #[.val (.int z0), .val (.int z1), .val (.int z2), .val (.int z3), .val (.int nn), .val (.int kk), .val (.int cp), .val (.int q), .val (.int f), .val (.ref b), .val (.int (q + (4 : Int32))), .val (.int (4 : Int32)), .unset, .unset, .unset, .unset, .unset]) (st' := [(.int (q + (4 : Int32))), (.int (q + (4 : Int32)))]) rfl ?_
          refine own_icmp X15 d0_230 (pc' := 235) (by decide) (fun c230 => ?_) (fun (c230 : ¬ ((q + (4 : Int32)).toInt = (q + (4 : Int32)).toInt)) => by exfalso; exact c230 rfl)
          have c230 : (q + (4 : Int32)).toInt = (q + (4 : Int32)).toInt := c230
          refine own_blk X15 B0_235_244 B0_235_244d (ls' := #[.val (.int z0), .val (.int z1), .val (.int z2), .val (.int z3), .val (.int nn), .val (.int kk), .val (.int cp), .val (.int q), .val (.int f), .val (.ref b), .val (.int (q + (4 : Int32))), .val (.int (4 : Int32)), .unset, .unset, .unset, .unset, .unset]) (st' := [(.int f), (.int (q + (4 : Int32))), (.int q), (.int (0 : Int32)), (.ref b)]) rfl ?_
          refine own_callP X15 (hw _ (List.mem_of_getElem? (i := 6) rfl)) (hw _ (List.mem_of_getElem? (i := 7) rfl)) (hw _ (List.mem_of_getElem? (i := 8) rfl)) (hw _ (List.mem_of_getElem? (i := 9) rfl)) (by decide) (c_kept l Z a0 hw b (0 : Int32) q (q + (4 : Int32)) f G h15 n0 X15.2.1 A16 (by decide) (fun q1 => ro _ (fun q2 => q1 (by rw [i4]; exact q2)))) d0_244 [(.ref b), (.int (0 : Int32)), (.int q), (.int (q + (4 : Int32))), (.int f)] [] rfl rfl pd2 rfl rfl (by decide) (Nat.le_of_ble_eq_true rfl) (by decide) (by decide) (fun T17 X17 => ?_)
          show own_G p e below (T17.setTop (mkF m 247 #[.val (.int z0), .val (.int z1), .val (.int z2), .val (.int z3), .val (.int nn), .val (.int kk), .val (.int cp), .val (.int q), .val (.int f), .val (.ref b), .val (.int (q + (4 : Int32))), .val (.int (4 : Int32)), .unset, .unset, .unset, .unset, .unset] [(.int (1 : Int32))])) _
          refine own_if X17 d0_247 (pc' := 425) (by decide) (fun (c247 : (1 : Int) = 0) => by exfalso; omega) (fun c247 => ?_)
          have c247 : ¬ ((1 : Int) = 0) := c247
          refine own_blk X17 B0_250_259 B0_250_259d (ls' := #[.val (.int z0), .val (.int z1), .val (.int z2), .val (.int z3), .val (.int nn), .val (.int kk), .val (.int cp), .val (.int q), .val (.int f), .val (.ref b), .val (.int (q + (4 : Int32))), .val (.int (4 : Int32)), .unset, .unset, .unset, .unset, .unset]) (st' := [(.int f), (.int (q + (4 : Int32))), (.int q), (.int (1 : Int32)), (.ref b)]) rfl ?_
          refine own_callP X17 (hw _ (List.mem_of_getElem? (i := 6) rfl)) (hw _ (List.mem_of_getElem? (i := 7) rfl)) (hw _ (List.mem_of_getElem? (i := 8) rfl)) (hw _ (List.mem_of_getElem? (i := 9) rfl)) (by decide) (c_kept l Z a0 hw b (1 : Int32) q (q + (4 : Int32)) f G h15 n0 X17.2.1 A16 (by decide) (fun q1 => ro _ (fun q2 => q1 (by rw [i4]; exact q2)))) d0_259 [(.ref b), (.int (1 : Int32)), (.int q), (.int (q + (4 : Int32))), (.int f)] [] rfl rfl pd2 rfl rfl (by decide) (Nat.le_of_ble_eq_true rfl) (by decide) (by decide) (fun T18 X18 => ?_)
          show own_G p e below (T18.setTop (mkF m 262 #[.val (.int z0), .val (.int z1), .val (.int z2), .val (.int z3), .val (.int nn), .val (.int kk), .val (.int cp), .val (.int q), .val (.int f), .val (.ref b), .val (.int (q + (4 : Int32))), .val (.int (4 : Int32)), .unset, .unset, .unset, .unset, .unset] [(.int (1 : Int32))])) _
          refine own_if X18 d0_262 (pc' := 425) (by decide) (fun (c262 : (1 : Int) = 0) => by exfalso; omega) (fun c262 => ?_)
          have c262 : ¬ ((1 : Int) = 0) := c262
          refine own_blk X18 B0_265_274 B0_265_274d (ls' := #[.val (.int z0), .val (.int z1), .val (.int z2), .val (.int z3), .val (.int nn), .val (.int kk), .val (.int cp), .val (.int q), .val (.int f), .val (.ref b), .val (.int (q + (4 : Int32))), .val (.int (4 : Int32)), .unset, .unset, .unset, .unset, .unset]) (st' := [(.int f), (.int (q + (4 : Int32))), (.int q), (.int (2 : Int32)), (.ref b)]) rfl ?_
          refine own_callP X18 (hw _ (List.mem_of_getElem? (i := 6) rfl)) (hw _ (List.mem_of_getElem? (i := 7) rfl)) (hw _ (List.mem_of_getElem? (i := 8) rfl)) (hw _ (List.mem_of_getElem? (i := 9) rfl)) (by decide) (c_kept l Z a0 hw b (2 : Int32) q (q + (4 : Int32)) f G h15 n0 X18.2.1 A16 (by decide) (fun q1 => ro _ (fun q2 => q1 (by rw [i4]; exact q2)))) d0_274 [(.ref b), (.int (2 : Int32)), (.int q), (.int (q + (4 : Int32))), (.int f)] [] rfl rfl pd2 rfl rfl (by decide) (Nat.le_of_ble_eq_true rfl) (by decide) (by decide) (fun T19 X19 => ?_)
          show own_G p e below (T19.setTop (mkF m 277 #[.val (.int z0), .val (.int z1), .val (.int z2), .val (.int z3), .val (.int nn), .val (.int kk), .val (.int cp), .val (.int q), .val (.int f), .val (.ref b), .val (.int (q + (4 : Int32))), .val (.int (4 : Int32)), .unset, .unset, .unset, .unset, .unset] [(.int (1 : Int32))])) _
          refine own_if X19 d0_277 (pc' := 425) (by decide) (fun (c277 : (1 : Int) = 0) => by exfalso; omega) (fun c277 => ?_)
          have c277 : ¬ ((1 : Int) = 0) := c277
          refine own_blk X19 B0_280_289 B0_280_289d (ls' := #[.val (.int z0), .val (.int z1), .val (.int z2), .val (.int z3), .val (.int nn), .val (.int kk), .val (.int cp), .val (.int q), .val (.int f), .val (.ref b), .val (.int (q + (4 : Int32))), .val (.int (4 : Int32)), .unset, .unset, .unset, .unset, .unset]) (st' := [(.int f), (.int (q + (4 : Int32))), (.int q), (.int (3 : Int32)), (.ref b)]) rfl ?_
          refine own_callP X19 (hw _ (List.mem_of_getElem? (i := 6) rfl)) (hw _ (List.mem_of_getElem? (i := 7) rfl)) (hw _ (List.mem_of_getElem? (i := 8) rfl)) (hw _ (List.mem_of_getElem? (i := 9) rfl)) (by decide) (c_kept l Z a0 hw b (3 : Int32) q (q + (4 : Int32)) f G h15 n0 X19.2.1 A16 (by decide) (fun q1 => ro _ (fun q2 => q1 (by rw [i4]; exact q2)))) d0_289 [(.ref b), (.int (3 : Int32)), (.int q), (.int (q + (4 : Int32))), (.int f)] [] rfl rfl pd2 rfl rfl (by decide) (Nat.le_of_ble_eq_true rfl) (by decide) (by decide) (fun T20 X20 => ?_)
          show own_G p e below (T20.setTop (mkF m 292 #[.val (.int z0), .val (.int z1), .val (.int z2), .val (.int z3), .val (.int nn), .val (.int kk), .val (.int cp), .val (.int q), .val (.int f), .val (.ref b), .val (.int (q + (4 : Int32))), .val (.int (4 : Int32)), .unset, .unset, .unset, .unset, .unset] [(.int (1 : Int32))])) _
          refine own_if X20 d0_292 (pc' := 425) (by decide) (fun (c292 : (1 : Int) = 0) => by exfalso; omega) (fun c292 => ?_)
          have c292 : ¬ ((1 : Int) = 0) := c292
          refine own_blk X20 B0_295_304 B0_295_304d (ls' := #[.val (.int z0), .val (.int z1), .val (.int z2), .val (.int z3), .val (.int nn), .val (.int kk), .val (.int cp), .val (.int q), .val (.int f), .val (.ref b), .val (.int (q + (4 : Int32))), .val (.int (4 : Int32)), .unset, .unset, .unset, .unset, .unset]) (st' := [(.int f), (.int (q + (4 : Int32))), (.int q), (.int (4 : Int32)), (.ref b)]) rfl ?_
          refine own_callP X20 (hw _ (List.mem_of_getElem? (i := 6) rfl)) (hw _ (List.mem_of_getElem? (i := 7) rfl)) (hw _ (List.mem_of_getElem? (i := 8) rfl)) (hw _ (List.mem_of_getElem? (i := 9) rfl)) (by decide) (c_kept l Z a0 hw b (4 : Int32) q (q + (4 : Int32)) f G h15 n0 X20.2.1 A16 (by decide) (fun q1 => ro _ (fun q2 => q1 (by rw [i4]; exact q2)))) d0_304 [(.ref b), (.int (4 : Int32)), (.int q), (.int (q + (4 : Int32))), (.int f)] [] rfl rfl pd2 rfl rfl (by decide) (Nat.le_of_ble_eq_true rfl) (by decide) (by decide) (fun T21 X21 => ?_)
          show own_G p e below (T21.setTop (mkF m 307 #[.val (.int z0), .val (.int z1), .val (.int z2), .val (.int z3), .val (.int nn), .val (.int kk), .val (.int cp), .val (.int q), .val (.int f), .val (.ref b), .val (.int (q + (4 : Int32))), .val (.int (4 : Int32)), .unset, .unset, .unset, .unset, .unset] [(.int (1 : Int32))])) _
          refine own_if X21 d0_307 (pc' := 425) (by decide) (fun (c307 : (1 : Int) = 0) => by exfalso; omega) (fun c307 => ?_)
          have c307 : ¬ ((1 : Int) = 0) := c307
          refine own_blk X21 B0_310_319 B0_310_319d (ls' := #[.val (.int z0), .val (.int z1), .val (.int z2), .val (.int z3), .val (.int nn), .val (.int kk), .val (.int cp), .val (.int q), .val (.int f), .val (.ref b), .val (.int (q + (4 : Int32))), .val (.int (4 : Int32)), .unset, .unset, .unset, .unset, .unset]) (st' := [(.int f), (.int (q + (4 : Int32))), (.int q), (.int (5 : Int32)), (.ref b)]) rfl ?_
          refine own_callP X21 (hw _ (List.mem_of_getElem? (i := 6) rfl)) (hw _ (List.mem_of_getElem? (i := 7) rfl)) (hw _ (List.mem_of_getElem? (i := 8) rfl)) (hw _ (List.mem_of_getElem? (i := 9) rfl)) (by decide) (c_kept l Z a0 hw b (5 : Int32) q (q + (4 : Int32)) f G h15 n0 X21.2.1 A16 (by decide) (fun q1 => ro _ (fun q2 => q1 (by rw [i4]; exact q2)))) d0_319 [(.ref b), (.int (5 : Int32)), (.int q), (.int (q + (4 : Int32))), (.int f)] [] rfl rfl pd2 rfl rfl (by decide) (Nat.le_of_ble_eq_true rfl) (by decide) (by decide) (fun T22 X22 => ?_)
          show own_G p e below (T22.setTop (mkF m 322 #[.val (.int z0), .val (.int z1), .val (.int z2), .val (.int z3), .val (.int nn), .val (.int kk), .val (.int cp), .val (.int q), .val (.int f), .val (.ref b), .val (.int (q + (4 : Int32))), .val (.int (4 : Int32)), .unset, .unset, .unset, .unset, .unset] [(.int (1 : Int32))])) _
          refine own_if X22 d0_322 (pc' := 425) (by decide) (fun (c322 : (1 : Int) = 0) => by exfalso; omega) (fun c322 => ?_)
          have c322 : ¬ ((1 : Int) = 0) := c322
          refine own_blk X22 B0_325_335 B0_325_335d (ls' := #[.val (.int z0), .val (.int z1), .val (.int z2), .val (.int z3), .val (.int nn), .val (.int kk), .val (.int cp), .val (.int q), .val (.int f), .val (.ref b), .val (.int (q + (4 : Int32))), .val (.int (4 : Int32)), .unset, .unset, .unset, .unset, .unset]) (st' := [(.int f), (.int (q + (4 : Int32))), (.int q), (.int (6 : Int32)), (.ref b)]) rfl ?_
          refine own_callP X22 (hw _ (List.mem_of_getElem? (i := 6) rfl)) (hw _ (List.mem_of_getElem? (i := 7) rfl)) (hw _ (List.mem_of_getElem? (i := 8) rfl)) (hw _ (List.mem_of_getElem? (i := 9) rfl)) (by decide) (c_kept l Z a0 hw b (6 : Int32) q (q + (4 : Int32)) f G h15 n0 X22.2.1 A16 (by decide) (fun q1 => ro _ (fun q2 => q1 (by rw [i4]; exact q2)))) d0_335 [(.ref b), (.int (6 : Int32)), (.int q), (.int (q + (4 : Int32))), (.int f)] [] rfl rfl pd2 rfl rfl (by decide) (Nat.le_of_ble_eq_true rfl) (by decide) (by decide) (fun T23 X23 => ?_)
          show own_G p e below (T23.setTop (mkF m 338 #[.val (.int z0), .val (.int z1), .val (.int z2), .val (.int z3), .val (.int nn), .val (.int kk), .val (.int cp), .val (.int q), .val (.int f), .val (.ref b), .val (.int (q + (4 : Int32))), .val (.int (4 : Int32)), .unset, .unset, .unset, .unset, .unset] [(.int (1 : Int32))])) _
          refine own_if X23 d0_338 (pc' := 425) (by decide) (fun (c338 : (1 : Int) = 0) => by exfalso; omega) (fun c338 => ?_)
          have c338 : ¬ ((1 : Int) = 0) := c338
          refine own_blk X23 B0_341_351 B0_341_351d (ls' := #[.val (.int z0), .val (.int z1), .val (.int z2), .val (.int z3), .val (.int nn), .val (.int kk), .val (.int cp), .val (.int q), .val (.int f), .val (.ref b), .val (.int (q + (4 : Int32))), .val (.int (4 : Int32)), .unset, .unset, .unset, .unset, .unset]) (st' := [(.int f), (.int (q + (4 : Int32))), (.int q), (.int (7 : Int32)), (.ref b)]) rfl ?_
          refine own_callP X23 (hw _ (List.mem_of_getElem? (i := 6) rfl)) (hw _ (List.mem_of_getElem? (i := 7) rfl)) (hw _ (List.mem_of_getElem? (i := 8) rfl)) (hw _ (List.mem_of_getElem? (i := 9) rfl)) (by decide) (c_kept l Z a0 hw b (7 : Int32) q (q + (4 : Int32)) f G h15 n0 X23.2.1 A16 (by decide) (fun q1 => ro _ (fun q2 => q1 (by rw [i4]; exact q2)))) d0_351 [(.ref b), (.int (7 : Int32)), (.int q), (.int (q + (4 : Int32))), (.int f)] [] rfl rfl pd2 rfl rfl (by decide) (Nat.le_of_ble_eq_true rfl) (by decide) (by decide) (fun T24 X24 => ?_)
          show own_G p e below (T24.setTop (mkF m 354 #[.val (.int z0), .val (.int z1), .val (.int z2), .val (.int z3), .val (.int nn), .val (.int kk), .val (.int cp), .val (.int q), .val (.int f), .val (.ref b), .val (.int (q + (4 : Int32))), .val (.int (4 : Int32)), .unset, .unset, .unset, .unset, .unset] [(.int (1 : Int32))])) _
          refine own_if X24 d0_354 (pc' := 425) (by decide) (fun (c354 : (1 : Int) = 0) => by exfalso; omega) (fun c354 => ?_)
          have c354 : ¬ ((1 : Int) = 0) := c354
          refine own_blk X24 B0_357_367 B0_357_367d (ls' := #[.val (.int z0), .val (.int z1), .val (.int z2), .val (.int z3), .val (.int nn), .val (.int kk), .val (.int cp), .val (.int q), .val (.int f), .val (.ref b), .val (.int (q + (4 : Int32))), .val (.int (4 : Int32)), .unset, .unset, .unset, .unset, .unset]) (st' := [(.int f), (.int (q + (4 : Int32))), (.int q), (.int (8 : Int32)), (.ref b)]) rfl ?_
          refine own_callP X24 (hw _ (List.mem_of_getElem? (i := 6) rfl)) (hw _ (List.mem_of_getElem? (i := 7) rfl)) (hw _ (List.mem_of_getElem? (i := 8) rfl)) (hw _ (List.mem_of_getElem? (i := 9) rfl)) (by decide) (c_kept l Z a0 hw b (8 : Int32) q (q + (4 : Int32)) f G h15 n0 X24.2.1 A16 (by decide) (fun q1 => ro _ (fun q2 => q1 (by rw [i4]; exact q2)))) d0_367 [(.ref b), (.int (8 : Int32)), (.int q), (.int (q + (4 : Int32))), (.int f)] [] rfl rfl pd2 rfl rfl (by decide) (Nat.le_of_ble_eq_true rfl) (by decide) (by decide) (fun T25 X25 => ?_)
          show own_G p e below (T25.setTop (mkF m 370 #[.val (.int z0), .val (.int z1), .val (.int z2), .val (.int z3), .val (.int nn), .val (.int kk), .val (.int cp), .val (.int q), .val (.int f), .val (.ref b), .val (.int (q + (4 : Int32))), .val (.int (4 : Int32)), .unset, .unset, .unset, .unset, .unset] [(.int (1 : Int32))])) _
          refine own_if X25 d0_370 (pc' := 425) (by decide) (fun (c370 : (1 : Int) = 0) => by exfalso; omega) (fun c370 => ?_)
          have c370 : ¬ ((1 : Int) = 0) := c370
          refine own_blk X25 B0_373_383 B0_373_383d (ls' := #[.val (.int z0), .val (.int z1), .val (.int z2), .val (.int z3), .val (.int nn), .val (.int kk), .val (.int cp), .val (.int q), .val (.int f), .val (.ref b), .val (.int (q + (4 : Int32))), .val (.int (4 : Int32)), .unset, .unset, .unset, .unset, .unset]) (st' := [(.int f), (.int (q + (4 : Int32))), (.int q), (.int (9 : Int32)), (.ref b)]) rfl ?_
          refine own_callP X25 (hw _ (List.mem_of_getElem? (i := 6) rfl)) (hw _ (List.mem_of_getElem? (i := 7) rfl)) (hw _ (List.mem_of_getElem? (i := 8) rfl)) (hw _ (List.mem_of_getElem? (i := 9) rfl)) (by decide) (c_kept l Z a0 hw b (9 : Int32) q (q + (4 : Int32)) f G h15 n0 X25.2.1 A16 (by decide) (fun q1 => ro _ (fun q2 => q1 (by rw [i4]; exact q2)))) d0_383 [(.ref b), (.int (9 : Int32)), (.int q), (.int (q + (4 : Int32))), (.int f)] [] rfl rfl pd2 rfl rfl (by decide) (Nat.le_of_ble_eq_true rfl) (by decide) (by decide) (fun T26 X26 => ?_)
          show own_G p e below (T26.setTop (mkF m 386 #[.val (.int z0), .val (.int z1), .val (.int z2), .val (.int z3), .val (.int nn), .val (.int kk), .val (.int cp), .val (.int q), .val (.int f), .val (.ref b), .val (.int (q + (4 : Int32))), .val (.int (4 : Int32)), .unset, .unset, .unset, .unset, .unset] [(.int (1 : Int32))])) _
          refine own_if X26 d0_386 (pc' := 425) (by decide) (fun (c386 : (1 : Int) = 0) => by exfalso; omega) (fun c386 => ?_)
          have c386 : ¬ ((1 : Int) = 0) := c386
          refine own_blk X26 B0_389_399 B0_389_399d (ls' := #[.val (.int z0), .val (.int z1), .val (.int z2), .val (.int z3), .val (.int nn), .val (.int kk), .val (.int cp), .val (.int q), .val (.int f), .val (.ref b), .val (.int (q + (4 : Int32))), .val (.int (4 : Int32)), .unset, .unset, .unset, .unset, .unset]) (st' := [(.int f), (.int (q + (4 : Int32))), (.int q), (.int (10 : Int32)), (.ref b)]) rfl ?_
          refine own_callP X26 (hw _ (List.mem_of_getElem? (i := 6) rfl)) (hw _ (List.mem_of_getElem? (i := 7) rfl)) (hw _ (List.mem_of_getElem? (i := 8) rfl)) (hw _ (List.mem_of_getElem? (i := 9) rfl)) (by decide) (c_kept l Z a0 hw b (10 : Int32) q (q + (4 : Int32)) f G h15 n0 X26.2.1 A16 (by decide) (fun q1 => ro _ (fun q2 => q1 (by rw [i4]; exact q2)))) d0_399 [(.ref b), (.int (10 : Int32)), (.int q), (.int (q + (4 : Int32))), (.int f)] [] rfl rfl pd2 rfl rfl (by decide) (Nat.le_of_ble_eq_true rfl) (by decide) (by decide) (fun T27 X27 => ?_)
          show own_G p e below (T27.setTop (mkF m 402 #[.val (.int z0), .val (.int z1), .val (.int z2), .val (.int z3), .val (.int nn), .val (.int kk), .val (.int cp), .val (.int q), .val (.int f), .val (.ref b), .val (.int (q + (4 : Int32))), .val (.int (4 : Int32)), .unset, .unset, .unset, .unset, .unset] [(.int (1 : Int32))])) _
          refine own_if X27 d0_402 (pc' := 425) (by decide) (fun (c402 : (1 : Int) = 0) => by exfalso; omega) (fun c402 => ?_)
          have c402 : ¬ ((1 : Int) = 0) := c402
          refine own_blk X27 B0_405_415 B0_405_415d (ls' := #[.val (.int z0), .val (.int z1), .val (.int z2), .val (.int z3), .val (.int nn), .val (.int kk), .val (.int cp), .val (.int q), .val (.int f), .val (.ref b), .val (.int (q + (4 : Int32))), .val (.int (4 : Int32)), .unset, .unset, .unset, .unset, .unset]) (st' := [(.int f), (.int (q + (4 : Int32))), (.int q), (.int (11 : Int32)), (.ref b)]) rfl ?_
          refine own_callP X27 (hw _ (List.mem_of_getElem? (i := 6) rfl)) (hw _ (List.mem_of_getElem? (i := 7) rfl)) (hw _ (List.mem_of_getElem? (i := 8) rfl)) (hw _ (List.mem_of_getElem? (i := 9) rfl)) (by decide) (c_kept l Z a0 hw b (11 : Int32) q (q + (4 : Int32)) f G h15 n0 X27.2.1 A16 (by decide) (fun q1 => ro _ (fun q2 => q1 (by rw [i4]; exact q2)))) d0_415 [(.ref b), (.int (11 : Int32)), (.int q), (.int (q + (4 : Int32))), (.int f)] [] rfl rfl pd2 rfl rfl (by decide) (Nat.le_of_ble_eq_true rfl) (by decide) (by decide) (fun T28 X28 => ?_)
          show own_G p e below (T28.setTop (mkF m 418 #[.val (.int z0), .val (.int z1), .val (.int z2), .val (.int z3), .val (.int nn), .val (.int kk), .val (.int cp), .val (.int q), .val (.int f), .val (.ref b), .val (.int (q + (4 : Int32))), .val (.int (4 : Int32)), .unset, .unset, .unset, .unset, .unset] [(.int (1 : Int32))])) _
          refine own_if X28 d0_418 (pc' := 425) (by decide) (fun (c418 : (1 : Int) = 0) => by exfalso; omega) (fun c418 => ?_)
          have c418 : ¬ ((1 : Int) = 0) := c418
          refine own_blk X28 B0_421_422 B0_421_422d (ls' := #[.val (.int z0), .val (.int z1), .val (.int z2), .val (.int z3), .val (.int nn), .val (.int kk), .val (.int cp), .val (.int q), .val (.int f), .val (.ref b), .val (.int (q + (4 : Int32))), .val (.int (4 : Int32)), .unset, .unset, .unset, .unset, .unset]) (st' := [(.int (1 : Int32))]) rfl ?_
          refine own_goto X28 d0_422 (pc' := 426) (by decide) ?_
          refine own_blk X28 B0_426_430 B0_426_430d (ls' := #[.val (.int z0), .val (.int z1), .val (.int z2), .val (.int z3), .val (.int nn), .val (.int kk), .val (.int cp), .val (.int q), .val (.int f), .val (.ref b), .val (.int (q + (4 : Int32))), .val (.int (4 : Int32)), .val (.int (1 : Int32)), .unset, .unset, .unset, .unset]) (st' := [(.int (1 : Int32))]) rfl ?_
          refine own_if X28 d0_430 (pc' := 435) (by decide) (fun c430 => ?_) (fun (c430 : ¬ (¬ (1 : Int) = 0)) => by exfalso; omega)
          have c430 : ¬ (1 : Int) = 0 := c430
          refine own_blk X28 B0_435_439 B0_435_439d (ls' := #[.val (.int z0), .val (.int z1), .val (.int z2), .val (.int z3), .val (.int nn), .val (.int kk), .val (.int cp), .val (.int q), .val (.int f), .val (.ref b), .val (.int (q + (4 : Int32))), .val (.int (4 : Int32)), .val (.int (1 : Int32)), .unset, .unset, .unset, .unset]) (st' := [(.int q), (.ref b)]) rfl ?_
          refine own_bald X28 A16 d0_439 (by omega) (by omega) ?_
          show own_G p e below (T28.setTop (mkF m 440 #[.val (.int z0), .val (.int z1), .val (.int z2), .val (.int z3), .val (.int nn), .val (.int kk), .val (.int cp), .val (.int q), .val (.int f), .val (.ref b), .val (.int (q + (4 : Int32))), .val (.int (4 : Int32)), .val (.int (1 : Int32)), .unset, .unset, .unset, .unset] [(.int (G q.toInt))])) _
          refine own_blk X28 B0_440_446 B0_440_446d (ls' := #[.val (.int z0), .val (.int z1), .val (.int z2), .val (.int z3), .val (.int nn), .val (.int kk), .val (.int cp), .val (.int q), .val (.int f), .val (.ref b), .val (.int (q + (4 : Int32))), .val (.int (4 : Int32)), .val (.int (1 : Int32)), .val (.int ((G q.toInt) &&& (255 : Int32))), .unset, .unset, .unset]) (st' := []) rfl ?_
          generalize eb0 : ((G q.toInt) &&& (255 : Int32)) = b0
          have hb0 : b0.toInt = 240 + cp.toInt / 262144 := by rw [← eb0, r0]; exact own_x4 hc0 (by omega)
          refine own_blk X28 B0_446_449 B0_446_449d (ls' := #[.val (.int z0), .val (.int z1), .val (.int z2), .val (.int z3), .val (.int nn), .val (.int kk), .val (.int cp), .val (.int q), .val (.int f), .val (.ref b), .val (.int (q + (4 : Int32))), .val (.int (4 : Int32)), .val (.int (1 : Int32)), .val (.int b0), .unset, .unset, .unset]) (st' := [(.int (1 : Int32)), (.int (4 : Int32))]) rfl ?_
          refine own_icmp X28 d0_449 (pc' := 465) (by decide) (fun c449 => ?_) (fun (c449 : ¬ (¬ (4 : Int) = 1)) => by exfalso; omega)
          have c449 : ¬ (4 : Int) = 1 := c449
          refine own_blk X28 B0_465_471 B0_465_471d (ls' := #[.val (.int z0), .val (.int z1), .val (.int z2), .val (.int z3), .val (.int nn), .val (.int kk), .val (.int cp), .val (.int q), .val (.int f), .val (.ref b), .val (.int (q + (4 : Int32))), .val (.int (4 : Int32)), .val (.int (1 : Int32)), .val (.int b0), .unset, .unset, .unset]) (st' := [(.int (q + (1 : Int32))), (.ref b)]) rfl ?_
          refine own_bald X28 A16 d0_471 (by omega) (by omega) ?_
          show own_G p e below (T28.setTop (mkF m 472 #[.val (.int z0), .val (.int z1), .val (.int z2), .val (.int z3), .val (.int nn), .val (.int kk), .val (.int cp), .val (.int q), .val (.int f), .val (.ref b), .val (.int (q + (4 : Int32))), .val (.int (4 : Int32)), .val (.int (1 : Int32)), .val (.int b0), .unset, .unset, .unset] [(.int (G (q + (1 : Int32)).toInt))])) _
          refine own_blk X28 B0_472_478 B0_472_478d (ls' := #[.val (.int z0), .val (.int z1), .val (.int z2), .val (.int z3), .val (.int nn), .val (.int kk), .val (.int cp), .val (.int q), .val (.int f), .val (.ref b), .val (.int (q + (4 : Int32))), .val (.int (4 : Int32)), .val (.int (1 : Int32)), .val (.int b0), .val (.int ((G (q + (1 : Int32)).toInt) &&& (255 : Int32))), .unset, .unset]) (st' := []) rfl ?_
          generalize eb1 : ((G (q + (1 : Int32)).toInt) &&& (255 : Int32)) = b1
          have hb1 : b1.toInt = 128 + cp.toInt / 4096 % 64 := by rw [← eb1, i1, r1]; exact own_xs 12 (by decide)
          have hct1 : own_ct b1 = 1 := by rw [own_ct, own_h192 (by omega) (by omega), if_pos (by omega)]
          refine own_blk X28 B0_478_480 B0_478_480d (ls' := #[.val (.int z0), .val (.int z1), .val (.int z2), .val (.int z3), .val (.int nn), .val (.int kk), .val (.int cp), .val (.int q), .val (.int f), .val (.ref b), .val (.int (q + (4 : Int32))), .val (.int (4 : Int32)), .val (.int (1 : Int32)), .val (.int b0), .val (.int b1), .unset, .unset]) (st' := [(.int b1)]) rfl ?_
          refine own_callP X28 (hw _ (List.mem_of_getElem? (i := 13) rfl)) (hw _ (List.mem_of_getElem? (i := 14) rfl)) (hw _ (List.mem_of_getElem? (i := 8) rfl)) (hw _ (List.mem_of_getElem? (i := 15) rfl)) (by decide) (c_cont l Z a0 hw b1 h15 n0 X28.2.1) d0_480 [(.int b1)] [] rfl rfl pd3 rfl rfl (by decide) (Nat.le_of_ble_eq_true rfl) (by decide) (by decide) (fun T29 X29 => ?_)
          show own_G p e below (T29.setTop (mkF m 483 #[.val (.int z0), .val (.int z1), .val (.int z2), .val (.int z3), .val (.int nn), .val (.int kk), .val (.int cp), .val (.int q), .val (.int f), .val (.ref b), .val (.int (q + (4 : Int32))), .val (.int (4 : Int32)), .val (.int (1 : Int32)), .val (.int b0), .val (.int b1), .unset, .unset] [(.int (own_ct b1))])) _
          rw [hct1]
          refine own_if X29 d0_483 (pc' := 488) (by decide) (fun c483 => ?_) (fun (c483 : ¬ (¬ (1 : Int) = 0)) => by exfalso; omega)
          have c483 : ¬ (1 : Int) = 0 := c483
          refine own_blk X29 B0_488_491 B0_488_491d (ls' := #[.val (.int z0), .val (.int z1), .val (.int z2), .val (.int z3), .val (.int nn), .val (.int kk), .val (.int cp), .val (.int q), .val (.int f), .val (.ref b), .val (.int (q + (4 : Int32))), .val (.int (4 : Int32)), .val (.int (1 : Int32)), .val (.int b0), .val (.int b1), .unset, .unset]) (st' := [(.int (2 : Int32)), (.int (4 : Int32))]) rfl ?_
          refine own_icmp X29 d0_491 (pc' := 531) (by decide) (fun c491 => ?_) (fun (c491 : ¬ (¬ (4 : Int) = 2)) => by exfalso; omega)
          have c491 : ¬ (4 : Int) = 2 := c491
          refine own_blk X29 B0_531_537 B0_531_537d (ls' := #[.val (.int z0), .val (.int z1), .val (.int z2), .val (.int z3), .val (.int nn), .val (.int kk), .val (.int cp), .val (.int q), .val (.int f), .val (.ref b), .val (.int (q + (4 : Int32))), .val (.int (4 : Int32)), .val (.int (1 : Int32)), .val (.int b0), .val (.int b1), .unset, .unset]) (st' := [(.int (q + (2 : Int32))), (.ref b)]) rfl ?_
          refine own_bald X29 A16 d0_537 (by omega) (by omega) ?_
          show own_G p e below (T29.setTop (mkF m 538 #[.val (.int z0), .val (.int z1), .val (.int z2), .val (.int z3), .val (.int nn), .val (.int kk), .val (.int cp), .val (.int q), .val (.int f), .val (.ref b), .val (.int (q + (4 : Int32))), .val (.int (4 : Int32)), .val (.int (1 : Int32)), .val (.int b0), .val (.int b1), .unset, .unset] [(.int (G (q + (2 : Int32)).toInt))])) _
          refine own_blk X29 B0_538_544 B0_538_544d (ls' := #[.val (.int z0), .val (.int z1), .val (.int z2), .val (.int z3), .val (.int nn), .val (.int kk), .val (.int cp), .val (.int q), .val (.int f), .val (.ref b), .val (.int (q + (4 : Int32))), .val (.int (4 : Int32)), .val (.int (1 : Int32)), .val (.int b0), .val (.int b1), .val (.int ((G (q + (2 : Int32)).toInt) &&& (255 : Int32))), .unset]) (st' := []) rfl ?_
          generalize eb2 : ((G (q + (2 : Int32)).toInt) &&& (255 : Int32)) = b2
          have hb2 : b2.toInt = 128 + cp.toInt / 64 % 64 := by rw [← eb2, i2, r2]; exact own_xs 6 (by decide)
          have hct2 : own_ct b2 = 1 := by rw [own_ct, own_h192 (by omega) (by omega), if_pos (by omega)]
          refine own_blk X29 B0_544_546 B0_544_546d (ls' := #[.val (.int z0), .val (.int z1), .val (.int z2), .val (.int z3), .val (.int nn), .val (.int kk), .val (.int cp), .val (.int q), .val (.int f), .val (.ref b), .val (.int (q + (4 : Int32))), .val (.int (4 : Int32)), .val (.int (1 : Int32)), .val (.int b0), .val (.int b1), .val (.int b2), .unset]) (st' := [(.int b2)]) rfl ?_
          refine own_callP X29 (hw _ (List.mem_of_getElem? (i := 13) rfl)) (hw _ (List.mem_of_getElem? (i := 14) rfl)) (hw _ (List.mem_of_getElem? (i := 8) rfl)) (hw _ (List.mem_of_getElem? (i := 15) rfl)) (by decide) (c_cont l Z a0 hw b2 h15 n0 X29.2.1) d0_546 [(.int b2)] [] rfl rfl pd3 rfl rfl (by decide) (Nat.le_of_ble_eq_true rfl) (by decide) (by decide) (fun T30 X30 => ?_)
          show own_G p e below (T30.setTop (mkF m 549 #[.val (.int z0), .val (.int z1), .val (.int z2), .val (.int z3), .val (.int nn), .val (.int kk), .val (.int cp), .val (.int q), .val (.int f), .val (.ref b), .val (.int (q + (4 : Int32))), .val (.int (4 : Int32)), .val (.int (1 : Int32)), .val (.int b0), .val (.int b1), .val (.int b2), .unset] [(.int (own_ct b2))])) _
          rw [hct2]
          refine own_if X30 d0_549 (pc' := 554) (by decide) (fun c549 => ?_) (fun (c549 : ¬ (¬ (1 : Int) = 0)) => by exfalso; omega)
          have c549 : ¬ (1 : Int) = 0 := c549
          refine own_blk X30 B0_554_557 B0_554_557d (ls' := #[.val (.int z0), .val (.int z1), .val (.int z2), .val (.int z3), .val (.int nn), .val (.int kk), .val (.int cp), .val (.int q), .val (.int f), .val (.ref b), .val (.int (q + (4 : Int32))), .val (.int (4 : Int32)), .val (.int (1 : Int32)), .val (.int b0), .val (.int b1), .val (.int b2), .unset]) (st' := [(.int (3 : Int32)), (.int (4 : Int32))]) rfl ?_
          refine own_icmp X30 d0_557 (pc' := 606) (by decide) (fun c557 => ?_) (fun (c557 : ¬ (¬ (4 : Int) = 3)) => by exfalso; omega)
          have c557 : ¬ (4 : Int) = 3 := c557
          refine own_blk X30 B0_606_612 B0_606_612d (ls' := #[.val (.int z0), .val (.int z1), .val (.int z2), .val (.int z3), .val (.int nn), .val (.int kk), .val (.int cp), .val (.int q), .val (.int f), .val (.ref b), .val (.int (q + (4 : Int32))), .val (.int (4 : Int32)), .val (.int (1 : Int32)), .val (.int b0), .val (.int b1), .val (.int b2), .unset]) (st' := [(.int (q + (3 : Int32))), (.ref b)]) rfl ?_
          refine own_bald X30 A16 d0_612 (by omega) (by omega) ?_
          show own_G p e below (T30.setTop (mkF m 613 #[.val (.int z0), .val (.int z1), .val (.int z2), .val (.int z3), .val (.int nn), .val (.int kk), .val (.int cp), .val (.int q), .val (.int f), .val (.ref b), .val (.int (q + (4 : Int32))), .val (.int (4 : Int32)), .val (.int (1 : Int32)), .val (.int b0), .val (.int b1), .val (.int b2), .unset] [(.int (G (q + (3 : Int32)).toInt))])) _
          refine own_blk X30 B0_613_619 B0_613_619d (ls' := #[.val (.int z0), .val (.int z1), .val (.int z2), .val (.int z3), .val (.int nn), .val (.int kk), .val (.int cp), .val (.int q), .val (.int f), .val (.ref b), .val (.int (q + (4 : Int32))), .val (.int (4 : Int32)), .val (.int (1 : Int32)), .val (.int b0), .val (.int b1), .val (.int b2), .val (.int ((G (q + (3 : Int32)).toInt) &&& (255 : Int32)))]) (st' := []) rfl ?_
          generalize eb3 : ((G (q + (3 : Int32)).toInt) &&& (255 : Int32)) = b3
          have hb3 : b3.toInt = 128 + cp.toInt % 64 := by rw [← eb3, i3, r3]; exact own_xl cp
          have hct3 : own_ct b3 = 1 := by rw [own_ct, own_h192 (by omega) (by omega), if_pos (by omega)]
          refine own_blk X30 B0_619_621 B0_619_621d (ls' := #[.val (.int z0), .val (.int z1), .val (.int z2), .val (.int z3), .val (.int nn), .val (.int kk), .val (.int cp), .val (.int q), .val (.int f), .val (.ref b), .val (.int (q + (4 : Int32))), .val (.int (4 : Int32)), .val (.int (1 : Int32)), .val (.int b0), .val (.int b1), .val (.int b2), .val (.int b3)]) (st' := [(.int b3)]) rfl ?_
          refine own_callP X30 (hw _ (List.mem_of_getElem? (i := 13) rfl)) (hw _ (List.mem_of_getElem? (i := 14) rfl)) (hw _ (List.mem_of_getElem? (i := 8) rfl)) (hw _ (List.mem_of_getElem? (i := 15) rfl)) (by decide) (c_cont l Z a0 hw b3 h15 n0 X30.2.1) d0_621 [(.int b3)] [] rfl rfl pd3 rfl rfl (by decide) (Nat.le_of_ble_eq_true rfl) (by decide) (by decide) (fun T31 X31 => ?_)
          show own_G p e below (T31.setTop (mkF m 624 #[.val (.int z0), .val (.int z1), .val (.int z2), .val (.int z3), .val (.int nn), .val (.int kk), .val (.int cp), .val (.int q), .val (.int f), .val (.ref b), .val (.int (q + (4 : Int32))), .val (.int (4 : Int32)), .val (.int (1 : Int32)), .val (.int b0), .val (.int b1), .val (.int b2), .val (.int b3)] [(.int (own_ct b3))])) _
          rw [hct3]
          refine own_if X31 d0_624 (pc' := 629) (by decide) (fun c624 => ?_) (fun (c624 : ¬ (¬ (1 : Int) = 0)) => by exfalso; omega)
          have c624 : ¬ (1 : Int) = 0 := c624
          refine own_blk X31 B0_629_638 B0_629_638d (ls' := #[.val (.int z0), .val (.int z1), .val (.int z2), .val (.int z3), .val (.int nn), .val (.int kk), .val (.int cp), .val (.int q), .val (.int f), .val (.ref b), .val (.int (q + (4 : Int32))), .val (.int (4 : Int32)), .val (.int (1 : Int32)), .val (.int b0), .val (.int b1), .val (.int b2), .val (.int b3)]) (st' := [(.int (240 : Int32)), (.int (b0 &&& (248 : Int32)))]) rfl ?_
          refine own_icmp X31 d0_638 (pc' := 682) (by decide) (fun (c638 : ¬ (b0 &&& (248 : Int32)).toInt = 240) => by exfalso; exact c638 (by rw [own_h248 (by omega) (by omega)]; omega)) (fun c638 => ?_)
          have c638 : ¬ (¬ (b0 &&& (248 : Int32)).toInt = 240) := c638
          refine own_blk X31 B0_641_675 B0_641_675d (ls' := #[.val (.int z0), .val (.int z1), .val (.int z2), .val (.int z3), .val (.int nn), .val (.int kk), .val (.int cp), .val (.int q), .val (.int f), .val (.ref b), .val (.int (q + (4 : Int32))), .val (.int (4 : Int32)), .val (.int (1 : Int32)), .val (.int b0), .val (.int b1), .val (.int b2), .val (.int b3)]) (st' := [(.int (((((((b0 &&& (7 : Int32)) * (64 : Int32)) + (b1 &&& (63 : Int32))) * (64 : Int32)) + (b2 &&& (63 : Int32))) * (64 : Int32)) + (b3 &&& (63 : Int32)))), (.int cp)]) rfl ?_
          refine own_icmp X31 d0_675 (pc' := 682) (by decide) (fun (c675 : ¬ cp.toInt = (((((((b0 &&& (7 : Int32)) * (64 : Int32)) + (b1 &&& (63 : Int32))) * (64 : Int32)) + (b2 &&& (63 : Int32))) * (64 : Int32)) + (b3 &&& (63 : Int32))).toInt) => by exfalso; have m0 := own_mk b0 7 3 (by decide) (by decide); have m1 := own_m63 b1; have m2 := own_m63 b2; have m3 := own_m63 b3; have s1 := own_ma (x := b0 &&& 7) (y := b1 &&& 63) (by omega) (by omega) (by omega) (by omega); have s2 := own_ma (x := (b0 &&& 7) * 64 + (b1 &&& 63)) (y := b2 &&& 63) (by omega) (by omega) (by omega) (by omega); exact c675 (by rw [own_ma (by omega) (by omega) (by omega) (by omega)]; omega)) (fun c675 => ?_)
          have c675 : ¬ (¬ cp.toInt = (((((((b0 &&& (7 : Int32)) * (64 : Int32)) + (b1 &&& (63 : Int32))) * (64 : Int32)) + (b2 &&& (63 : Int32))) * (64 : Int32)) + (b3 &&& (63 : Int32))).toInt) := c675
          refine own_blk X31 B0_678_679 B0_678_679d (ls' := #[.val (.int z0), .val (.int z1), .val (.int z2), .val (.int z3), .val (.int nn), .val (.int kk), .val (.int cp), .val (.int q), .val (.int f), .val (.ref b), .val (.int (q + (4 : Int32))), .val (.int (4 : Int32)), .val (.int (1 : Int32)), .val (.int b0), .val (.int b1), .val (.int b2), .val (.int b3)]) (st' := [(.int (1 : Int32))]) rfl ?_
          refine own_goto X31 d0_679 (pc' := 683) (by decide) ?_
          exact own_retN X31 (by simp) d0_683 (v' := (1 : Int32)) (rfl) (by decide) (by decide) (rfl)
        · have c213 : ¬ (65536 ≤ cp.toInt) := c213
          refine own_blk X15 B0_216_217 B0_216_217d (ls' := #[.val (.int z0), .val (.int z1), .val (.int z2), .val (.int z3), .val (.int nn), .val (.int kk), .val (.int cp), .val (.int q), .val (.int f), .val (.ref b), .val (.int (own_end cp q)), .unset, .unset, .unset, .unset, .unset, .unset]) (st' := [(.int (3 : Int32))]) rfl ?_
          refine own_goto X15 d0_217 (pc' := 221) (by decide) ?_
          have A32 : own_I Z h15 b .byte 12 (own_u (own_u (own_u (fun _ => f) (q.toInt) (own_i2b (224 ||| own_ishr cp 12))) (q.toInt + 1) (own_i2b (128 ||| (own_ishr cp 6 &&& 63)))) (q.toInt + 2) (own_i2b (128 ||| (cp &&& 63)))) := by have q1 := A15; rw [own_enc, if_neg (by omega), if_neg (by omega), if_pos (by omega)] at q1; exact q1
          have hend : own_end cp q = q + (3 : Int32) := by rw [own_end, if_neg (by omega), if_neg (by omega), if_pos (by omega)]
          rw [hend]
          generalize eG : (own_u (own_u (own_u (fun _ => f) (q.toInt) (own_i2b (224 ||| own_ishr cp 12))) (q.toInt + 1) (own_i2b (128 ||| (own_ishr cp 6 &&& 63)))) (q.toInt + 2) (own_i2b (128 ||| (cp &&& 63)))) = G at A32
          have r0 : G (q.toInt) = own_i2b (224 ||| own_ishr cp 12) := by rw [← eG, own_u_ne (by omega), own_u_ne (by omega), own_u_eq (by omega)]
          have r1 : G (q.toInt + 1) = own_i2b (128 ||| (own_ishr cp 6 &&& 63)) := by rw [← eG, own_u_ne (by omega), own_u_eq (by omega)]
          have r2 : G (q.toInt + 2) = own_i2b (128 ||| (cp &&& 63)) := by rw [← eG, own_u_eq (by omega)]
          have ro : ∀ j : Int, ¬ (q.toInt ≤ j ∧ j < q.toInt + 3) → G j = f := by intro j hj; rw [← eG, own_u_ne (by omega), own_u_ne (by omega), own_u_ne (by omega)]
          refine own_blk X15 B0_221_230 B0_221_230d (ls' := #[.val (.int z0), .val (.int z1), .val (.int z2), .val (.int z3), .val (.int nn), .val (.int kk), .val (.int cp), .val (.int q), .val (.int f), .val (.ref b), .val (.int (q + (3 : Int32))), .val (.int (3 : Int32)), .unset, .unset, .unset, .unset, .unset]) (st' := [(.int (q + (3 : Int32))), (.int (q + (3 : Int32)))]) rfl ?_
          refine own_icmp X15 d0_230 (pc' := 235) (by decide) (fun c230 => ?_) (fun (c230 : ¬ ((q + (3 : Int32)).toInt = (q + (3 : Int32)).toInt)) => by exfalso; exact c230 rfl)
          have c230 : (q + (3 : Int32)).toInt = (q + (3 : Int32)).toInt := c230
          refine own_blk X15 B0_235_244 B0_235_244d (ls' := #[.val (.int z0), .val (.int z1), .val (.int z2), .val (.int z3), .val (.int nn), .val (.int kk), .val (.int cp), .val (.int q), .val (.int f), .val (.ref b), .val (.int (q + (3 : Int32))), .val (.int (3 : Int32)), .unset, .unset, .unset, .unset, .unset]) (st' := [(.int f), (.int (q + (3 : Int32))), (.int q), (.int (0 : Int32)), (.ref b)]) rfl ?_
          refine own_callP X15 (hw _ (List.mem_of_getElem? (i := 6) rfl)) (hw _ (List.mem_of_getElem? (i := 7) rfl)) (hw _ (List.mem_of_getElem? (i := 8) rfl)) (hw _ (List.mem_of_getElem? (i := 9) rfl)) (by decide) (c_kept l Z a0 hw b (0 : Int32) q (q + (3 : Int32)) f G h15 n0 X15.2.1 A32 (by decide) (fun q1 => ro _ (fun q2 => q1 (by rw [i3]; exact q2)))) d0_244 [(.ref b), (.int (0 : Int32)), (.int q), (.int (q + (3 : Int32))), (.int f)] [] rfl rfl pd2 rfl rfl (by decide) (Nat.le_of_ble_eq_true rfl) (by decide) (by decide) (fun T33 X33 => ?_)
          show own_G p e below (T33.setTop (mkF m 247 #[.val (.int z0), .val (.int z1), .val (.int z2), .val (.int z3), .val (.int nn), .val (.int kk), .val (.int cp), .val (.int q), .val (.int f), .val (.ref b), .val (.int (q + (3 : Int32))), .val (.int (3 : Int32)), .unset, .unset, .unset, .unset, .unset] [(.int (1 : Int32))])) _
          refine own_if X33 d0_247 (pc' := 425) (by decide) (fun (c247 : (1 : Int) = 0) => by exfalso; omega) (fun c247 => ?_)
          have c247 : ¬ ((1 : Int) = 0) := c247
          refine own_blk X33 B0_250_259 B0_250_259d (ls' := #[.val (.int z0), .val (.int z1), .val (.int z2), .val (.int z3), .val (.int nn), .val (.int kk), .val (.int cp), .val (.int q), .val (.int f), .val (.ref b), .val (.int (q + (3 : Int32))), .val (.int (3 : Int32)), .unset, .unset, .unset, .unset, .unset]) (st' := [(.int f), (.int (q + (3 : Int32))), (.int q), (.int (1 : Int32)), (.ref b)]) rfl ?_
          refine own_callP X33 (hw _ (List.mem_of_getElem? (i := 6) rfl)) (hw _ (List.mem_of_getElem? (i := 7) rfl)) (hw _ (List.mem_of_getElem? (i := 8) rfl)) (hw _ (List.mem_of_getElem? (i := 9) rfl)) (by decide) (c_kept l Z a0 hw b (1 : Int32) q (q + (3 : Int32)) f G h15 n0 X33.2.1 A32 (by decide) (fun q1 => ro _ (fun q2 => q1 (by rw [i3]; exact q2)))) d0_259 [(.ref b), (.int (1 : Int32)), (.int q), (.int (q + (3 : Int32))), (.int f)] [] rfl rfl pd2 rfl rfl (by decide) (Nat.le_of_ble_eq_true rfl) (by decide) (by decide) (fun T34 X34 => ?_)
          show own_G p e below (T34.setTop (mkF m 262 #[.val (.int z0), .val (.int z1), .val (.int z2), .val (.int z3), .val (.int nn), .val (.int kk), .val (.int cp), .val (.int q), .val (.int f), .val (.ref b), .val (.int (q + (3 : Int32))), .val (.int (3 : Int32)), .unset, .unset, .unset, .unset, .unset] [(.int (1 : Int32))])) _
          refine own_if X34 d0_262 (pc' := 425) (by decide) (fun (c262 : (1 : Int) = 0) => by exfalso; omega) (fun c262 => ?_)
          have c262 : ¬ ((1 : Int) = 0) := c262
          refine own_blk X34 B0_265_274 B0_265_274d (ls' := #[.val (.int z0), .val (.int z1), .val (.int z2), .val (.int z3), .val (.int nn), .val (.int kk), .val (.int cp), .val (.int q), .val (.int f), .val (.ref b), .val (.int (q + (3 : Int32))), .val (.int (3 : Int32)), .unset, .unset, .unset, .unset, .unset]) (st' := [(.int f), (.int (q + (3 : Int32))), (.int q), (.int (2 : Int32)), (.ref b)]) rfl ?_
          refine own_callP X34 (hw _ (List.mem_of_getElem? (i := 6) rfl)) (hw _ (List.mem_of_getElem? (i := 7) rfl)) (hw _ (List.mem_of_getElem? (i := 8) rfl)) (hw _ (List.mem_of_getElem? (i := 9) rfl)) (by decide) (c_kept l Z a0 hw b (2 : Int32) q (q + (3 : Int32)) f G h15 n0 X34.2.1 A32 (by decide) (fun q1 => ro _ (fun q2 => q1 (by rw [i3]; exact q2)))) d0_274 [(.ref b), (.int (2 : Int32)), (.int q), (.int (q + (3 : Int32))), (.int f)] [] rfl rfl pd2 rfl rfl (by decide) (Nat.le_of_ble_eq_true rfl) (by decide) (by decide) (fun T35 X35 => ?_)
          show own_G p e below (T35.setTop (mkF m 277 #[.val (.int z0), .val (.int z1), .val (.int z2), .val (.int z3), .val (.int nn), .val (.int kk), .val (.int cp), .val (.int q), .val (.int f), .val (.ref b), .val (.int (q + (3 : Int32))), .val (.int (3 : Int32)), .unset, .unset, .unset, .unset, .unset] [(.int (1 : Int32))])) _
          refine own_if X35 d0_277 (pc' := 425) (by decide) (fun (c277 : (1 : Int) = 0) => by exfalso; omega) (fun c277 => ?_)
          have c277 : ¬ ((1 : Int) = 0) := c277
          refine own_blk X35 B0_280_289 B0_280_289d (ls' := #[.val (.int z0), .val (.int z1), .val (.int z2), .val (.int z3), .val (.int nn), .val (.int kk), .val (.int cp), .val (.int q), .val (.int f), .val (.ref b), .val (.int (q + (3 : Int32))), .val (.int (3 : Int32)), .unset, .unset, .unset, .unset, .unset]) (st' := [(.int f), (.int (q + (3 : Int32))), (.int q), (.int (3 : Int32)), (.ref b)]) rfl ?_
          refine own_callP X35 (hw _ (List.mem_of_getElem? (i := 6) rfl)) (hw _ (List.mem_of_getElem? (i := 7) rfl)) (hw _ (List.mem_of_getElem? (i := 8) rfl)) (hw _ (List.mem_of_getElem? (i := 9) rfl)) (by decide) (c_kept l Z a0 hw b (3 : Int32) q (q + (3 : Int32)) f G h15 n0 X35.2.1 A32 (by decide) (fun q1 => ro _ (fun q2 => q1 (by rw [i3]; exact q2)))) d0_289 [(.ref b), (.int (3 : Int32)), (.int q), (.int (q + (3 : Int32))), (.int f)] [] rfl rfl pd2 rfl rfl (by decide) (Nat.le_of_ble_eq_true rfl) (by decide) (by decide) (fun T36 X36 => ?_)
          show own_G p e below (T36.setTop (mkF m 292 #[.val (.int z0), .val (.int z1), .val (.int z2), .val (.int z3), .val (.int nn), .val (.int kk), .val (.int cp), .val (.int q), .val (.int f), .val (.ref b), .val (.int (q + (3 : Int32))), .val (.int (3 : Int32)), .unset, .unset, .unset, .unset, .unset] [(.int (1 : Int32))])) _
          refine own_if X36 d0_292 (pc' := 425) (by decide) (fun (c292 : (1 : Int) = 0) => by exfalso; omega) (fun c292 => ?_)
          have c292 : ¬ ((1 : Int) = 0) := c292
          refine own_blk X36 B0_295_304 B0_295_304d (ls' := #[.val (.int z0), .val (.int z1), .val (.int z2), .val (.int z3), .val (.int nn), .val (.int kk), .val (.int cp), .val (.int q), .val (.int f), .val (.ref b), .val (.int (q + (3 : Int32))), .val (.int (3 : Int32)), .unset, .unset, .unset, .unset, .unset]) (st' := [(.int f), (.int (q + (3 : Int32))), (.int q), (.int (4 : Int32)), (.ref b)]) rfl ?_
          refine own_callP X36 (hw _ (List.mem_of_getElem? (i := 6) rfl)) (hw _ (List.mem_of_getElem? (i := 7) rfl)) (hw _ (List.mem_of_getElem? (i := 8) rfl)) (hw _ (List.mem_of_getElem? (i := 9) rfl)) (by decide) (c_kept l Z a0 hw b (4 : Int32) q (q + (3 : Int32)) f G h15 n0 X36.2.1 A32 (by decide) (fun q1 => ro _ (fun q2 => q1 (by rw [i3]; exact q2)))) d0_304 [(.ref b), (.int (4 : Int32)), (.int q), (.int (q + (3 : Int32))), (.int f)] [] rfl rfl pd2 rfl rfl (by decide) (Nat.le_of_ble_eq_true rfl) (by decide) (by decide) (fun T37 X37 => ?_)
          show own_G p e below (T37.setTop (mkF m 307 #[.val (.int z0), .val (.int z1), .val (.int z2), .val (.int z3), .val (.int nn), .val (.int kk), .val (.int cp), .val (.int q), .val (.int f), .val (.ref b), .val (.int (q + (3 : Int32))), .val (.int (3 : Int32)), .unset, .unset, .unset, .unset, .unset] [(.int (1 : Int32))])) _
          refine own_if X37 d0_307 (pc' := 425) (by decide) (fun (c307 : (1 : Int) = 0) => by exfalso; omega) (fun c307 => ?_)
          have c307 : ¬ ((1 : Int) = 0) := c307
          refine own_blk X37 B0_310_319 B0_310_319d (ls' := #[.val (.int z0), .val (.int z1), .val (.int z2), .val (.int z3), .val (.int nn), .val (.int kk), .val (.int cp), .val (.int q), .val (.int f), .val (.ref b), .val (.int (q + (3 : Int32))), .val (.int (3 : Int32)), .unset, .unset, .unset, .unset, .unset]) (st' := [(.int f), (.int (q + (3 : Int32))), (.int q), (.int (5 : Int32)), (.ref b)]) rfl ?_
          refine own_callP X37 (hw _ (List.mem_of_getElem? (i := 6) rfl)) (hw _ (List.mem_of_getElem? (i := 7) rfl)) (hw _ (List.mem_of_getElem? (i := 8) rfl)) (hw _ (List.mem_of_getElem? (i := 9) rfl)) (by decide) (c_kept l Z a0 hw b (5 : Int32) q (q + (3 : Int32)) f G h15 n0 X37.2.1 A32 (by decide) (fun q1 => ro _ (fun q2 => q1 (by rw [i3]; exact q2)))) d0_319 [(.ref b), (.int (5 : Int32)), (.int q), (.int (q + (3 : Int32))), (.int f)] [] rfl rfl pd2 rfl rfl (by decide) (Nat.le_of_ble_eq_true rfl) (by decide) (by decide) (fun T38 X38 => ?_)
          show own_G p e below (T38.setTop (mkF m 322 #[.val (.int z0), .val (.int z1), .val (.int z2), .val (.int z3), .val (.int nn), .val (.int kk), .val (.int cp), .val (.int q), .val (.int f), .val (.ref b), .val (.int (q + (3 : Int32))), .val (.int (3 : Int32)), .unset, .unset, .unset, .unset, .unset] [(.int (1 : Int32))])) _
          refine own_if X38 d0_322 (pc' := 425) (by decide) (fun (c322 : (1 : Int) = 0) => by exfalso; omega) (fun c322 => ?_)
          have c322 : ¬ ((1 : Int) = 0) := c322
          refine own_blk X38 B0_325_335 B0_325_335d (ls' := #[.val (.int z0), .val (.int z1), .val (.int z2), .val (.int z3), .val (.int nn), .val (.int kk), .val (.int cp), .val (.int q), .val (.int f), .val (.ref b), .val (.int (q + (3 : Int32))), .val (.int (3 : Int32)), .unset, .unset, .unset, .unset, .unset]) (st' := [(.int f), (.int (q + (3 : Int32))), (.int q), (.int (6 : Int32)), (.ref b)]) rfl ?_
          refine own_callP X38 (hw _ (List.mem_of_getElem? (i := 6) rfl)) (hw _ (List.mem_of_getElem? (i := 7) rfl)) (hw _ (List.mem_of_getElem? (i := 8) rfl)) (hw _ (List.mem_of_getElem? (i := 9) rfl)) (by decide) (c_kept l Z a0 hw b (6 : Int32) q (q + (3 : Int32)) f G h15 n0 X38.2.1 A32 (by decide) (fun q1 => ro _ (fun q2 => q1 (by rw [i3]; exact q2)))) d0_335 [(.ref b), (.int (6 : Int32)), (.int q), (.int (q + (3 : Int32))), (.int f)] [] rfl rfl pd2 rfl rfl (by decide) (Nat.le_of_ble_eq_true rfl) (by decide) (by decide) (fun T39 X39 => ?_)
          show own_G p e below (T39.setTop (mkF m 338 #[.val (.int z0), .val (.int z1), .val (.int z2), .val (.int z3), .val (.int nn), .val (.int kk), .val (.int cp), .val (.int q), .val (.int f), .val (.ref b), .val (.int (q + (3 : Int32))), .val (.int (3 : Int32)), .unset, .unset, .unset, .unset, .unset] [(.int (1 : Int32))])) _
          refine own_if X39 d0_338 (pc' := 425) (by decide) (fun (c338 : (1 : Int) = 0) => by exfalso; omega) (fun c338 => ?_)
          have c338 : ¬ ((1 : Int) = 0) := c338
          refine own_blk X39 B0_341_351 B0_341_351d (ls' := #[.val (.int z0), .val (.int z1), .val (.int z2), .val (.int z3), .val (.int nn), .val (.int kk), .val (.int cp), .val (.int q), .val (.int f), .val (.ref b), .val (.int (q + (3 : Int32))), .val (.int (3 : Int32)), .unset, .unset, .unset, .unset, .unset]) (st' := [(.int f), (.int (q + (3 : Int32))), (.int q), (.int (7 : Int32)), (.ref b)]) rfl ?_
          refine own_callP X39 (hw _ (List.mem_of_getElem? (i := 6) rfl)) (hw _ (List.mem_of_getElem? (i := 7) rfl)) (hw _ (List.mem_of_getElem? (i := 8) rfl)) (hw _ (List.mem_of_getElem? (i := 9) rfl)) (by decide) (c_kept l Z a0 hw b (7 : Int32) q (q + (3 : Int32)) f G h15 n0 X39.2.1 A32 (by decide) (fun q1 => ro _ (fun q2 => q1 (by rw [i3]; exact q2)))) d0_351 [(.ref b), (.int (7 : Int32)), (.int q), (.int (q + (3 : Int32))), (.int f)] [] rfl rfl pd2 rfl rfl (by decide) (Nat.le_of_ble_eq_true rfl) (by decide) (by decide) (fun T40 X40 => ?_)
          show own_G p e below (T40.setTop (mkF m 354 #[.val (.int z0), .val (.int z1), .val (.int z2), .val (.int z3), .val (.int nn), .val (.int kk), .val (.int cp), .val (.int q), .val (.int f), .val (.ref b), .val (.int (q + (3 : Int32))), .val (.int (3 : Int32)), .unset, .unset, .unset, .unset, .unset] [(.int (1 : Int32))])) _
          refine own_if X40 d0_354 (pc' := 425) (by decide) (fun (c354 : (1 : Int) = 0) => by exfalso; omega) (fun c354 => ?_)
          have c354 : ¬ ((1 : Int) = 0) := c354
          refine own_blk X40 B0_357_367 B0_357_367d (ls' := #[.val (.int z0), .val (.int z1), .val (.int z2), .val (.int z3), .val (.int nn), .val (.int kk), .val (.int cp), .val (.int q), .val (.int f), .val (.ref b), .val (.int (q + (3 : Int32))), .val (.int (3 : Int32)), .unset, .unset, .unset, .unset, .unset]) (st' := [(.int f), (.int (q + (3 : Int32))), (.int q), (.int (8 : Int32)), (.ref b)]) rfl ?_
          refine own_callP X40 (hw _ (List.mem_of_getElem? (i := 6) rfl)) (hw _ (List.mem_of_getElem? (i := 7) rfl)) (hw _ (List.mem_of_getElem? (i := 8) rfl)) (hw _ (List.mem_of_getElem? (i := 9) rfl)) (by decide) (c_kept l Z a0 hw b (8 : Int32) q (q + (3 : Int32)) f G h15 n0 X40.2.1 A32 (by decide) (fun q1 => ro _ (fun q2 => q1 (by rw [i3]; exact q2)))) d0_367 [(.ref b), (.int (8 : Int32)), (.int q), (.int (q + (3 : Int32))), (.int f)] [] rfl rfl pd2 rfl rfl (by decide) (Nat.le_of_ble_eq_true rfl) (by decide) (by decide) (fun T41 X41 => ?_)
          show own_G p e below (T41.setTop (mkF m 370 #[.val (.int z0), .val (.int z1), .val (.int z2), .val (.int z3), .val (.int nn), .val (.int kk), .val (.int cp), .val (.int q), .val (.int f), .val (.ref b), .val (.int (q + (3 : Int32))), .val (.int (3 : Int32)), .unset, .unset, .unset, .unset, .unset] [(.int (1 : Int32))])) _
          refine own_if X41 d0_370 (pc' := 425) (by decide) (fun (c370 : (1 : Int) = 0) => by exfalso; omega) (fun c370 => ?_)
          have c370 : ¬ ((1 : Int) = 0) := c370
          refine own_blk X41 B0_373_383 B0_373_383d (ls' := #[.val (.int z0), .val (.int z1), .val (.int z2), .val (.int z3), .val (.int nn), .val (.int kk), .val (.int cp), .val (.int q), .val (.int f), .val (.ref b), .val (.int (q + (3 : Int32))), .val (.int (3 : Int32)), .unset, .unset, .unset, .unset, .unset]) (st' := [(.int f), (.int (q + (3 : Int32))), (.int q), (.int (9 : Int32)), (.ref b)]) rfl ?_
          refine own_callP X41 (hw _ (List.mem_of_getElem? (i := 6) rfl)) (hw _ (List.mem_of_getElem? (i := 7) rfl)) (hw _ (List.mem_of_getElem? (i := 8) rfl)) (hw _ (List.mem_of_getElem? (i := 9) rfl)) (by decide) (c_kept l Z a0 hw b (9 : Int32) q (q + (3 : Int32)) f G h15 n0 X41.2.1 A32 (by decide) (fun q1 => ro _ (fun q2 => q1 (by rw [i3]; exact q2)))) d0_383 [(.ref b), (.int (9 : Int32)), (.int q), (.int (q + (3 : Int32))), (.int f)] [] rfl rfl pd2 rfl rfl (by decide) (Nat.le_of_ble_eq_true rfl) (by decide) (by decide) (fun T42 X42 => ?_)
          show own_G p e below (T42.setTop (mkF m 386 #[.val (.int z0), .val (.int z1), .val (.int z2), .val (.int z3), .val (.int nn), .val (.int kk), .val (.int cp), .val (.int q), .val (.int f), .val (.ref b), .val (.int (q + (3 : Int32))), .val (.int (3 : Int32)), .unset, .unset, .unset, .unset, .unset] [(.int (1 : Int32))])) _
          refine own_if X42 d0_386 (pc' := 425) (by decide) (fun (c386 : (1 : Int) = 0) => by exfalso; omega) (fun c386 => ?_)
          have c386 : ¬ ((1 : Int) = 0) := c386
          refine own_blk X42 B0_389_399 B0_389_399d (ls' := #[.val (.int z0), .val (.int z1), .val (.int z2), .val (.int z3), .val (.int nn), .val (.int kk), .val (.int cp), .val (.int q), .val (.int f), .val (.ref b), .val (.int (q + (3 : Int32))), .val (.int (3 : Int32)), .unset, .unset, .unset, .unset, .unset]) (st' := [(.int f), (.int (q + (3 : Int32))), (.int q), (.int (10 : Int32)), (.ref b)]) rfl ?_
          refine own_callP X42 (hw _ (List.mem_of_getElem? (i := 6) rfl)) (hw _ (List.mem_of_getElem? (i := 7) rfl)) (hw _ (List.mem_of_getElem? (i := 8) rfl)) (hw _ (List.mem_of_getElem? (i := 9) rfl)) (by decide) (c_kept l Z a0 hw b (10 : Int32) q (q + (3 : Int32)) f G h15 n0 X42.2.1 A32 (by decide) (fun q1 => ro _ (fun q2 => q1 (by rw [i3]; exact q2)))) d0_399 [(.ref b), (.int (10 : Int32)), (.int q), (.int (q + (3 : Int32))), (.int f)] [] rfl rfl pd2 rfl rfl (by decide) (Nat.le_of_ble_eq_true rfl) (by decide) (by decide) (fun T43 X43 => ?_)
          show own_G p e below (T43.setTop (mkF m 402 #[.val (.int z0), .val (.int z1), .val (.int z2), .val (.int z3), .val (.int nn), .val (.int kk), .val (.int cp), .val (.int q), .val (.int f), .val (.ref b), .val (.int (q + (3 : Int32))), .val (.int (3 : Int32)), .unset, .unset, .unset, .unset, .unset] [(.int (1 : Int32))])) _
          refine own_if X43 d0_402 (pc' := 425) (by decide) (fun (c402 : (1 : Int) = 0) => by exfalso; omega) (fun c402 => ?_)
          have c402 : ¬ ((1 : Int) = 0) := c402
          refine own_blk X43 B0_405_415 B0_405_415d (ls' := #[.val (.int z0), .val (.int z1), .val (.int z2), .val (.int z3), .val (.int nn), .val (.int kk), .val (.int cp), .val (.int q), .val (.int f), .val (.ref b), .val (.int (q + (3 : Int32))), .val (.int (3 : Int32)), .unset, .unset, .unset, .unset, .unset]) (st' := [(.int f), (.int (q + (3 : Int32))), (.int q), (.int (11 : Int32)), (.ref b)]) rfl ?_
          refine own_callP X43 (hw _ (List.mem_of_getElem? (i := 6) rfl)) (hw _ (List.mem_of_getElem? (i := 7) rfl)) (hw _ (List.mem_of_getElem? (i := 8) rfl)) (hw _ (List.mem_of_getElem? (i := 9) rfl)) (by decide) (c_kept l Z a0 hw b (11 : Int32) q (q + (3 : Int32)) f G h15 n0 X43.2.1 A32 (by decide) (fun q1 => ro _ (fun q2 => q1 (by rw [i3]; exact q2)))) d0_415 [(.ref b), (.int (11 : Int32)), (.int q), (.int (q + (3 : Int32))), (.int f)] [] rfl rfl pd2 rfl rfl (by decide) (Nat.le_of_ble_eq_true rfl) (by decide) (by decide) (fun T44 X44 => ?_)
          show own_G p e below (T44.setTop (mkF m 418 #[.val (.int z0), .val (.int z1), .val (.int z2), .val (.int z3), .val (.int nn), .val (.int kk), .val (.int cp), .val (.int q), .val (.int f), .val (.ref b), .val (.int (q + (3 : Int32))), .val (.int (3 : Int32)), .unset, .unset, .unset, .unset, .unset] [(.int (1 : Int32))])) _
          refine own_if X44 d0_418 (pc' := 425) (by decide) (fun (c418 : (1 : Int) = 0) => by exfalso; omega) (fun c418 => ?_)
          have c418 : ¬ ((1 : Int) = 0) := c418
          refine own_blk X44 B0_421_422 B0_421_422d (ls' := #[.val (.int z0), .val (.int z1), .val (.int z2), .val (.int z3), .val (.int nn), .val (.int kk), .val (.int cp), .val (.int q), .val (.int f), .val (.ref b), .val (.int (q + (3 : Int32))), .val (.int (3 : Int32)), .unset, .unset, .unset, .unset, .unset]) (st' := [(.int (1 : Int32))]) rfl ?_
          refine own_goto X44 d0_422 (pc' := 426) (by decide) ?_
          refine own_blk X44 B0_426_430 B0_426_430d (ls' := #[.val (.int z0), .val (.int z1), .val (.int z2), .val (.int z3), .val (.int nn), .val (.int kk), .val (.int cp), .val (.int q), .val (.int f), .val (.ref b), .val (.int (q + (3 : Int32))), .val (.int (3 : Int32)), .val (.int (1 : Int32)), .unset, .unset, .unset, .unset]) (st' := [(.int (1 : Int32))]) rfl ?_
          refine own_if X44 d0_430 (pc' := 435) (by decide) (fun c430 => ?_) (fun (c430 : ¬ (¬ (1 : Int) = 0)) => by exfalso; omega)
          have c430 : ¬ (1 : Int) = 0 := c430
          refine own_blk X44 B0_435_439 B0_435_439d (ls' := #[.val (.int z0), .val (.int z1), .val (.int z2), .val (.int z3), .val (.int nn), .val (.int kk), .val (.int cp), .val (.int q), .val (.int f), .val (.ref b), .val (.int (q + (3 : Int32))), .val (.int (3 : Int32)), .val (.int (1 : Int32)), .unset, .unset, .unset, .unset]) (st' := [(.int q), (.ref b)]) rfl ?_
          refine own_bald X44 A32 d0_439 (by omega) (by omega) ?_
          show own_G p e below (T44.setTop (mkF m 440 #[.val (.int z0), .val (.int z1), .val (.int z2), .val (.int z3), .val (.int nn), .val (.int kk), .val (.int cp), .val (.int q), .val (.int f), .val (.ref b), .val (.int (q + (3 : Int32))), .val (.int (3 : Int32)), .val (.int (1 : Int32)), .unset, .unset, .unset, .unset] [(.int (G q.toInt))])) _
          refine own_blk X44 B0_440_446 B0_440_446d (ls' := #[.val (.int z0), .val (.int z1), .val (.int z2), .val (.int z3), .val (.int nn), .val (.int kk), .val (.int cp), .val (.int q), .val (.int f), .val (.ref b), .val (.int (q + (3 : Int32))), .val (.int (3 : Int32)), .val (.int (1 : Int32)), .val (.int ((G q.toInt) &&& (255 : Int32))), .unset, .unset, .unset]) (st' := []) rfl ?_
          generalize eb0 : ((G q.toInt) &&& (255 : Int32)) = b0
          have hb0 : b0.toInt = 224 + cp.toInt / 4096 := by rw [← eb0, r0]; exact own_x3 hc0 (by omega)
          refine own_blk X44 B0_446_449 B0_446_449d (ls' := #[.val (.int z0), .val (.int z1), .val (.int z2), .val (.int z3), .val (.int nn), .val (.int kk), .val (.int cp), .val (.int q), .val (.int f), .val (.ref b), .val (.int (q + (3 : Int32))), .val (.int (3 : Int32)), .val (.int (1 : Int32)), .val (.int b0), .unset, .unset, .unset]) (st' := [(.int (1 : Int32)), (.int (3 : Int32))]) rfl ?_
          refine own_icmp X44 d0_449 (pc' := 465) (by decide) (fun c449 => ?_) (fun (c449 : ¬ (¬ (3 : Int) = 1)) => by exfalso; omega)
          have c449 : ¬ (3 : Int) = 1 := c449
          refine own_blk X44 B0_465_471 B0_465_471d (ls' := #[.val (.int z0), .val (.int z1), .val (.int z2), .val (.int z3), .val (.int nn), .val (.int kk), .val (.int cp), .val (.int q), .val (.int f), .val (.ref b), .val (.int (q + (3 : Int32))), .val (.int (3 : Int32)), .val (.int (1 : Int32)), .val (.int b0), .unset, .unset, .unset]) (st' := [(.int (q + (1 : Int32))), (.ref b)]) rfl ?_
          refine own_bald X44 A32 d0_471 (by omega) (by omega) ?_
          show own_G p e below (T44.setTop (mkF m 472 #[.val (.int z0), .val (.int z1), .val (.int z2), .val (.int z3), .val (.int nn), .val (.int kk), .val (.int cp), .val (.int q), .val (.int f), .val (.ref b), .val (.int (q + (3 : Int32))), .val (.int (3 : Int32)), .val (.int (1 : Int32)), .val (.int b0), .unset, .unset, .unset] [(.int (G (q + (1 : Int32)).toInt))])) _
          refine own_blk X44 B0_472_478 B0_472_478d (ls' := #[.val (.int z0), .val (.int z1), .val (.int z2), .val (.int z3), .val (.int nn), .val (.int kk), .val (.int cp), .val (.int q), .val (.int f), .val (.ref b), .val (.int (q + (3 : Int32))), .val (.int (3 : Int32)), .val (.int (1 : Int32)), .val (.int b0), .val (.int ((G (q + (1 : Int32)).toInt) &&& (255 : Int32))), .unset, .unset]) (st' := []) rfl ?_
          generalize eb1 : ((G (q + (1 : Int32)).toInt) &&& (255 : Int32)) = b1
          have hb1 : b1.toInt = 128 + cp.toInt / 64 % 64 := by rw [← eb1, i1, r1]; exact own_xs 6 (by decide)
          have hct1 : own_ct b1 = 1 := by rw [own_ct, own_h192 (by omega) (by omega), if_pos (by omega)]
          refine own_blk X44 B0_478_480 B0_478_480d (ls' := #[.val (.int z0), .val (.int z1), .val (.int z2), .val (.int z3), .val (.int nn), .val (.int kk), .val (.int cp), .val (.int q), .val (.int f), .val (.ref b), .val (.int (q + (3 : Int32))), .val (.int (3 : Int32)), .val (.int (1 : Int32)), .val (.int b0), .val (.int b1), .unset, .unset]) (st' := [(.int b1)]) rfl ?_
          refine own_callP X44 (hw _ (List.mem_of_getElem? (i := 13) rfl)) (hw _ (List.mem_of_getElem? (i := 14) rfl)) (hw _ (List.mem_of_getElem? (i := 8) rfl)) (hw _ (List.mem_of_getElem? (i := 15) rfl)) (by decide) (c_cont l Z a0 hw b1 h15 n0 X44.2.1) d0_480 [(.int b1)] [] rfl rfl pd3 rfl rfl (by decide) (Nat.le_of_ble_eq_true rfl) (by decide) (by decide) (fun T45 X45 => ?_)
          show own_G p e below (T45.setTop (mkF m 483 #[.val (.int z0), .val (.int z1), .val (.int z2), .val (.int z3), .val (.int nn), .val (.int kk), .val (.int cp), .val (.int q), .val (.int f), .val (.ref b), .val (.int (q + (3 : Int32))), .val (.int (3 : Int32)), .val (.int (1 : Int32)), .val (.int b0), .val (.int b1), .unset, .unset] [(.int (own_ct b1))])) _
          rw [hct1]
          refine own_if X45 d0_483 (pc' := 488) (by decide) (fun c483 => ?_) (fun (c483 : ¬ (¬ (1 : Int) = 0)) => by exfalso; omega)
          have c483 : ¬ (1 : Int) = 0 := c483
          refine own_blk X45 B0_488_491 B0_488_491d (ls' := #[.val (.int z0), .val (.int z1), .val (.int z2), .val (.int z3), .val (.int nn), .val (.int kk), .val (.int cp), .val (.int q), .val (.int f), .val (.ref b), .val (.int (q + (3 : Int32))), .val (.int (3 : Int32)), .val (.int (1 : Int32)), .val (.int b0), .val (.int b1), .unset, .unset]) (st' := [(.int (2 : Int32)), (.int (3 : Int32))]) rfl ?_
          refine own_icmp X45 d0_491 (pc' := 531) (by decide) (fun c491 => ?_) (fun (c491 : ¬ (¬ (3 : Int) = 2)) => by exfalso; omega)
          have c491 : ¬ (3 : Int) = 2 := c491
          refine own_blk X45 B0_531_537 B0_531_537d (ls' := #[.val (.int z0), .val (.int z1), .val (.int z2), .val (.int z3), .val (.int nn), .val (.int kk), .val (.int cp), .val (.int q), .val (.int f), .val (.ref b), .val (.int (q + (3 : Int32))), .val (.int (3 : Int32)), .val (.int (1 : Int32)), .val (.int b0), .val (.int b1), .unset, .unset]) (st' := [(.int (q + (2 : Int32))), (.ref b)]) rfl ?_
          refine own_bald X45 A32 d0_537 (by omega) (by omega) ?_
          show own_G p e below (T45.setTop (mkF m 538 #[.val (.int z0), .val (.int z1), .val (.int z2), .val (.int z3), .val (.int nn), .val (.int kk), .val (.int cp), .val (.int q), .val (.int f), .val (.ref b), .val (.int (q + (3 : Int32))), .val (.int (3 : Int32)), .val (.int (1 : Int32)), .val (.int b0), .val (.int b1), .unset, .unset] [(.int (G (q + (2 : Int32)).toInt))])) _
          refine own_blk X45 B0_538_544 B0_538_544d (ls' := #[.val (.int z0), .val (.int z1), .val (.int z2), .val (.int z3), .val (.int nn), .val (.int kk), .val (.int cp), .val (.int q), .val (.int f), .val (.ref b), .val (.int (q + (3 : Int32))), .val (.int (3 : Int32)), .val (.int (1 : Int32)), .val (.int b0), .val (.int b1), .val (.int ((G (q + (2 : Int32)).toInt) &&& (255 : Int32))), .unset]) (st' := []) rfl ?_
          generalize eb2 : ((G (q + (2 : Int32)).toInt) &&& (255 : Int32)) = b2
          have hb2 : b2.toInt = 128 + cp.toInt % 64 := by rw [← eb2, i2, r2]; exact own_xl cp
          have hct2 : own_ct b2 = 1 := by rw [own_ct, own_h192 (by omega) (by omega), if_pos (by omega)]
          refine own_blk X45 B0_544_546 B0_544_546d (ls' := #[.val (.int z0), .val (.int z1), .val (.int z2), .val (.int z3), .val (.int nn), .val (.int kk), .val (.int cp), .val (.int q), .val (.int f), .val (.ref b), .val (.int (q + (3 : Int32))), .val (.int (3 : Int32)), .val (.int (1 : Int32)), .val (.int b0), .val (.int b1), .val (.int b2), .unset]) (st' := [(.int b2)]) rfl ?_
          refine own_callP X45 (hw _ (List.mem_of_getElem? (i := 13) rfl)) (hw _ (List.mem_of_getElem? (i := 14) rfl)) (hw _ (List.mem_of_getElem? (i := 8) rfl)) (hw _ (List.mem_of_getElem? (i := 15) rfl)) (by decide) (c_cont l Z a0 hw b2 h15 n0 X45.2.1) d0_546 [(.int b2)] [] rfl rfl pd3 rfl rfl (by decide) (Nat.le_of_ble_eq_true rfl) (by decide) (by decide) (fun T46 X46 => ?_)
          show own_G p e below (T46.setTop (mkF m 549 #[.val (.int z0), .val (.int z1), .val (.int z2), .val (.int z3), .val (.int nn), .val (.int kk), .val (.int cp), .val (.int q), .val (.int f), .val (.ref b), .val (.int (q + (3 : Int32))), .val (.int (3 : Int32)), .val (.int (1 : Int32)), .val (.int b0), .val (.int b1), .val (.int b2), .unset] [(.int (own_ct b2))])) _
          rw [hct2]
          refine own_if X46 d0_549 (pc' := 554) (by decide) (fun c549 => ?_) (fun (c549 : ¬ (¬ (1 : Int) = 0)) => by exfalso; omega)
          have c549 : ¬ (1 : Int) = 0 := c549
          refine own_blk X46 B0_554_557 B0_554_557d (ls' := #[.val (.int z0), .val (.int z1), .val (.int z2), .val (.int z3), .val (.int nn), .val (.int kk), .val (.int cp), .val (.int q), .val (.int f), .val (.ref b), .val (.int (q + (3 : Int32))), .val (.int (3 : Int32)), .val (.int (1 : Int32)), .val (.int b0), .val (.int b1), .val (.int b2), .unset]) (st' := [(.int (3 : Int32)), (.int (3 : Int32))]) rfl ?_
          refine own_icmp X46 d0_557 (pc' := 606) (by decide) (fun (c557 : ¬ (3 : Int) = 3) => by exfalso; omega) (fun c557 => ?_)
          have c557 : ¬ (¬ (3 : Int) = 3) := c557
          refine own_blk X46 B0_560_569 B0_560_569d (ls' := #[.val (.int z0), .val (.int z1), .val (.int z2), .val (.int z3), .val (.int nn), .val (.int kk), .val (.int cp), .val (.int q), .val (.int f), .val (.ref b), .val (.int (q + (3 : Int32))), .val (.int (3 : Int32)), .val (.int (1 : Int32)), .val (.int b0), .val (.int b1), .val (.int b2), .unset]) (st' := [(.int (224 : Int32)), (.int (b0 &&& (240 : Int32)))]) rfl ?_
          refine own_icmp X46 d0_569 (pc' := 604) (by decide) (fun (c569 : ¬ (b0 &&& (240 : Int32)).toInt = 224) => by exfalso; exact c569 (by rw [own_h240 (by omega) (by omega)]; omega)) (fun c569 => ?_)
          have c569 : ¬ (¬ (b0 &&& (240 : Int32)).toInt = 224) := c569
          refine own_blk X46 B0_572_597 B0_572_597d (ls' := #[.val (.int z0), .val (.int z1), .val (.int z2), .val (.int z3), .val (.int nn), .val (.int kk), .val (.int cp), .val (.int q), .val (.int f), .val (.ref b), .val (.int (q + (3 : Int32))), .val (.int (3 : Int32)), .val (.int (1 : Int32)), .val (.int b0), .val (.int b1), .val (.int b2), .unset]) (st' := [(.int (((((b0 &&& (15 : Int32)) * (64 : Int32)) + (b1 &&& (63 : Int32))) * (64 : Int32)) + (b2 &&& (63 : Int32)))), (.int cp)]) rfl ?_
          refine own_icmp X46 d0_597 (pc' := 604) (by decide) (fun (c597 : ¬ cp.toInt = (((((b0 &&& (15 : Int32)) * (64 : Int32)) + (b1 &&& (63 : Int32))) * (64 : Int32)) + (b2 &&& (63 : Int32))).toInt) => by exfalso; have m0 := own_mk b0 15 4 (by decide) (by decide); have m1 := own_m63 b1; have m2 := own_m63 b2; have s1 := own_ma (x := b0 &&& 15) (y := b1 &&& 63) (by omega) (by omega) (by omega) (by omega); exact c597 (by rw [own_ma (by omega) (by omega) (by omega) (by omega)]; omega)) (fun c597 => ?_)
          have c597 : ¬ (¬ cp.toInt = (((((b0 &&& (15 : Int32)) * (64 : Int32)) + (b1 &&& (63 : Int32))) * (64 : Int32)) + (b2 &&& (63 : Int32))).toInt) := c597
          refine own_blk X46 B0_600_601 B0_600_601d (ls' := #[.val (.int z0), .val (.int z1), .val (.int z2), .val (.int z3), .val (.int nn), .val (.int kk), .val (.int cp), .val (.int q), .val (.int f), .val (.ref b), .val (.int (q + (3 : Int32))), .val (.int (3 : Int32)), .val (.int (1 : Int32)), .val (.int b0), .val (.int b1), .val (.int b2), .unset]) (st' := [(.int (1 : Int32))]) rfl ?_
          refine own_goto X46 d0_601 (pc' := 605) (by decide) ?_
          exact own_retN X46 (by simp) d0_605 (v' := (1 : Int32)) (rfl) (by decide) (by decide) (rfl)
      · have c202 : ¬ (2048 ≤ cp.toInt) := c202
        refine own_blk X15 B0_205_206 B0_205_206d (ls' := #[.val (.int z0), .val (.int z1), .val (.int z2), .val (.int z3), .val (.int nn), .val (.int kk), .val (.int cp), .val (.int q), .val (.int f), .val (.ref b), .val (.int (own_end cp q)), .unset, .unset, .unset, .unset, .unset, .unset]) (st' := [(.int (2 : Int32))]) rfl ?_
        refine own_goto X15 d0_206 (pc' := 221) (by decide) ?_
        have A47 : own_I Z h15 b .byte 12 (own_u (own_u (fun _ => f) (q.toInt) (own_i2b (192 ||| own_ishr cp 6))) (q.toInt + 1) (own_i2b (128 ||| (cp &&& 63)))) := by have q1 := A15; rw [own_enc, if_neg (by omega), if_pos (by omega)] at q1; exact q1
        have hend : own_end cp q = q + (2 : Int32) := by rw [own_end, if_neg (by omega), if_pos (by omega)]
        rw [hend]
        generalize eG : (own_u (own_u (fun _ => f) (q.toInt) (own_i2b (192 ||| own_ishr cp 6))) (q.toInt + 1) (own_i2b (128 ||| (cp &&& 63)))) = G at A47
        have r0 : G (q.toInt) = own_i2b (192 ||| own_ishr cp 6) := by rw [← eG, own_u_ne (by omega), own_u_eq (by omega)]
        have r1 : G (q.toInt + 1) = own_i2b (128 ||| (cp &&& 63)) := by rw [← eG, own_u_eq (by omega)]
        have ro : ∀ j : Int, ¬ (q.toInt ≤ j ∧ j < q.toInt + 2) → G j = f := by intro j hj; rw [← eG, own_u_ne (by omega), own_u_ne (by omega)]
        refine own_blk X15 B0_221_230 B0_221_230d (ls' := #[.val (.int z0), .val (.int z1), .val (.int z2), .val (.int z3), .val (.int nn), .val (.int kk), .val (.int cp), .val (.int q), .val (.int f), .val (.ref b), .val (.int (q + (2 : Int32))), .val (.int (2 : Int32)), .unset, .unset, .unset, .unset, .unset]) (st' := [(.int (q + (2 : Int32))), (.int (q + (2 : Int32)))]) rfl ?_
        refine own_icmp X15 d0_230 (pc' := 235) (by decide) (fun c230 => ?_) (fun (c230 : ¬ ((q + (2 : Int32)).toInt = (q + (2 : Int32)).toInt)) => by exfalso; exact c230 rfl)
        have c230 : (q + (2 : Int32)).toInt = (q + (2 : Int32)).toInt := c230
        refine own_blk X15 B0_235_244 B0_235_244d (ls' := #[.val (.int z0), .val (.int z1), .val (.int z2), .val (.int z3), .val (.int nn), .val (.int kk), .val (.int cp), .val (.int q), .val (.int f), .val (.ref b), .val (.int (q + (2 : Int32))), .val (.int (2 : Int32)), .unset, .unset, .unset, .unset, .unset]) (st' := [(.int f), (.int (q + (2 : Int32))), (.int q), (.int (0 : Int32)), (.ref b)]) rfl ?_
        refine own_callP X15 (hw _ (List.mem_of_getElem? (i := 6) rfl)) (hw _ (List.mem_of_getElem? (i := 7) rfl)) (hw _ (List.mem_of_getElem? (i := 8) rfl)) (hw _ (List.mem_of_getElem? (i := 9) rfl)) (by decide) (c_kept l Z a0 hw b (0 : Int32) q (q + (2 : Int32)) f G h15 n0 X15.2.1 A47 (by decide) (fun q1 => ro _ (fun q2 => q1 (by rw [i2]; exact q2)))) d0_244 [(.ref b), (.int (0 : Int32)), (.int q), (.int (q + (2 : Int32))), (.int f)] [] rfl rfl pd2 rfl rfl (by decide) (Nat.le_of_ble_eq_true rfl) (by decide) (by decide) (fun T48 X48 => ?_)
        show own_G p e below (T48.setTop (mkF m 247 #[.val (.int z0), .val (.int z1), .val (.int z2), .val (.int z3), .val (.int nn), .val (.int kk), .val (.int cp), .val (.int q), .val (.int f), .val (.ref b), .val (.int (q + (2 : Int32))), .val (.int (2 : Int32)), .unset, .unset, .unset, .unset, .unset] [(.int (1 : Int32))])) _
        refine own_if X48 d0_247 (pc' := 425) (by decide) (fun (c247 : (1 : Int) = 0) => by exfalso; omega) (fun c247 => ?_)
        have c247 : ¬ ((1 : Int) = 0) := c247
        refine own_blk X48 B0_250_259 B0_250_259d (ls' := #[.val (.int z0), .val (.int z1), .val (.int z2), .val (.int z3), .val (.int nn), .val (.int kk), .val (.int cp), .val (.int q), .val (.int f), .val (.ref b), .val (.int (q + (2 : Int32))), .val (.int (2 : Int32)), .unset, .unset, .unset, .unset, .unset]) (st' := [(.int f), (.int (q + (2 : Int32))), (.int q), (.int (1 : Int32)), (.ref b)]) rfl ?_
        refine own_callP X48 (hw _ (List.mem_of_getElem? (i := 6) rfl)) (hw _ (List.mem_of_getElem? (i := 7) rfl)) (hw _ (List.mem_of_getElem? (i := 8) rfl)) (hw _ (List.mem_of_getElem? (i := 9) rfl)) (by decide) (c_kept l Z a0 hw b (1 : Int32) q (q + (2 : Int32)) f G h15 n0 X48.2.1 A47 (by decide) (fun q1 => ro _ (fun q2 => q1 (by rw [i2]; exact q2)))) d0_259 [(.ref b), (.int (1 : Int32)), (.int q), (.int (q + (2 : Int32))), (.int f)] [] rfl rfl pd2 rfl rfl (by decide) (Nat.le_of_ble_eq_true rfl) (by decide) (by decide) (fun T49 X49 => ?_)
        show own_G p e below (T49.setTop (mkF m 262 #[.val (.int z0), .val (.int z1), .val (.int z2), .val (.int z3), .val (.int nn), .val (.int kk), .val (.int cp), .val (.int q), .val (.int f), .val (.ref b), .val (.int (q + (2 : Int32))), .val (.int (2 : Int32)), .unset, .unset, .unset, .unset, .unset] [(.int (1 : Int32))])) _
        refine own_if X49 d0_262 (pc' := 425) (by decide) (fun (c262 : (1 : Int) = 0) => by exfalso; omega) (fun c262 => ?_)
        have c262 : ¬ ((1 : Int) = 0) := c262
        refine own_blk X49 B0_265_274 B0_265_274d (ls' := #[.val (.int z0), .val (.int z1), .val (.int z2), .val (.int z3), .val (.int nn), .val (.int kk), .val (.int cp), .val (.int q), .val (.int f), .val (.ref b), .val (.int (q + (2 : Int32))), .val (.int (2 : Int32)), .unset, .unset, .unset, .unset, .unset]) (st' := [(.int f), (.int (q + (2 : Int32))), (.int q), (.int (2 : Int32)), (.ref b)]) rfl ?_
        refine own_callP X49 (hw _ (List.mem_of_getElem? (i := 6) rfl)) (hw _ (List.mem_of_getElem? (i := 7) rfl)) (hw _ (List.mem_of_getElem? (i := 8) rfl)) (hw _ (List.mem_of_getElem? (i := 9) rfl)) (by decide) (c_kept l Z a0 hw b (2 : Int32) q (q + (2 : Int32)) f G h15 n0 X49.2.1 A47 (by decide) (fun q1 => ro _ (fun q2 => q1 (by rw [i2]; exact q2)))) d0_274 [(.ref b), (.int (2 : Int32)), (.int q), (.int (q + (2 : Int32))), (.int f)] [] rfl rfl pd2 rfl rfl (by decide) (Nat.le_of_ble_eq_true rfl) (by decide) (by decide) (fun T50 X50 => ?_)
        show own_G p e below (T50.setTop (mkF m 277 #[.val (.int z0), .val (.int z1), .val (.int z2), .val (.int z3), .val (.int nn), .val (.int kk), .val (.int cp), .val (.int q), .val (.int f), .val (.ref b), .val (.int (q + (2 : Int32))), .val (.int (2 : Int32)), .unset, .unset, .unset, .unset, .unset] [(.int (1 : Int32))])) _
        refine own_if X50 d0_277 (pc' := 425) (by decide) (fun (c277 : (1 : Int) = 0) => by exfalso; omega) (fun c277 => ?_)
        have c277 : ¬ ((1 : Int) = 0) := c277
        refine own_blk X50 B0_280_289 B0_280_289d (ls' := #[.val (.int z0), .val (.int z1), .val (.int z2), .val (.int z3), .val (.int nn), .val (.int kk), .val (.int cp), .val (.int q), .val (.int f), .val (.ref b), .val (.int (q + (2 : Int32))), .val (.int (2 : Int32)), .unset, .unset, .unset, .unset, .unset]) (st' := [(.int f), (.int (q + (2 : Int32))), (.int q), (.int (3 : Int32)), (.ref b)]) rfl ?_
        refine own_callP X50 (hw _ (List.mem_of_getElem? (i := 6) rfl)) (hw _ (List.mem_of_getElem? (i := 7) rfl)) (hw _ (List.mem_of_getElem? (i := 8) rfl)) (hw _ (List.mem_of_getElem? (i := 9) rfl)) (by decide) (c_kept l Z a0 hw b (3 : Int32) q (q + (2 : Int32)) f G h15 n0 X50.2.1 A47 (by decide) (fun q1 => ro _ (fun q2 => q1 (by rw [i2]; exact q2)))) d0_289 [(.ref b), (.int (3 : Int32)), (.int q), (.int (q + (2 : Int32))), (.int f)] [] rfl rfl pd2 rfl rfl (by decide) (Nat.le_of_ble_eq_true rfl) (by decide) (by decide) (fun T51 X51 => ?_)
        show own_G p e below (T51.setTop (mkF m 292 #[.val (.int z0), .val (.int z1), .val (.int z2), .val (.int z3), .val (.int nn), .val (.int kk), .val (.int cp), .val (.int q), .val (.int f), .val (.ref b), .val (.int (q + (2 : Int32))), .val (.int (2 : Int32)), .unset, .unset, .unset, .unset, .unset] [(.int (1 : Int32))])) _
        refine own_if X51 d0_292 (pc' := 425) (by decide) (fun (c292 : (1 : Int) = 0) => by exfalso; omega) (fun c292 => ?_)
        have c292 : ¬ ((1 : Int) = 0) := c292
        refine own_blk X51 B0_295_304 B0_295_304d (ls' := #[.val (.int z0), .val (.int z1), .val (.int z2), .val (.int z3), .val (.int nn), .val (.int kk), .val (.int cp), .val (.int q), .val (.int f), .val (.ref b), .val (.int (q + (2 : Int32))), .val (.int (2 : Int32)), .unset, .unset, .unset, .unset, .unset]) (st' := [(.int f), (.int (q + (2 : Int32))), (.int q), (.int (4 : Int32)), (.ref b)]) rfl ?_
        refine own_callP X51 (hw _ (List.mem_of_getElem? (i := 6) rfl)) (hw _ (List.mem_of_getElem? (i := 7) rfl)) (hw _ (List.mem_of_getElem? (i := 8) rfl)) (hw _ (List.mem_of_getElem? (i := 9) rfl)) (by decide) (c_kept l Z a0 hw b (4 : Int32) q (q + (2 : Int32)) f G h15 n0 X51.2.1 A47 (by decide) (fun q1 => ro _ (fun q2 => q1 (by rw [i2]; exact q2)))) d0_304 [(.ref b), (.int (4 : Int32)), (.int q), (.int (q + (2 : Int32))), (.int f)] [] rfl rfl pd2 rfl rfl (by decide) (Nat.le_of_ble_eq_true rfl) (by decide) (by decide) (fun T52 X52 => ?_)
        show own_G p e below (T52.setTop (mkF m 307 #[.val (.int z0), .val (.int z1), .val (.int z2), .val (.int z3), .val (.int nn), .val (.int kk), .val (.int cp), .val (.int q), .val (.int f), .val (.ref b), .val (.int (q + (2 : Int32))), .val (.int (2 : Int32)), .unset, .unset, .unset, .unset, .unset] [(.int (1 : Int32))])) _
        refine own_if X52 d0_307 (pc' := 425) (by decide) (fun (c307 : (1 : Int) = 0) => by exfalso; omega) (fun c307 => ?_)
        have c307 : ¬ ((1 : Int) = 0) := c307
        refine own_blk X52 B0_310_319 B0_310_319d (ls' := #[.val (.int z0), .val (.int z1), .val (.int z2), .val (.int z3), .val (.int nn), .val (.int kk), .val (.int cp), .val (.int q), .val (.int f), .val (.ref b), .val (.int (q + (2 : Int32))), .val (.int (2 : Int32)), .unset, .unset, .unset, .unset, .unset]) (st' := [(.int f), (.int (q + (2 : Int32))), (.int q), (.int (5 : Int32)), (.ref b)]) rfl ?_
        refine own_callP X52 (hw _ (List.mem_of_getElem? (i := 6) rfl)) (hw _ (List.mem_of_getElem? (i := 7) rfl)) (hw _ (List.mem_of_getElem? (i := 8) rfl)) (hw _ (List.mem_of_getElem? (i := 9) rfl)) (by decide) (c_kept l Z a0 hw b (5 : Int32) q (q + (2 : Int32)) f G h15 n0 X52.2.1 A47 (by decide) (fun q1 => ro _ (fun q2 => q1 (by rw [i2]; exact q2)))) d0_319 [(.ref b), (.int (5 : Int32)), (.int q), (.int (q + (2 : Int32))), (.int f)] [] rfl rfl pd2 rfl rfl (by decide) (Nat.le_of_ble_eq_true rfl) (by decide) (by decide) (fun T53 X53 => ?_)
        show own_G p e below (T53.setTop (mkF m 322 #[.val (.int z0), .val (.int z1), .val (.int z2), .val (.int z3), .val (.int nn), .val (.int kk), .val (.int cp), .val (.int q), .val (.int f), .val (.ref b), .val (.int (q + (2 : Int32))), .val (.int (2 : Int32)), .unset, .unset, .unset, .unset, .unset] [(.int (1 : Int32))])) _
        refine own_if X53 d0_322 (pc' := 425) (by decide) (fun (c322 : (1 : Int) = 0) => by exfalso; omega) (fun c322 => ?_)
        have c322 : ¬ ((1 : Int) = 0) := c322
        refine own_blk X53 B0_325_335 B0_325_335d (ls' := #[.val (.int z0), .val (.int z1), .val (.int z2), .val (.int z3), .val (.int nn), .val (.int kk), .val (.int cp), .val (.int q), .val (.int f), .val (.ref b), .val (.int (q + (2 : Int32))), .val (.int (2 : Int32)), .unset, .unset, .unset, .unset, .unset]) (st' := [(.int f), (.int (q + (2 : Int32))), (.int q), (.int (6 : Int32)), (.ref b)]) rfl ?_
        refine own_callP X53 (hw _ (List.mem_of_getElem? (i := 6) rfl)) (hw _ (List.mem_of_getElem? (i := 7) rfl)) (hw _ (List.mem_of_getElem? (i := 8) rfl)) (hw _ (List.mem_of_getElem? (i := 9) rfl)) (by decide) (c_kept l Z a0 hw b (6 : Int32) q (q + (2 : Int32)) f G h15 n0 X53.2.1 A47 (by decide) (fun q1 => ro _ (fun q2 => q1 (by rw [i2]; exact q2)))) d0_335 [(.ref b), (.int (6 : Int32)), (.int q), (.int (q + (2 : Int32))), (.int f)] [] rfl rfl pd2 rfl rfl (by decide) (Nat.le_of_ble_eq_true rfl) (by decide) (by decide) (fun T54 X54 => ?_)
        show own_G p e below (T54.setTop (mkF m 338 #[.val (.int z0), .val (.int z1), .val (.int z2), .val (.int z3), .val (.int nn), .val (.int kk), .val (.int cp), .val (.int q), .val (.int f), .val (.ref b), .val (.int (q + (2 : Int32))), .val (.int (2 : Int32)), .unset, .unset, .unset, .unset, .unset] [(.int (1 : Int32))])) _
        refine own_if X54 d0_338 (pc' := 425) (by decide) (fun (c338 : (1 : Int) = 0) => by exfalso; omega) (fun c338 => ?_)
        have c338 : ¬ ((1 : Int) = 0) := c338
        refine own_blk X54 B0_341_351 B0_341_351d (ls' := #[.val (.int z0), .val (.int z1), .val (.int z2), .val (.int z3), .val (.int nn), .val (.int kk), .val (.int cp), .val (.int q), .val (.int f), .val (.ref b), .val (.int (q + (2 : Int32))), .val (.int (2 : Int32)), .unset, .unset, .unset, .unset, .unset]) (st' := [(.int f), (.int (q + (2 : Int32))), (.int q), (.int (7 : Int32)), (.ref b)]) rfl ?_
        refine own_callP X54 (hw _ (List.mem_of_getElem? (i := 6) rfl)) (hw _ (List.mem_of_getElem? (i := 7) rfl)) (hw _ (List.mem_of_getElem? (i := 8) rfl)) (hw _ (List.mem_of_getElem? (i := 9) rfl)) (by decide) (c_kept l Z a0 hw b (7 : Int32) q (q + (2 : Int32)) f G h15 n0 X54.2.1 A47 (by decide) (fun q1 => ro _ (fun q2 => q1 (by rw [i2]; exact q2)))) d0_351 [(.ref b), (.int (7 : Int32)), (.int q), (.int (q + (2 : Int32))), (.int f)] [] rfl rfl pd2 rfl rfl (by decide) (Nat.le_of_ble_eq_true rfl) (by decide) (by decide) (fun T55 X55 => ?_)
        show own_G p e below (T55.setTop (mkF m 354 #[.val (.int z0), .val (.int z1), .val (.int z2), .val (.int z3), .val (.int nn), .val (.int kk), .val (.int cp), .val (.int q), .val (.int f), .val (.ref b), .val (.int (q + (2 : Int32))), .val (.int (2 : Int32)), .unset, .unset, .unset, .unset, .unset] [(.int (1 : Int32))])) _
        refine own_if X55 d0_354 (pc' := 425) (by decide) (fun (c354 : (1 : Int) = 0) => by exfalso; omega) (fun c354 => ?_)
        have c354 : ¬ ((1 : Int) = 0) := c354
        refine own_blk X55 B0_357_367 B0_357_367d (ls' := #[.val (.int z0), .val (.int z1), .val (.int z2), .val (.int z3), .val (.int nn), .val (.int kk), .val (.int cp), .val (.int q), .val (.int f), .val (.ref b), .val (.int (q + (2 : Int32))), .val (.int (2 : Int32)), .unset, .unset, .unset, .unset, .unset]) (st' := [(.int f), (.int (q + (2 : Int32))), (.int q), (.int (8 : Int32)), (.ref b)]) rfl ?_
        refine own_callP X55 (hw _ (List.mem_of_getElem? (i := 6) rfl)) (hw _ (List.mem_of_getElem? (i := 7) rfl)) (hw _ (List.mem_of_getElem? (i := 8) rfl)) (hw _ (List.mem_of_getElem? (i := 9) rfl)) (by decide) (c_kept l Z a0 hw b (8 : Int32) q (q + (2 : Int32)) f G h15 n0 X55.2.1 A47 (by decide) (fun q1 => ro _ (fun q2 => q1 (by rw [i2]; exact q2)))) d0_367 [(.ref b), (.int (8 : Int32)), (.int q), (.int (q + (2 : Int32))), (.int f)] [] rfl rfl pd2 rfl rfl (by decide) (Nat.le_of_ble_eq_true rfl) (by decide) (by decide) (fun T56 X56 => ?_)
        show own_G p e below (T56.setTop (mkF m 370 #[.val (.int z0), .val (.int z1), .val (.int z2), .val (.int z3), .val (.int nn), .val (.int kk), .val (.int cp), .val (.int q), .val (.int f), .val (.ref b), .val (.int (q + (2 : Int32))), .val (.int (2 : Int32)), .unset, .unset, .unset, .unset, .unset] [(.int (1 : Int32))])) _
        refine own_if X56 d0_370 (pc' := 425) (by decide) (fun (c370 : (1 : Int) = 0) => by exfalso; omega) (fun c370 => ?_)
        have c370 : ¬ ((1 : Int) = 0) := c370
        refine own_blk X56 B0_373_383 B0_373_383d (ls' := #[.val (.int z0), .val (.int z1), .val (.int z2), .val (.int z3), .val (.int nn), .val (.int kk), .val (.int cp), .val (.int q), .val (.int f), .val (.ref b), .val (.int (q + (2 : Int32))), .val (.int (2 : Int32)), .unset, .unset, .unset, .unset, .unset]) (st' := [(.int f), (.int (q + (2 : Int32))), (.int q), (.int (9 : Int32)), (.ref b)]) rfl ?_
        refine own_callP X56 (hw _ (List.mem_of_getElem? (i := 6) rfl)) (hw _ (List.mem_of_getElem? (i := 7) rfl)) (hw _ (List.mem_of_getElem? (i := 8) rfl)) (hw _ (List.mem_of_getElem? (i := 9) rfl)) (by decide) (c_kept l Z a0 hw b (9 : Int32) q (q + (2 : Int32)) f G h15 n0 X56.2.1 A47 (by decide) (fun q1 => ro _ (fun q2 => q1 (by rw [i2]; exact q2)))) d0_383 [(.ref b), (.int (9 : Int32)), (.int q), (.int (q + (2 : Int32))), (.int f)] [] rfl rfl pd2 rfl rfl (by decide) (Nat.le_of_ble_eq_true rfl) (by decide) (by decide) (fun T57 X57 => ?_)
        show own_G p e below (T57.setTop (mkF m 386 #[.val (.int z0), .val (.int z1), .val (.int z2), .val (.int z3), .val (.int nn), .val (.int kk), .val (.int cp), .val (.int q), .val (.int f), .val (.ref b), .val (.int (q + (2 : Int32))), .val (.int (2 : Int32)), .unset, .unset, .unset, .unset, .unset] [(.int (1 : Int32))])) _
        refine own_if X57 d0_386 (pc' := 425) (by decide) (fun (c386 : (1 : Int) = 0) => by exfalso; omega) (fun c386 => ?_)
        have c386 : ¬ ((1 : Int) = 0) := c386
        refine own_blk X57 B0_389_399 B0_389_399d (ls' := #[.val (.int z0), .val (.int z1), .val (.int z2), .val (.int z3), .val (.int nn), .val (.int kk), .val (.int cp), .val (.int q), .val (.int f), .val (.ref b), .val (.int (q + (2 : Int32))), .val (.int (2 : Int32)), .unset, .unset, .unset, .unset, .unset]) (st' := [(.int f), (.int (q + (2 : Int32))), (.int q), (.int (10 : Int32)), (.ref b)]) rfl ?_
        refine own_callP X57 (hw _ (List.mem_of_getElem? (i := 6) rfl)) (hw _ (List.mem_of_getElem? (i := 7) rfl)) (hw _ (List.mem_of_getElem? (i := 8) rfl)) (hw _ (List.mem_of_getElem? (i := 9) rfl)) (by decide) (c_kept l Z a0 hw b (10 : Int32) q (q + (2 : Int32)) f G h15 n0 X57.2.1 A47 (by decide) (fun q1 => ro _ (fun q2 => q1 (by rw [i2]; exact q2)))) d0_399 [(.ref b), (.int (10 : Int32)), (.int q), (.int (q + (2 : Int32))), (.int f)] [] rfl rfl pd2 rfl rfl (by decide) (Nat.le_of_ble_eq_true rfl) (by decide) (by decide) (fun T58 X58 => ?_)
        show own_G p e below (T58.setTop (mkF m 402 #[.val (.int z0), .val (.int z1), .val (.int z2), .val (.int z3), .val (.int nn), .val (.int kk), .val (.int cp), .val (.int q), .val (.int f), .val (.ref b), .val (.int (q + (2 : Int32))), .val (.int (2 : Int32)), .unset, .unset, .unset, .unset, .unset] [(.int (1 : Int32))])) _
        refine own_if X58 d0_402 (pc' := 425) (by decide) (fun (c402 : (1 : Int) = 0) => by exfalso; omega) (fun c402 => ?_)
        have c402 : ¬ ((1 : Int) = 0) := c402
        refine own_blk X58 B0_405_415 B0_405_415d (ls' := #[.val (.int z0), .val (.int z1), .val (.int z2), .val (.int z3), .val (.int nn), .val (.int kk), .val (.int cp), .val (.int q), .val (.int f), .val (.ref b), .val (.int (q + (2 : Int32))), .val (.int (2 : Int32)), .unset, .unset, .unset, .unset, .unset]) (st' := [(.int f), (.int (q + (2 : Int32))), (.int q), (.int (11 : Int32)), (.ref b)]) rfl ?_
        refine own_callP X58 (hw _ (List.mem_of_getElem? (i := 6) rfl)) (hw _ (List.mem_of_getElem? (i := 7) rfl)) (hw _ (List.mem_of_getElem? (i := 8) rfl)) (hw _ (List.mem_of_getElem? (i := 9) rfl)) (by decide) (c_kept l Z a0 hw b (11 : Int32) q (q + (2 : Int32)) f G h15 n0 X58.2.1 A47 (by decide) (fun q1 => ro _ (fun q2 => q1 (by rw [i2]; exact q2)))) d0_415 [(.ref b), (.int (11 : Int32)), (.int q), (.int (q + (2 : Int32))), (.int f)] [] rfl rfl pd2 rfl rfl (by decide) (Nat.le_of_ble_eq_true rfl) (by decide) (by decide) (fun T59 X59 => ?_)
        show own_G p e below (T59.setTop (mkF m 418 #[.val (.int z0), .val (.int z1), .val (.int z2), .val (.int z3), .val (.int nn), .val (.int kk), .val (.int cp), .val (.int q), .val (.int f), .val (.ref b), .val (.int (q + (2 : Int32))), .val (.int (2 : Int32)), .unset, .unset, .unset, .unset, .unset] [(.int (1 : Int32))])) _
        refine own_if X59 d0_418 (pc' := 425) (by decide) (fun (c418 : (1 : Int) = 0) => by exfalso; omega) (fun c418 => ?_)
        have c418 : ¬ ((1 : Int) = 0) := c418
        refine own_blk X59 B0_421_422 B0_421_422d (ls' := #[.val (.int z0), .val (.int z1), .val (.int z2), .val (.int z3), .val (.int nn), .val (.int kk), .val (.int cp), .val (.int q), .val (.int f), .val (.ref b), .val (.int (q + (2 : Int32))), .val (.int (2 : Int32)), .unset, .unset, .unset, .unset, .unset]) (st' := [(.int (1 : Int32))]) rfl ?_
        refine own_goto X59 d0_422 (pc' := 426) (by decide) ?_
        refine own_blk X59 B0_426_430 B0_426_430d (ls' := #[.val (.int z0), .val (.int z1), .val (.int z2), .val (.int z3), .val (.int nn), .val (.int kk), .val (.int cp), .val (.int q), .val (.int f), .val (.ref b), .val (.int (q + (2 : Int32))), .val (.int (2 : Int32)), .val (.int (1 : Int32)), .unset, .unset, .unset, .unset]) (st' := [(.int (1 : Int32))]) rfl ?_
        refine own_if X59 d0_430 (pc' := 435) (by decide) (fun c430 => ?_) (fun (c430 : ¬ (¬ (1 : Int) = 0)) => by exfalso; omega)
        have c430 : ¬ (1 : Int) = 0 := c430
        refine own_blk X59 B0_435_439 B0_435_439d (ls' := #[.val (.int z0), .val (.int z1), .val (.int z2), .val (.int z3), .val (.int nn), .val (.int kk), .val (.int cp), .val (.int q), .val (.int f), .val (.ref b), .val (.int (q + (2 : Int32))), .val (.int (2 : Int32)), .val (.int (1 : Int32)), .unset, .unset, .unset, .unset]) (st' := [(.int q), (.ref b)]) rfl ?_
        refine own_bald X59 A47 d0_439 (by omega) (by omega) ?_
        show own_G p e below (T59.setTop (mkF m 440 #[.val (.int z0), .val (.int z1), .val (.int z2), .val (.int z3), .val (.int nn), .val (.int kk), .val (.int cp), .val (.int q), .val (.int f), .val (.ref b), .val (.int (q + (2 : Int32))), .val (.int (2 : Int32)), .val (.int (1 : Int32)), .unset, .unset, .unset, .unset] [(.int (G q.toInt))])) _
        refine own_blk X59 B0_440_446 B0_440_446d (ls' := #[.val (.int z0), .val (.int z1), .val (.int z2), .val (.int z3), .val (.int nn), .val (.int kk), .val (.int cp), .val (.int q), .val (.int f), .val (.ref b), .val (.int (q + (2 : Int32))), .val (.int (2 : Int32)), .val (.int (1 : Int32)), .val (.int ((G q.toInt) &&& (255 : Int32))), .unset, .unset, .unset]) (st' := []) rfl ?_
        generalize eb0 : ((G q.toInt) &&& (255 : Int32)) = b0
        have hb0 : b0.toInt = 192 + cp.toInt / 64 := by rw [← eb0, r0]; exact own_x2 hc0 (by omega)
        refine own_blk X59 B0_446_449 B0_446_449d (ls' := #[.val (.int z0), .val (.int z1), .val (.int z2), .val (.int z3), .val (.int nn), .val (.int kk), .val (.int cp), .val (.int q), .val (.int f), .val (.ref b), .val (.int (q + (2 : Int32))), .val (.int (2 : Int32)), .val (.int (1 : Int32)), .val (.int b0), .unset, .unset, .unset]) (st' := [(.int (1 : Int32)), (.int (2 : Int32))]) rfl ?_
        refine own_icmp X59 d0_449 (pc' := 465) (by decide) (fun c449 => ?_) (fun (c449 : ¬ (¬ (2 : Int) = 1)) => by exfalso; omega)
        have c449 : ¬ (2 : Int) = 1 := c449
        refine own_blk X59 B0_465_471 B0_465_471d (ls' := #[.val (.int z0), .val (.int z1), .val (.int z2), .val (.int z3), .val (.int nn), .val (.int kk), .val (.int cp), .val (.int q), .val (.int f), .val (.ref b), .val (.int (q + (2 : Int32))), .val (.int (2 : Int32)), .val (.int (1 : Int32)), .val (.int b0), .unset, .unset, .unset]) (st' := [(.int (q + (1 : Int32))), (.ref b)]) rfl ?_
        refine own_bald X59 A47 d0_471 (by omega) (by omega) ?_
        show own_G p e below (T59.setTop (mkF m 472 #[.val (.int z0), .val (.int z1), .val (.int z2), .val (.int z3), .val (.int nn), .val (.int kk), .val (.int cp), .val (.int q), .val (.int f), .val (.ref b), .val (.int (q + (2 : Int32))), .val (.int (2 : Int32)), .val (.int (1 : Int32)), .val (.int b0), .unset, .unset, .unset] [(.int (G (q + (1 : Int32)).toInt))])) _
        refine own_blk X59 B0_472_478 B0_472_478d (ls' := #[.val (.int z0), .val (.int z1), .val (.int z2), .val (.int z3), .val (.int nn), .val (.int kk), .val (.int cp), .val (.int q), .val (.int f), .val (.ref b), .val (.int (q + (2 : Int32))), .val (.int (2 : Int32)), .val (.int (1 : Int32)), .val (.int b0), .val (.int ((G (q + (1 : Int32)).toInt) &&& (255 : Int32))), .unset, .unset]) (st' := []) rfl ?_
        generalize eb1 : ((G (q + (1 : Int32)).toInt) &&& (255 : Int32)) = b1
        have hb1 : b1.toInt = 128 + cp.toInt % 64 := by rw [← eb1, i1, r1]; exact own_xl cp
        have hct1 : own_ct b1 = 1 := by rw [own_ct, own_h192 (by omega) (by omega), if_pos (by omega)]
        refine own_blk X59 B0_478_480 B0_478_480d (ls' := #[.val (.int z0), .val (.int z1), .val (.int z2), .val (.int z3), .val (.int nn), .val (.int kk), .val (.int cp), .val (.int q), .val (.int f), .val (.ref b), .val (.int (q + (2 : Int32))), .val (.int (2 : Int32)), .val (.int (1 : Int32)), .val (.int b0), .val (.int b1), .unset, .unset]) (st' := [(.int b1)]) rfl ?_
        refine own_callP X59 (hw _ (List.mem_of_getElem? (i := 13) rfl)) (hw _ (List.mem_of_getElem? (i := 14) rfl)) (hw _ (List.mem_of_getElem? (i := 8) rfl)) (hw _ (List.mem_of_getElem? (i := 15) rfl)) (by decide) (c_cont l Z a0 hw b1 h15 n0 X59.2.1) d0_480 [(.int b1)] [] rfl rfl pd3 rfl rfl (by decide) (Nat.le_of_ble_eq_true rfl) (by decide) (by decide) (fun T60 X60 => ?_)
        show own_G p e below (T60.setTop (mkF m 483 #[.val (.int z0), .val (.int z1), .val (.int z2), .val (.int z3), .val (.int nn), .val (.int kk), .val (.int cp), .val (.int q), .val (.int f), .val (.ref b), .val (.int (q + (2 : Int32))), .val (.int (2 : Int32)), .val (.int (1 : Int32)), .val (.int b0), .val (.int b1), .unset, .unset] [(.int (own_ct b1))])) _
        rw [hct1]
        refine own_if X60 d0_483 (pc' := 488) (by decide) (fun c483 => ?_) (fun (c483 : ¬ (¬ (1 : Int) = 0)) => by exfalso; omega)
        have c483 : ¬ (1 : Int) = 0 := c483
        refine own_blk X60 B0_488_491 B0_488_491d (ls' := #[.val (.int z0), .val (.int z1), .val (.int z2), .val (.int z3), .val (.int nn), .val (.int kk), .val (.int cp), .val (.int q), .val (.int f), .val (.ref b), .val (.int (q + (2 : Int32))), .val (.int (2 : Int32)), .val (.int (1 : Int32)), .val (.int b0), .val (.int b1), .unset, .unset]) (st' := [(.int (2 : Int32)), (.int (2 : Int32))]) rfl ?_
        refine own_icmp X60 d0_491 (pc' := 531) (by decide) (fun (c491 : ¬ (2 : Int) = 2) => by exfalso; omega) (fun c491 => ?_)
        have c491 : ¬ (¬ (2 : Int) = 2) := c491
        refine own_blk X60 B0_494_503 B0_494_503d (ls' := #[.val (.int z0), .val (.int z1), .val (.int z2), .val (.int z3), .val (.int nn), .val (.int kk), .val (.int cp), .val (.int q), .val (.int f), .val (.ref b), .val (.int (q + (2 : Int32))), .val (.int (2 : Int32)), .val (.int (1 : Int32)), .val (.int b0), .val (.int b1), .unset, .unset]) (st' := [(.int (192 : Int32)), (.int (b0 &&& (224 : Int32)))]) rfl ?_
        refine own_icmp X60 d0_503 (pc' := 529) (by decide) (fun (c503 : ¬ (b0 &&& (224 : Int32)).toInt = 192) => by exfalso; exact c503 (by rw [own_h224 (by omega) (by omega)]; omega)) (fun c503 => ?_)
        have c503 : ¬ (¬ (b0 &&& (224 : Int32)).toInt = 192) := c503
        refine own_blk X60 B0_506_522 B0_506_522d (ls' := #[.val (.int z0), .val (.int z1), .val (.int z2), .val (.int z3), .val (.int nn), .val (.int kk), .val (.int cp), .val (.int q), .val (.int f), .val (.ref b), .val (.int (q + (2 : Int32))), .val (.int (2 : Int32)), .val (.int (1 : Int32)), .val (.int b0), .val (.int b1), .unset, .unset]) (st' := [(.int (((b0 &&& (31 : Int32)) * (64 : Int32)) + (b1 &&& (63 : Int32)))), (.int cp)]) rfl ?_
        refine own_icmp X60 d0_522 (pc' := 529) (by decide) (fun (c522 : ¬ cp.toInt = (((b0 &&& (31 : Int32)) * (64 : Int32)) + (b1 &&& (63 : Int32))).toInt) => by exfalso; have m0 := own_mk b0 31 5 (by decide) (by decide); have m1 := own_m63 b1; exact c522 (by rw [own_ma (by omega) (by omega) (by omega) (by omega)]; omega)) (fun c522 => ?_)
        have c522 : ¬ (¬ cp.toInt = (((b0 &&& (31 : Int32)) * (64 : Int32)) + (b1 &&& (63 : Int32))).toInt) := c522
        refine own_blk X60 B0_525_526 B0_525_526d (ls' := #[.val (.int z0), .val (.int z1), .val (.int z2), .val (.int z3), .val (.int nn), .val (.int kk), .val (.int cp), .val (.int q), .val (.int f), .val (.ref b), .val (.int (q + (2 : Int32))), .val (.int (2 : Int32)), .val (.int (1 : Int32)), .val (.int b0), .val (.int b1), .unset, .unset]) (st' := [(.int (1 : Int32))]) rfl ?_
        refine own_goto X60 d0_526 (pc' := 530) (by decide) ?_
        exact own_retN X60 (by simp) d0_530 (v' := (1 : Int32)) (rfl) (by decide) (by decide) (rfl)
    · have c190 : ¬ (128 ≤ cp.toInt) := c190
      refine own_blk X15 B0_193_194 B0_193_194d (ls' := #[.val (.int z0), .val (.int z1), .val (.int z2), .val (.int z3), .val (.int nn), .val (.int kk), .val (.int cp), .val (.int q), .val (.int f), .val (.ref b), .val (.int (own_end cp q)), .unset, .unset, .unset, .unset, .unset, .unset]) (st' := [(.int (1 : Int32))]) rfl ?_
      refine own_goto X15 d0_194 (pc' := 221) (by decide) ?_
      have A61 : own_I Z h15 b .byte 12 (own_u (fun _ => f) (q.toInt) (own_i2b cp)) := by have q1 := A15; rw [own_enc, if_pos (by omega)] at q1; exact q1
      have hend : own_end cp q = q + (1 : Int32) := by rw [own_end, if_pos (by omega)]
      rw [hend]
      generalize eG : (own_u (fun _ => f) (q.toInt) (own_i2b cp)) = G at A61
      have r0 : G (q.toInt) = own_i2b cp := by rw [← eG, own_u_eq (by omega)]
      have ro : ∀ j : Int, ¬ (q.toInt ≤ j ∧ j < q.toInt + 1) → G j = f := by intro j hj; rw [← eG, own_u_ne (by omega)]
      refine own_blk X15 B0_221_230 B0_221_230d (ls' := #[.val (.int z0), .val (.int z1), .val (.int z2), .val (.int z3), .val (.int nn), .val (.int kk), .val (.int cp), .val (.int q), .val (.int f), .val (.ref b), .val (.int (q + (1 : Int32))), .val (.int (1 : Int32)), .unset, .unset, .unset, .unset, .unset]) (st' := [(.int (q + (1 : Int32))), (.int (q + (1 : Int32)))]) rfl ?_
      refine own_icmp X15 d0_230 (pc' := 235) (by decide) (fun c230 => ?_) (fun (c230 : ¬ ((q + (1 : Int32)).toInt = (q + (1 : Int32)).toInt)) => by exfalso; exact c230 rfl)
      have c230 : (q + (1 : Int32)).toInt = (q + (1 : Int32)).toInt := c230
      refine own_blk X15 B0_235_244 B0_235_244d (ls' := #[.val (.int z0), .val (.int z1), .val (.int z2), .val (.int z3), .val (.int nn), .val (.int kk), .val (.int cp), .val (.int q), .val (.int f), .val (.ref b), .val (.int (q + (1 : Int32))), .val (.int (1 : Int32)), .unset, .unset, .unset, .unset, .unset]) (st' := [(.int f), (.int (q + (1 : Int32))), (.int q), (.int (0 : Int32)), (.ref b)]) rfl ?_
      refine own_callP X15 (hw _ (List.mem_of_getElem? (i := 6) rfl)) (hw _ (List.mem_of_getElem? (i := 7) rfl)) (hw _ (List.mem_of_getElem? (i := 8) rfl)) (hw _ (List.mem_of_getElem? (i := 9) rfl)) (by decide) (c_kept l Z a0 hw b (0 : Int32) q (q + (1 : Int32)) f G h15 n0 X15.2.1 A61 (by decide) (fun q1 => ro _ (fun q2 => q1 (by rw [i1]; exact q2)))) d0_244 [(.ref b), (.int (0 : Int32)), (.int q), (.int (q + (1 : Int32))), (.int f)] [] rfl rfl pd2 rfl rfl (by decide) (Nat.le_of_ble_eq_true rfl) (by decide) (by decide) (fun T62 X62 => ?_)
      show own_G p e below (T62.setTop (mkF m 247 #[.val (.int z0), .val (.int z1), .val (.int z2), .val (.int z3), .val (.int nn), .val (.int kk), .val (.int cp), .val (.int q), .val (.int f), .val (.ref b), .val (.int (q + (1 : Int32))), .val (.int (1 : Int32)), .unset, .unset, .unset, .unset, .unset] [(.int (1 : Int32))])) _
      refine own_if X62 d0_247 (pc' := 425) (by decide) (fun (c247 : (1 : Int) = 0) => by exfalso; omega) (fun c247 => ?_)
      have c247 : ¬ ((1 : Int) = 0) := c247
      refine own_blk X62 B0_250_259 B0_250_259d (ls' := #[.val (.int z0), .val (.int z1), .val (.int z2), .val (.int z3), .val (.int nn), .val (.int kk), .val (.int cp), .val (.int q), .val (.int f), .val (.ref b), .val (.int (q + (1 : Int32))), .val (.int (1 : Int32)), .unset, .unset, .unset, .unset, .unset]) (st' := [(.int f), (.int (q + (1 : Int32))), (.int q), (.int (1 : Int32)), (.ref b)]) rfl ?_
      refine own_callP X62 (hw _ (List.mem_of_getElem? (i := 6) rfl)) (hw _ (List.mem_of_getElem? (i := 7) rfl)) (hw _ (List.mem_of_getElem? (i := 8) rfl)) (hw _ (List.mem_of_getElem? (i := 9) rfl)) (by decide) (c_kept l Z a0 hw b (1 : Int32) q (q + (1 : Int32)) f G h15 n0 X62.2.1 A61 (by decide) (fun q1 => ro _ (fun q2 => q1 (by rw [i1]; exact q2)))) d0_259 [(.ref b), (.int (1 : Int32)), (.int q), (.int (q + (1 : Int32))), (.int f)] [] rfl rfl pd2 rfl rfl (by decide) (Nat.le_of_ble_eq_true rfl) (by decide) (by decide) (fun T63 X63 => ?_)
      show own_G p e below (T63.setTop (mkF m 262 #[.val (.int z0), .val (.int z1), .val (.int z2), .val (.int z3), .val (.int nn), .val (.int kk), .val (.int cp), .val (.int q), .val (.int f), .val (.ref b), .val (.int (q + (1 : Int32))), .val (.int (1 : Int32)), .unset, .unset, .unset, .unset, .unset] [(.int (1 : Int32))])) _
      refine own_if X63 d0_262 (pc' := 425) (by decide) (fun (c262 : (1 : Int) = 0) => by exfalso; omega) (fun c262 => ?_)
      have c262 : ¬ ((1 : Int) = 0) := c262
      refine own_blk X63 B0_265_274 B0_265_274d (ls' := #[.val (.int z0), .val (.int z1), .val (.int z2), .val (.int z3), .val (.int nn), .val (.int kk), .val (.int cp), .val (.int q), .val (.int f), .val (.ref b), .val (.int (q + (1 : Int32))), .val (.int (1 : Int32)), .unset, .unset, .unset, .unset, .unset]) (st' := [(.int f), (.int (q + (1 : Int32))), (.int q), (.int (2 : Int32)), (.ref b)]) rfl ?_
      refine own_callP X63 (hw _ (List.mem_of_getElem? (i := 6) rfl)) (hw _ (List.mem_of_getElem? (i := 7) rfl)) (hw _ (List.mem_of_getElem? (i := 8) rfl)) (hw _ (List.mem_of_getElem? (i := 9) rfl)) (by decide) (c_kept l Z a0 hw b (2 : Int32) q (q + (1 : Int32)) f G h15 n0 X63.2.1 A61 (by decide) (fun q1 => ro _ (fun q2 => q1 (by rw [i1]; exact q2)))) d0_274 [(.ref b), (.int (2 : Int32)), (.int q), (.int (q + (1 : Int32))), (.int f)] [] rfl rfl pd2 rfl rfl (by decide) (Nat.le_of_ble_eq_true rfl) (by decide) (by decide) (fun T64 X64 => ?_)
      show own_G p e below (T64.setTop (mkF m 277 #[.val (.int z0), .val (.int z1), .val (.int z2), .val (.int z3), .val (.int nn), .val (.int kk), .val (.int cp), .val (.int q), .val (.int f), .val (.ref b), .val (.int (q + (1 : Int32))), .val (.int (1 : Int32)), .unset, .unset, .unset, .unset, .unset] [(.int (1 : Int32))])) _
      refine own_if X64 d0_277 (pc' := 425) (by decide) (fun (c277 : (1 : Int) = 0) => by exfalso; omega) (fun c277 => ?_)
      have c277 : ¬ ((1 : Int) = 0) := c277
      refine own_blk X64 B0_280_289 B0_280_289d (ls' := #[.val (.int z0), .val (.int z1), .val (.int z2), .val (.int z3), .val (.int nn), .val (.int kk), .val (.int cp), .val (.int q), .val (.int f), .val (.ref b), .val (.int (q + (1 : Int32))), .val (.int (1 : Int32)), .unset, .unset, .unset, .unset, .unset]) (st' := [(.int f), (.int (q + (1 : Int32))), (.int q), (.int (3 : Int32)), (.ref b)]) rfl ?_
      refine own_callP X64 (hw _ (List.mem_of_getElem? (i := 6) rfl)) (hw _ (List.mem_of_getElem? (i := 7) rfl)) (hw _ (List.mem_of_getElem? (i := 8) rfl)) (hw _ (List.mem_of_getElem? (i := 9) rfl)) (by decide) (c_kept l Z a0 hw b (3 : Int32) q (q + (1 : Int32)) f G h15 n0 X64.2.1 A61 (by decide) (fun q1 => ro _ (fun q2 => q1 (by rw [i1]; exact q2)))) d0_289 [(.ref b), (.int (3 : Int32)), (.int q), (.int (q + (1 : Int32))), (.int f)] [] rfl rfl pd2 rfl rfl (by decide) (Nat.le_of_ble_eq_true rfl) (by decide) (by decide) (fun T65 X65 => ?_)
      show own_G p e below (T65.setTop (mkF m 292 #[.val (.int z0), .val (.int z1), .val (.int z2), .val (.int z3), .val (.int nn), .val (.int kk), .val (.int cp), .val (.int q), .val (.int f), .val (.ref b), .val (.int (q + (1 : Int32))), .val (.int (1 : Int32)), .unset, .unset, .unset, .unset, .unset] [(.int (1 : Int32))])) _
      refine own_if X65 d0_292 (pc' := 425) (by decide) (fun (c292 : (1 : Int) = 0) => by exfalso; omega) (fun c292 => ?_)
      have c292 : ¬ ((1 : Int) = 0) := c292
      refine own_blk X65 B0_295_304 B0_295_304d (ls' := #[.val (.int z0), .val (.int z1), .val (.int z2), .val (.int z3), .val (.int nn), .val (.int kk), .val (.int cp), .val (.int q), .val (.int f), .val (.ref b), .val (.int (q + (1 : Int32))), .val (.int (1 : Int32)), .unset, .unset, .unset, .unset, .unset]) (st' := [(.int f), (.int (q + (1 : Int32))), (.int q), (.int (4 : Int32)), (.ref b)]) rfl ?_
      refine own_callP X65 (hw _ (List.mem_of_getElem? (i := 6) rfl)) (hw _ (List.mem_of_getElem? (i := 7) rfl)) (hw _ (List.mem_of_getElem? (i := 8) rfl)) (hw _ (List.mem_of_getElem? (i := 9) rfl)) (by decide) (c_kept l Z a0 hw b (4 : Int32) q (q + (1 : Int32)) f G h15 n0 X65.2.1 A61 (by decide) (fun q1 => ro _ (fun q2 => q1 (by rw [i1]; exact q2)))) d0_304 [(.ref b), (.int (4 : Int32)), (.int q), (.int (q + (1 : Int32))), (.int f)] [] rfl rfl pd2 rfl rfl (by decide) (Nat.le_of_ble_eq_true rfl) (by decide) (by decide) (fun T66 X66 => ?_)
      show own_G p e below (T66.setTop (mkF m 307 #[.val (.int z0), .val (.int z1), .val (.int z2), .val (.int z3), .val (.int nn), .val (.int kk), .val (.int cp), .val (.int q), .val (.int f), .val (.ref b), .val (.int (q + (1 : Int32))), .val (.int (1 : Int32)), .unset, .unset, .unset, .unset, .unset] [(.int (1 : Int32))])) _
      refine own_if X66 d0_307 (pc' := 425) (by decide) (fun (c307 : (1 : Int) = 0) => by exfalso; omega) (fun c307 => ?_)
      have c307 : ¬ ((1 : Int) = 0) := c307
      refine own_blk X66 B0_310_319 B0_310_319d (ls' := #[.val (.int z0), .val (.int z1), .val (.int z2), .val (.int z3), .val (.int nn), .val (.int kk), .val (.int cp), .val (.int q), .val (.int f), .val (.ref b), .val (.int (q + (1 : Int32))), .val (.int (1 : Int32)), .unset, .unset, .unset, .unset, .unset]) (st' := [(.int f), (.int (q + (1 : Int32))), (.int q), (.int (5 : Int32)), (.ref b)]) rfl ?_
      refine own_callP X66 (hw _ (List.mem_of_getElem? (i := 6) rfl)) (hw _ (List.mem_of_getElem? (i := 7) rfl)) (hw _ (List.mem_of_getElem? (i := 8) rfl)) (hw _ (List.mem_of_getElem? (i := 9) rfl)) (by decide) (c_kept l Z a0 hw b (5 : Int32) q (q + (1 : Int32)) f G h15 n0 X66.2.1 A61 (by decide) (fun q1 => ro _ (fun q2 => q1 (by rw [i1]; exact q2)))) d0_319 [(.ref b), (.int (5 : Int32)), (.int q), (.int (q + (1 : Int32))), (.int f)] [] rfl rfl pd2 rfl rfl (by decide) (Nat.le_of_ble_eq_true rfl) (by decide) (by decide) (fun T67 X67 => ?_)
      show own_G p e below (T67.setTop (mkF m 322 #[.val (.int z0), .val (.int z1), .val (.int z2), .val (.int z3), .val (.int nn), .val (.int kk), .val (.int cp), .val (.int q), .val (.int f), .val (.ref b), .val (.int (q + (1 : Int32))), .val (.int (1 : Int32)), .unset, .unset, .unset, .unset, .unset] [(.int (1 : Int32))])) _
      refine own_if X67 d0_322 (pc' := 425) (by decide) (fun (c322 : (1 : Int) = 0) => by exfalso; omega) (fun c322 => ?_)
      have c322 : ¬ ((1 : Int) = 0) := c322
      refine own_blk X67 B0_325_335 B0_325_335d (ls' := #[.val (.int z0), .val (.int z1), .val (.int z2), .val (.int z3), .val (.int nn), .val (.int kk), .val (.int cp), .val (.int q), .val (.int f), .val (.ref b), .val (.int (q + (1 : Int32))), .val (.int (1 : Int32)), .unset, .unset, .unset, .unset, .unset]) (st' := [(.int f), (.int (q + (1 : Int32))), (.int q), (.int (6 : Int32)), (.ref b)]) rfl ?_
      refine own_callP X67 (hw _ (List.mem_of_getElem? (i := 6) rfl)) (hw _ (List.mem_of_getElem? (i := 7) rfl)) (hw _ (List.mem_of_getElem? (i := 8) rfl)) (hw _ (List.mem_of_getElem? (i := 9) rfl)) (by decide) (c_kept l Z a0 hw b (6 : Int32) q (q + (1 : Int32)) f G h15 n0 X67.2.1 A61 (by decide) (fun q1 => ro _ (fun q2 => q1 (by rw [i1]; exact q2)))) d0_335 [(.ref b), (.int (6 : Int32)), (.int q), (.int (q + (1 : Int32))), (.int f)] [] rfl rfl pd2 rfl rfl (by decide) (Nat.le_of_ble_eq_true rfl) (by decide) (by decide) (fun T68 X68 => ?_)
      show own_G p e below (T68.setTop (mkF m 338 #[.val (.int z0), .val (.int z1), .val (.int z2), .val (.int z3), .val (.int nn), .val (.int kk), .val (.int cp), .val (.int q), .val (.int f), .val (.ref b), .val (.int (q + (1 : Int32))), .val (.int (1 : Int32)), .unset, .unset, .unset, .unset, .unset] [(.int (1 : Int32))])) _
      refine own_if X68 d0_338 (pc' := 425) (by decide) (fun (c338 : (1 : Int) = 0) => by exfalso; omega) (fun c338 => ?_)
      have c338 : ¬ ((1 : Int) = 0) := c338
      refine own_blk X68 B0_341_351 B0_341_351d (ls' := #[.val (.int z0), .val (.int z1), .val (.int z2), .val (.int z3), .val (.int nn), .val (.int kk), .val (.int cp), .val (.int q), .val (.int f), .val (.ref b), .val (.int (q + (1 : Int32))), .val (.int (1 : Int32)), .unset, .unset, .unset, .unset, .unset]) (st' := [(.int f), (.int (q + (1 : Int32))), (.int q), (.int (7 : Int32)), (.ref b)]) rfl ?_
      refine own_callP X68 (hw _ (List.mem_of_getElem? (i := 6) rfl)) (hw _ (List.mem_of_getElem? (i := 7) rfl)) (hw _ (List.mem_of_getElem? (i := 8) rfl)) (hw _ (List.mem_of_getElem? (i := 9) rfl)) (by decide) (c_kept l Z a0 hw b (7 : Int32) q (q + (1 : Int32)) f G h15 n0 X68.2.1 A61 (by decide) (fun q1 => ro _ (fun q2 => q1 (by rw [i1]; exact q2)))) d0_351 [(.ref b), (.int (7 : Int32)), (.int q), (.int (q + (1 : Int32))), (.int f)] [] rfl rfl pd2 rfl rfl (by decide) (Nat.le_of_ble_eq_true rfl) (by decide) (by decide) (fun T69 X69 => ?_)
      show own_G p e below (T69.setTop (mkF m 354 #[.val (.int z0), .val (.int z1), .val (.int z2), .val (.int z3), .val (.int nn), .val (.int kk), .val (.int cp), .val (.int q), .val (.int f), .val (.ref b), .val (.int (q + (1 : Int32))), .val (.int (1 : Int32)), .unset, .unset, .unset, .unset, .unset] [(.int (1 : Int32))])) _
      refine own_if X69 d0_354 (pc' := 425) (by decide) (fun (c354 : (1 : Int) = 0) => by exfalso; omega) (fun c354 => ?_)
      have c354 : ¬ ((1 : Int) = 0) := c354
      refine own_blk X69 B0_357_367 B0_357_367d (ls' := #[.val (.int z0), .val (.int z1), .val (.int z2), .val (.int z3), .val (.int nn), .val (.int kk), .val (.int cp), .val (.int q), .val (.int f), .val (.ref b), .val (.int (q + (1 : Int32))), .val (.int (1 : Int32)), .unset, .unset, .unset, .unset, .unset]) (st' := [(.int f), (.int (q + (1 : Int32))), (.int q), (.int (8 : Int32)), (.ref b)]) rfl ?_
      refine own_callP X69 (hw _ (List.mem_of_getElem? (i := 6) rfl)) (hw _ (List.mem_of_getElem? (i := 7) rfl)) (hw _ (List.mem_of_getElem? (i := 8) rfl)) (hw _ (List.mem_of_getElem? (i := 9) rfl)) (by decide) (c_kept l Z a0 hw b (8 : Int32) q (q + (1 : Int32)) f G h15 n0 X69.2.1 A61 (by decide) (fun q1 => ro _ (fun q2 => q1 (by rw [i1]; exact q2)))) d0_367 [(.ref b), (.int (8 : Int32)), (.int q), (.int (q + (1 : Int32))), (.int f)] [] rfl rfl pd2 rfl rfl (by decide) (Nat.le_of_ble_eq_true rfl) (by decide) (by decide) (fun T70 X70 => ?_)
      show own_G p e below (T70.setTop (mkF m 370 #[.val (.int z0), .val (.int z1), .val (.int z2), .val (.int z3), .val (.int nn), .val (.int kk), .val (.int cp), .val (.int q), .val (.int f), .val (.ref b), .val (.int (q + (1 : Int32))), .val (.int (1 : Int32)), .unset, .unset, .unset, .unset, .unset] [(.int (1 : Int32))])) _
      refine own_if X70 d0_370 (pc' := 425) (by decide) (fun (c370 : (1 : Int) = 0) => by exfalso; omega) (fun c370 => ?_)
      have c370 : ¬ ((1 : Int) = 0) := c370
      refine own_blk X70 B0_373_383 B0_373_383d (ls' := #[.val (.int z0), .val (.int z1), .val (.int z2), .val (.int z3), .val (.int nn), .val (.int kk), .val (.int cp), .val (.int q), .val (.int f), .val (.ref b), .val (.int (q + (1 : Int32))), .val (.int (1 : Int32)), .unset, .unset, .unset, .unset, .unset]) (st' := [(.int f), (.int (q + (1 : Int32))), (.int q), (.int (9 : Int32)), (.ref b)]) rfl ?_
      refine own_callP X70 (hw _ (List.mem_of_getElem? (i := 6) rfl)) (hw _ (List.mem_of_getElem? (i := 7) rfl)) (hw _ (List.mem_of_getElem? (i := 8) rfl)) (hw _ (List.mem_of_getElem? (i := 9) rfl)) (by decide) (c_kept l Z a0 hw b (9 : Int32) q (q + (1 : Int32)) f G h15 n0 X70.2.1 A61 (by decide) (fun q1 => ro _ (fun q2 => q1 (by rw [i1]; exact q2)))) d0_383 [(.ref b), (.int (9 : Int32)), (.int q), (.int (q + (1 : Int32))), (.int f)] [] rfl rfl pd2 rfl rfl (by decide) (Nat.le_of_ble_eq_true rfl) (by decide) (by decide) (fun T71 X71 => ?_)
      show own_G p e below (T71.setTop (mkF m 386 #[.val (.int z0), .val (.int z1), .val (.int z2), .val (.int z3), .val (.int nn), .val (.int kk), .val (.int cp), .val (.int q), .val (.int f), .val (.ref b), .val (.int (q + (1 : Int32))), .val (.int (1 : Int32)), .unset, .unset, .unset, .unset, .unset] [(.int (1 : Int32))])) _
      refine own_if X71 d0_386 (pc' := 425) (by decide) (fun (c386 : (1 : Int) = 0) => by exfalso; omega) (fun c386 => ?_)
      have c386 : ¬ ((1 : Int) = 0) := c386
      refine own_blk X71 B0_389_399 B0_389_399d (ls' := #[.val (.int z0), .val (.int z1), .val (.int z2), .val (.int z3), .val (.int nn), .val (.int kk), .val (.int cp), .val (.int q), .val (.int f), .val (.ref b), .val (.int (q + (1 : Int32))), .val (.int (1 : Int32)), .unset, .unset, .unset, .unset, .unset]) (st' := [(.int f), (.int (q + (1 : Int32))), (.int q), (.int (10 : Int32)), (.ref b)]) rfl ?_
      refine own_callP X71 (hw _ (List.mem_of_getElem? (i := 6) rfl)) (hw _ (List.mem_of_getElem? (i := 7) rfl)) (hw _ (List.mem_of_getElem? (i := 8) rfl)) (hw _ (List.mem_of_getElem? (i := 9) rfl)) (by decide) (c_kept l Z a0 hw b (10 : Int32) q (q + (1 : Int32)) f G h15 n0 X71.2.1 A61 (by decide) (fun q1 => ro _ (fun q2 => q1 (by rw [i1]; exact q2)))) d0_399 [(.ref b), (.int (10 : Int32)), (.int q), (.int (q + (1 : Int32))), (.int f)] [] rfl rfl pd2 rfl rfl (by decide) (Nat.le_of_ble_eq_true rfl) (by decide) (by decide) (fun T72 X72 => ?_)
      show own_G p e below (T72.setTop (mkF m 402 #[.val (.int z0), .val (.int z1), .val (.int z2), .val (.int z3), .val (.int nn), .val (.int kk), .val (.int cp), .val (.int q), .val (.int f), .val (.ref b), .val (.int (q + (1 : Int32))), .val (.int (1 : Int32)), .unset, .unset, .unset, .unset, .unset] [(.int (1 : Int32))])) _
      refine own_if X72 d0_402 (pc' := 425) (by decide) (fun (c402 : (1 : Int) = 0) => by exfalso; omega) (fun c402 => ?_)
      have c402 : ¬ ((1 : Int) = 0) := c402
      refine own_blk X72 B0_405_415 B0_405_415d (ls' := #[.val (.int z0), .val (.int z1), .val (.int z2), .val (.int z3), .val (.int nn), .val (.int kk), .val (.int cp), .val (.int q), .val (.int f), .val (.ref b), .val (.int (q + (1 : Int32))), .val (.int (1 : Int32)), .unset, .unset, .unset, .unset, .unset]) (st' := [(.int f), (.int (q + (1 : Int32))), (.int q), (.int (11 : Int32)), (.ref b)]) rfl ?_
      refine own_callP X72 (hw _ (List.mem_of_getElem? (i := 6) rfl)) (hw _ (List.mem_of_getElem? (i := 7) rfl)) (hw _ (List.mem_of_getElem? (i := 8) rfl)) (hw _ (List.mem_of_getElem? (i := 9) rfl)) (by decide) (c_kept l Z a0 hw b (11 : Int32) q (q + (1 : Int32)) f G h15 n0 X72.2.1 A61 (by decide) (fun q1 => ro _ (fun q2 => q1 (by rw [i1]; exact q2)))) d0_415 [(.ref b), (.int (11 : Int32)), (.int q), (.int (q + (1 : Int32))), (.int f)] [] rfl rfl pd2 rfl rfl (by decide) (Nat.le_of_ble_eq_true rfl) (by decide) (by decide) (fun T73 X73 => ?_)
      show own_G p e below (T73.setTop (mkF m 418 #[.val (.int z0), .val (.int z1), .val (.int z2), .val (.int z3), .val (.int nn), .val (.int kk), .val (.int cp), .val (.int q), .val (.int f), .val (.ref b), .val (.int (q + (1 : Int32))), .val (.int (1 : Int32)), .unset, .unset, .unset, .unset, .unset] [(.int (1 : Int32))])) _
      refine own_if X73 d0_418 (pc' := 425) (by decide) (fun (c418 : (1 : Int) = 0) => by exfalso; omega) (fun c418 => ?_)
      have c418 : ¬ ((1 : Int) = 0) := c418
      refine own_blk X73 B0_421_422 B0_421_422d (ls' := #[.val (.int z0), .val (.int z1), .val (.int z2), .val (.int z3), .val (.int nn), .val (.int kk), .val (.int cp), .val (.int q), .val (.int f), .val (.ref b), .val (.int (q + (1 : Int32))), .val (.int (1 : Int32)), .unset, .unset, .unset, .unset, .unset]) (st' := [(.int (1 : Int32))]) rfl ?_
      refine own_goto X73 d0_422 (pc' := 426) (by decide) ?_
      refine own_blk X73 B0_426_430 B0_426_430d (ls' := #[.val (.int z0), .val (.int z1), .val (.int z2), .val (.int z3), .val (.int nn), .val (.int kk), .val (.int cp), .val (.int q), .val (.int f), .val (.ref b), .val (.int (q + (1 : Int32))), .val (.int (1 : Int32)), .val (.int (1 : Int32)), .unset, .unset, .unset, .unset]) (st' := [(.int (1 : Int32))]) rfl ?_
      refine own_if X73 d0_430 (pc' := 435) (by decide) (fun c430 => ?_) (fun (c430 : ¬ (¬ (1 : Int) = 0)) => by exfalso; omega)
      have c430 : ¬ (1 : Int) = 0 := c430
      refine own_blk X73 B0_435_439 B0_435_439d (ls' := #[.val (.int z0), .val (.int z1), .val (.int z2), .val (.int z3), .val (.int nn), .val (.int kk), .val (.int cp), .val (.int q), .val (.int f), .val (.ref b), .val (.int (q + (1 : Int32))), .val (.int (1 : Int32)), .val (.int (1 : Int32)), .unset, .unset, .unset, .unset]) (st' := [(.int q), (.ref b)]) rfl ?_
      refine own_bald X73 A61 d0_439 (by omega) (by omega) ?_
      show own_G p e below (T73.setTop (mkF m 440 #[.val (.int z0), .val (.int z1), .val (.int z2), .val (.int z3), .val (.int nn), .val (.int kk), .val (.int cp), .val (.int q), .val (.int f), .val (.ref b), .val (.int (q + (1 : Int32))), .val (.int (1 : Int32)), .val (.int (1 : Int32)), .unset, .unset, .unset, .unset] [(.int (G q.toInt))])) _
      refine own_blk X73 B0_440_446 B0_440_446d (ls' := #[.val (.int z0), .val (.int z1), .val (.int z2), .val (.int z3), .val (.int nn), .val (.int kk), .val (.int cp), .val (.int q), .val (.int f), .val (.ref b), .val (.int (q + (1 : Int32))), .val (.int (1 : Int32)), .val (.int (1 : Int32)), .val (.int ((G q.toInt) &&& (255 : Int32))), .unset, .unset, .unset]) (st' := []) rfl ?_
      generalize eb0 : ((G q.toInt) &&& (255 : Int32)) = b0
      have hb0 : b0.toInt = cp.toInt := by rw [← eb0, r0]; exact own_x1 hc0 (by omega)
      refine own_blk X73 B0_446_449 B0_446_449d (ls' := #[.val (.int z0), .val (.int z1), .val (.int z2), .val (.int z3), .val (.int nn), .val (.int kk), .val (.int cp), .val (.int q), .val (.int f), .val (.ref b), .val (.int (q + (1 : Int32))), .val (.int (1 : Int32)), .val (.int (1 : Int32)), .val (.int b0), .unset, .unset, .unset]) (st' := [(.int (1 : Int32)), (.int (1 : Int32))]) rfl ?_
      refine own_icmp X73 d0_449 (pc' := 465) (by decide) (fun (c449 : ¬ (1 : Int) = 1) => by exfalso; omega) (fun c449 => ?_)
      have c449 : ¬ (¬ (1 : Int) = 1) := c449
      refine own_blk X73 B0_452_456 B0_452_456d (ls' := #[.val (.int z0), .val (.int z1), .val (.int z2), .val (.int z3), .val (.int nn), .val (.int kk), .val (.int cp), .val (.int q), .val (.int f), .val (.ref b), .val (.int (q + (1 : Int32))), .val (.int (1 : Int32)), .val (.int (1 : Int32)), .val (.int b0), .unset, .unset, .unset]) (st' := [(.int cp), (.int b0)]) rfl ?_
      refine own_icmp X73 d0_456 (pc' := 463) (by decide) (fun (c456 : ¬ b0.toInt = cp.toInt) => by exfalso; omega) (fun c456 => ?_)
      have c456 : ¬ (¬ b0.toInt = cp.toInt) := c456
      refine own_blk X73 B0_459_460 B0_459_460d (ls' := #[.val (.int z0), .val (.int z1), .val (.int z2), .val (.int z3), .val (.int nn), .val (.int kk), .val (.int cp), .val (.int q), .val (.int f), .val (.ref b), .val (.int (q + (1 : Int32))), .val (.int (1 : Int32)), .val (.int (1 : Int32)), .val (.int b0), .unset, .unset, .unset]) (st' := [(.int (1 : Int32))]) rfl ?_
      refine own_goto X73 d0_460 (pc' := 464) (by decide) ?_
      exact own_retN X73 (by simp) d0_464 (v' := (1 : Int32)) (rfl) (by decide) (by decide) (rfl)
  refine own_blk X0 B0_11_13 B0_11_13d (ls' := #[.val (.int z0), .val (.int z1), .val (.int z2), .val (.int z3), .val (.int nn), .val (.int kk), .unset, .unset, .unset, .unset, .unset, .unset, .unset, .unset, .unset, .unset, .unset]) (st' := [(.int kk)]) rfl ?_
  refine own_if X0 d0_13 (pc' := 26) (by decide) (fun c13 => ?_) (fun c13 => ?_)
  · have c13 : ¬ kk.toInt = 0 := c13
    refine own_blk X0 B0_26_29 B0_26_29d (ls' := #[.val (.int z0), .val (.int z1), .val (.int z2), .val (.int z3), .val (.int nn), .val (.int kk), .unset, .unset, .unset, .unset, .unset, .unset, .unset, .unset, .unset, .unset, .unset]) (st' := [(.int (1 : Int32)), (.int kk)]) rfl ?_
    refine own_icmp X0 d0_29 (pc' := 47) (by decide) (fun c29 => ?_) (fun c29 => ?_)
    · have c29 : ¬ kk.toInt = 1 := c29
      refine own_blk X0 B0_47_50 B0_47_50d (ls' := #[.val (.int z0), .val (.int z1), .val (.int z2), .val (.int z3), .val (.int nn), .val (.int kk), .unset, .unset, .unset, .unset, .unset, .unset, .unset, .unset, .unset, .unset, .unset]) (st' := [(.int (2 : Int32)), (.int kk)]) rfl ?_
      refine own_icmp X0 d0_50 (pc' := 82) (by decide) (fun c50 => ?_) (fun c50 => ?_)
      · have c50 : ¬ kk.toInt = 2 := c50
        refine own_ldc X0 (hw _ (List.mem_of_getElem? (i := 10) rfl)) d0_82 ?_
        refine own_blk X0 B0_84_86 B0_84_86d (ls' := #[.val (.int z0), .val (.int z1), .val (.int z2), .val (.int z3), .val (.int nn), .val (.int kk), .unset, .unset, .unset, .unset, .unset, .unset, .unset, .unset, .unset, .unset, .unset]) (st' := [(.int nn), (.int (65536 : Int32))]) rfl ?_
        refine own_ldc X0 (hw _ (List.mem_of_getElem? (i := 11) rfl)) d0_86 ?_
        refine own_iremS X0 d0_88 (by decide) ?_
        refine own_blk X0 B0_89_92 B0_89_92d (ls' := #[.val (.int z0), .val (.int z1), .val (.int z2), .val (.int z3), .val (.int nn), .val (.int kk), .val (.int ((65536 : Int32) + (own_irem nn (1048576 : Int32)))), .unset, .unset, .unset, .unset, .unset, .unset, .unset, .unset, .unset, .unset]) (st' := []) rfl ?_
        refine J92 _ ?_ ?_
        · have h1 : (own_irem nn (1048576 : Int32)).toInt = nn.toInt % 1048576 := own_irem_pos hnn
          have h2 : ((65536 : Int32) + own_irem nn (1048576 : Int32)).toInt = 65536 + nn.toInt % 1048576 := by rw [Jvm.Kit.i32_add (by rw [h1]; show _ ≤ (65536 : Int) + _; omega) (by rw [h1]; show (65536 : Int) + _ < _; omega), h1]; rfl
          omega
        · have h1 : (own_irem nn (1048576 : Int32)).toInt = nn.toInt % 1048576 := own_irem_pos hnn
          have h2 : ((65536 : Int32) + own_irem nn (1048576 : Int32)).toInt = 65536 + nn.toInt % 1048576 := by rw [Jvm.Kit.i32_add (by rw [h1]; show _ ≤ (65536 : Int) + _; omega) (by rw [h1]; show (65536 : Int) + _ < _; omega), h1]; rfl
          omega
      · have c50 : ¬ (¬ kk.toInt = 2) := c50
        refine own_blk X0 B0_53_58 B0_53_58d (ls' := #[.val (.int z0), .val (.int z1), .val (.int z2), .val (.int z3), .val (.int nn), .val (.int kk), .unset, .unset, .unset, .unset, .unset, .unset, .unset, .unset, .unset, .unset, .unset]) (st' := [(.int nn), (.int (2048 : Int32))]) rfl ?_
        refine own_ldc X0 (hw _ (List.mem_of_getElem? (i := 16) rfl)) d0_58 ?_
        refine own_iremS X0 d0_60 (by decide) ?_
        refine own_blk X0 B0_61_66 B0_61_66d (ls' := #[.val (.int z0), .val (.int z1), .val (.int z2), .val (.int z3), .val (.int nn), .val (.int kk), .val (.int ((2048 : Int32) + (own_irem nn (61440 : Int32)))), .unset, .unset, .unset, .unset, .unset, .unset, .unset, .unset, .unset, .unset]) (st' := [(.int ((2048 : Int32) + (own_irem nn (61440 : Int32))))]) rfl ?_
        refine own_ldc X0 (hw _ (List.mem_of_getElem? (i := 17) rfl)) d0_66 ?_
        refine own_icmp X0 d0_68 (pc' := 92) (by decide) (fun c68 => ?_) (fun c68 => ?_)
        · have c68 : ((2048 : Int32) + (own_irem nn (61440 : Int32))).toInt < 55296 := c68
          refine J92 _ ?_ ?_
          · have h1 : (own_irem nn (61440 : Int32)).toInt = nn.toInt % 61440 := own_irem_pos hnn
            have h2 : ((2048 : Int32) + own_irem nn (61440 : Int32)).toInt = 2048 + nn.toInt % 61440 := by rw [Jvm.Kit.i32_add (by rw [h1]; show _ ≤ (2048 : Int) + _; omega) (by rw [h1]; show (2048 : Int) + _ < _; omega), h1]; rfl
            omega
          · have h1 : (own_irem nn (61440 : Int32)).toInt = nn.toInt % 61440 := own_irem_pos hnn
            have h2 : ((2048 : Int32) + own_irem nn (61440 : Int32)).toInt = 2048 + nn.toInt % 61440 := by rw [Jvm.Kit.i32_add (by rw [h1]; show _ ≤ (2048 : Int) + _; omega) (by rw [h1]; show (2048 : Int) + _ < _; omega), h1]; rfl
            omega
        · have c68 : ¬ (((2048 : Int32) + (own_irem nn (61440 : Int32))).toInt < 55296) := c68
          refine own_blk X0 B0_71_79 B0_71_79d (ls' := #[.val (.int z0), .val (.int z1), .val (.int z2), .val (.int z3), .val (.int nn), .val (.int kk), .val (.int (((2048 : Int32) + (own_irem nn (61440 : Int32))) + (2048 : Int32))), .unset, .unset, .unset, .unset, .unset, .unset, .unset, .unset, .unset, .unset]) (st' := []) rfl ?_
          refine own_goto X0 d0_79 (pc' := 92) (by decide) ?_
          refine J92 _ ?_ ?_
          · have h1 : (own_irem nn (61440 : Int32)).toInt = nn.toInt % 61440 := own_irem_pos hnn
            have h2 : ((2048 : Int32) + own_irem nn (61440 : Int32)).toInt = 2048 + nn.toInt % 61440 := by rw [Jvm.Kit.i32_add (by rw [h1]; show _ ≤ (2048 : Int) + _; omega) (by rw [h1]; show (2048 : Int) + _ < _; omega), h1]; rfl
            have h3 : (((2048 : Int32) + (own_irem nn (61440 : Int32))) + (2048 : Int32)).toInt = 2048 + nn.toInt % 61440 + 2048 := by rw [own_addc (d := 2048) rfl (by omega) (by omega), h2]
            omega
          · have h1 : (own_irem nn (61440 : Int32)).toInt = nn.toInt % 61440 := own_irem_pos hnn
            have h2 : ((2048 : Int32) + own_irem nn (61440 : Int32)).toInt = 2048 + nn.toInt % 61440 := by rw [Jvm.Kit.i32_add (by rw [h1]; show _ ≤ (2048 : Int) + _; omega) (by rw [h1]; show (2048 : Int) + _ < _; omega), h1]; rfl
            have h3 : (((2048 : Int32) + (own_irem nn (61440 : Int32))) + (2048 : Int32)).toInt = 2048 + nn.toInt % 61440 + 2048 := by rw [own_addc (d := 2048) rfl (by omega) (by omega), h2]
            omega
    · have c29 : ¬ (¬ kk.toInt = 1) := c29
      refine own_blk X0 B0_32_40 B0_32_40d (ls' := #[.val (.int z0), .val (.int z1), .val (.int z2), .val (.int z3), .val (.int nn), .val (.int kk), .unset, .unset, .unset, .unset, .unset, .unset, .unset, .unset, .unset, .unset, .unset]) (st' := [(.int (1920 : Int32)), (.int nn), (.int (128 : Int32))]) rfl ?_
      refine own_iremS X0 d0_40 (by decide) ?_
      refine own_blk X0 B0_41_44 B0_41_44d (ls' := #[.val (.int z0), .val (.int z1), .val (.int z2), .val (.int z3), .val (.int nn), .val (.int kk), .val (.int ((128 : Int32) + (own_irem nn (1920 : Int32)))), .unset, .unset, .unset, .unset, .unset, .unset, .unset, .unset, .unset, .unset]) (st' := []) rfl ?_
      refine own_goto X0 d0_44 (pc' := 92) (by decide) ?_
      refine J92 _ ?_ ?_
      · have h1 : (own_irem nn (1920 : Int32)).toInt = nn.toInt % 1920 := own_irem_pos hnn
        have h2 : ((128 : Int32) + own_irem nn (1920 : Int32)).toInt = 128 + nn.toInt % 1920 := by rw [Jvm.Kit.i32_add (by rw [h1]; show _ ≤ (128 : Int) + _; omega) (by rw [h1]; show (128 : Int) + _ < _; omega), h1]; rfl
        omega
      · have h1 : (own_irem nn (1920 : Int32)).toInt = nn.toInt % 1920 := own_irem_pos hnn
        have h2 : ((128 : Int32) + own_irem nn (1920 : Int32)).toInt = 128 + nn.toInt % 1920 := by rw [Jvm.Kit.i32_add (by rw [h1]; show _ ≤ (128 : Int) + _; omega) (by rw [h1]; show (128 : Int) + _ < _; omega), h1]; rfl
        omega
  · have c13 : ¬ (¬ kk.toInt = 0) := c13
    refine own_blk X0 B0_16_23 B0_16_23d (ls' := #[.val (.int z0), .val (.int z1), .val (.int z2), .val (.int z3), .val (.int nn), .val (.int kk), .val (.int (nn &&& (127 : Int32))), .unset, .unset, .unset, .unset, .unset, .unset, .unset, .unset, .unset, .unset]) (st' := []) rfl ?_
    refine own_goto X0 d0_23 (pc' := 92) (by decide) ?_
    refine J92 _ ?_ ?_
    · have h1 := own_mk nn 127 7 (by decide) (by decide)
      omega
    · have h1 := own_mk nn 127 7 (by decide) (by decide)
      omega
set_option maxRecDepth 65536 in
set_option maxHeartbeats 40000000 in
theorem comes_1 {Post : Tables → Env → Array Value → State → Outcome → State → Prop} (hpost : ∀ tb e args s v u, (limb_1_1.after args s (.returned v) u = true ∧ limb_1_2.after args s (.returned v) u = true ∧ True) → FrameEnd s (.returned v) u (Jvm.fieldLocs frame_1_writes args s ++ Jvm.arrayLocs frame_1_arrays args s ++ Jvm.staticLocs frame_1_statics s) 16 128 → Post tb e args s (.returned v) u) :
    ArmFor flags0 classFile x code maxLocals ret World_1 tables_1 room_1 Calls_1 rest_1 Pre_1 Post := by
  intro l hfl _ _ p e ha hc hk s m args below hf hA hF happ hP
  obtain ⟨hcalls, hrest, hpre⟩ := hP
  obtain ⟨-, -, -, hnamed, -, -, -, hat⟩ := (Spec.applies_iff hf).mp happ
  obtain ⟨hg, hn⟩ := and_e (Cond.before_iff.mp (show (Jvm.Cond.and given_1 narrow_1).before args s = true from hpre))
  obtain ⟨gc, g0⟩ := and_e hg
  obtain ⟨q0, g1⟩ := and_e g0
  obtain ⟨q1, g2⟩ := and_e g1
  obtain ⟨q2, g3⟩ := and_e g2
  obtain ⟨w0, w1, w2, w3, rfl⟩ : ∃ w0 w1 w2 w3 : Value, args = #[w0, w1, w2, w3] := by
    have hs : args.size = 4 := by simpa [Cond.value, given_1] using gc
    obtain ⟨L⟩ := args
    match L, hs with
    | [w0, w1, w2, w3], _ => exact ⟨w0, w1, w2, w3, rfl⟩
  have hw := fun d (hd : d ∈ tables_1) => atoms_spec (ws := Jvm.Cond.code x code maxLocals ret :: tables_1) hat d (List.mem_cons_of_mem _ hd)
  obtain ⟨i0, ei0⟩ := is_v q0
  obtain rfl : w0 = (.int i0) := Option.some.inj ei0
  obtain ⟨i1, ei1⟩ := is_v q1
  obtain rfl : w1 = (.int i1) := Option.some.inj ei1
  obtain ⟨i2, ei2⟩ := is_v q2
  obtain rfl : w2 = (.int i2) := Option.some.inj ei2
  obtain ⟨i3, ei3⟩ := is_v g3
  obtain rfl : w3 = (.int i3) := Option.some.inj ei3
  obtain ⟨n, o, h1, h2, h3, _, L, rfl, ⟨N, rfl⟩, hq⟩ := c_law l s _ hw i0 i1 i2 i3 s.heap s.heap.size (Nat.le_refl _) tables_1 p e ha hc hk s m _ below hf ((Spec.applies_iff_loose hf).mp happ).1 ⟨rfl, State.Warmed39.refl s, rfl⟩ trivial
  refine ⟨n, _, h1, h2, h3, hpost _ _ _ _ _ _ ⟨Cond.after_iff.mpr rfl, Cond.after_iff.mpr (eq_i res_at (Term.int_eval (1)) rfl), trivial⟩ ⟨hq.1, hq.2.1, (hq.2.2.sift fun y hy => Or.inr (N y hy)).mono (by decide) (by decide)⟩⟩
theorem main_1_1 : Claimed_1_1 := comes_1 fun _ _ _ _ _ _ h hF => ⟨h.1, hF⟩
theorem main_1_2 : Claimed_1_2 := comes_1 fun _ _ _ _ _ _ h hF => ⟨h.2.1, hF⟩
end Jvm.Pilot.@@N@@
namespace Jvm.Pilot.@@N@@
open Jvm Jvm.ClassFile Sem Op Lib Jvm.Free Jvm.Stand Jvm.Pilot.@@N@@.Jvm.D
/-! MADE BY PROGRAM (witnessworld.py) out of the Statement's table words and the real class files: 9 classes; the members and pool entries that the words name. The judged class is class 1, her method 3. -/
namespace start1
open Jvm.ClassFile
def u (s : String) : CpInfo := .utf8 (stringToUtf16 s)
/-- a pool by its gaps: so many unusable entries, then the entry; so many at the end -/
def gap : Nat → List CpInfo → List CpInfo
  | 0, r => r
  | n + 1, r => .unusable :: gap n r
def poolList (es : List (Nat × CpInfo)) (last : Nat) : List CpInfo := es.foldr (fun e r => gap e.1 (e.2 :: r)) (gap last [])
def pool (es : List (Nat × CpInfo)) (last : Nat) : Array CpInfo := ⟨poolList es last⟩
def fileOf (pool : Array CpInfo) (this : Nat) (attrs : Array Attribute := #[]) (ms : Array MethodInfo := #[]) (fl : Nat := 33) (sup : Nat := 0) (ifs : Array Nat := #[]) (fds : Array FieldInfo := #[]) : ClassFile where
  minorVersion := 0
  majorVersion := 65
  constantPool := pool
  accessFlags := fl
  thisClass := this
  superClass := sup
  interfaces := ifs
  fields := fds
  methods := ms
  attributes := attrs
def plain (name : String) (sup : Option ClassId) : Class where
  name := name
  kind := .ordinary
  loader := none
  accessFlags := 33
  super := sup
  interfaces := #[]
  cf := none
  fields := #[]
  methods := #[]
  instanceTypes := #[]
  staticTypes := #[]
  resolved := #[]
  callSites := []
  init := .initialized
  statics := none
  mirror := none

def pool0 : Array CpInfo := pool [(5, u "<init>"), (0, u "()V"), (1, .class_ 10), (1, u "java/lang/Object")] 113

def k0m0 : Method := { name := "<init>", desc := "()V", sig := { parameters := [], returnType := none }, accessFlags := 1, code := none }
/-- java/lang/Object -/
def k0 : Class := { plain "java/lang/Object" none with
  accessFlags := 33
  interfaces := #[]
  cf := some (fileOf pool0 8 #[] #[{ accessFlags := 1, nameIndex := 5, descriptorIndex := 6, attributes := #[] }] 33 0 #[] #[])
  fields := #[]
  methods := #[k0m0]
  instanceTypes := #[]
  staticTypes := #[]
  resolved := Array.replicate 124 none
  statics := none }

def pool1 : Array CpInfo := pool [(2, .class_ 4), (1, u "java/lang/Object"), (0, u "<init>"), (0, u "()V"), (0, .integer 2147483647), (0, .integer 61440), (0, .integer 55296), (0, .integer 65536), (0, .integer 1048576), (0, .methodref 13 14), (0, .class_ 15), (0, .nameAndType 16 17), (0, u "com/example/cesta/cesta/Utf8"), (0, u "encode"), (0, u "(I[BI)I"), (0, .methodref 19 20), (0, .class_ 21), (0, .nameAndType 22 23), (0, u "com/example/cesta/cesta/Utf8EncodePinLaw"), (0, u "kept"), (0, u "([BIIIB)Z"), (0, .methodref 19 25), (0, .nameAndType 26 27), (0, u "cont"), (0, u "(I)Z"), (3, u "law"), (0, u "(IIII)Z")] 4

def k1m0 : Method := { name := "<init>", desc := "()V", sig := { parameters := [], returnType := none }, accessFlags := 1, code := none }
def k1c1 : Code := { maxStack := 2, maxLocals := 5, code := method_2_code, exceptionTable := #[], attributes := #[] }
def k1m1 : Method := { name := "kept", desc := "([BIIIB)Z", sig := { parameters := [(.array .byte), .int, .int, .int, .byte], returnType := some .boolean }, accessFlags := 10, code := some k1c1 }
def k1c2 : Code := { maxStack := 2, maxLocals := 1, code := method_3_code, exceptionTable := #[], attributes := #[] }
def k1m2 : Method := { name := "cont", desc := "(I)Z", sig := { parameters := [.int], returnType := some .boolean }, accessFlags := 10, code := some k1c2 }
def k1c3 : Code := { maxStack := 5, maxLocals := 17, code := code, exceptionTable := #[], attributes := #[] }
def k1m3 : Method := { name := "law", desc := "(IIII)Z", sig := { parameters := [.int, .int, .int, .int], returnType := some .boolean }, accessFlags := 9, code := some k1c3 }
/-- com/example/cesta/cesta/Utf8EncodePinLaw -/
def k1 : Class := { plain "com/example/cesta/cesta/Utf8EncodePinLaw" (some 0) with
  accessFlags := 49
  interfaces := #[]
  cf := some (fileOf pool1 19 #[] #[{ accessFlags := 1, nameIndex := 5, descriptorIndex := 6, attributes := #[] }, { accessFlags := 10, nameIndex := 22, descriptorIndex := 23, attributes := #[] }, { accessFlags := 10, nameIndex := 26, descriptorIndex := 27, attributes := #[] }, { accessFlags := 9, nameIndex := 31, descriptorIndex := 32, attributes := #[] }] 49 2 #[] #[])
  fields := #[]
  methods := #[k1m0, k1m1, k1m2, k1m3]
  instanceTypes := #[]
  staticTypes := #[]
  resolved := Array.replicate 37 none
  statics := none }

def pool2 : Array CpInfo := pool [(2, .class_ 4), (1, u "java/lang/Object"), (0, u "<init>"), (0, u "()V"), (0, .integer 65536), (11, .class_ 21), (1, u "com/example/cesta/cesta/Utf8"), (0, u "encode"), (0, u "(I[BI)I"), (3, u "MAX_LENGTH"), (0, u "I"), (2, u "MAX_CHAR_LENGTH")] 13

def k2m0 : Method := { name := "<init>", desc := "()V", sig := { parameters := [], returnType := none }, accessFlags := 2, code := none }
def k2c1 : Code := { maxStack := 5, maxLocals := 3, code := prog_135_method_2_code, exceptionTable := #[], attributes := #[] }
def k2m1 : Method := { name := "encode", desc := "(I[BI)I", sig := { parameters := [.int, (.array .byte), .int], returnType := some .int }, accessFlags := 8, code := some k2c1 }
/-- com/example/cesta/cesta/Utf8 -/
def k2 : Class := { plain "com/example/cesta/cesta/Utf8" (some 0) with
  accessFlags := 48
  interfaces := #[]
  cf := some (fileOf pool2 19 #[] #[{ accessFlags := 2, nameIndex := 5, descriptorIndex := 6, attributes := #[] }, { accessFlags := 8, nameIndex := 22, descriptorIndex := 23, attributes := #[] }] 48 2 #[] #[{ accessFlags := 24, nameIndex := 27, descriptorIndex := 28, attributes := #[] }, { accessFlags := 24, nameIndex := 31, descriptorIndex := 28, attributes := #[] }])
  fields := #[{ name := "MAX_LENGTH", type := .int, accessFlags := 24, slot := 0, constantValue := 0 }, { name := "MAX_CHAR_LENGTH", type := .int, accessFlags := 24, slot := 1, constantValue := 0 }]
  methods := #[k2m0, k2m1]
  instanceTypes := #[]
  staticTypes := #[.int, .int]
  resolved := Array.replicate 45 none
  statics := none }

def pool3 : Array CpInfo := pool [(1, u "java/lang/Cloneable"), (0, .class_ 1), (0, u "java/lang/Object"), (0, .class_ 3)] 3

/-- java/lang/Cloneable -/
def k3 : Class := { plain "java/lang/Cloneable" (some 0) with
  accessFlags := 1537
  interfaces := #[]
  cf := some (fileOf pool3 2 #[] #[] 1537 4 #[] #[])
  fields := #[]
  methods := #[]
  instanceTypes := #[]
  staticTypes := #[]
  resolved := Array.replicate 8 none
  statics := none }

def pool4 : Array CpInfo := pool [(1, u "java/io/Serializable"), (0, .class_ 1), (0, u "java/lang/Object"), (0, .class_ 3)] 3

/-- java/io/Serializable -/
def k4 : Class := { plain "java/io/Serializable" (some 0) with
  accessFlags := 1537
  interfaces := #[]
  cf := some (fileOf pool4 2 #[] #[] 1537 4 #[] #[])
  fields := #[]
  methods := #[]
  instanceTypes := #[]
  staticTypes := #[]
  resolved := Array.replicate 8 none
  statics := none }

/-- the primitive byte -/
def k5 : Class := { plain "byte" none with kind := .primitive 'B', accessFlags := 0x411 }
/-- [B -/
def k6 : Class := { plain "[B" (some 0) with kind := .array 5 .byte, interfaces := #[3, 4], accessFlags := 1041 }

/-- the primitive int -/
def k7 : Class := { plain "int" none with kind := .primitive 'I', accessFlags := 0x411 }
/-- [I -/
def k8 : Class := { plain "[I" (some 0) with kind := .array 7 .int, interfaces := #[3, 4], accessFlags := 1041 }

def heap : Heap := #[]
def classes : Array Class := #[k0, k1, k2, k3, k4, k5, k6, k7, k8]
def interned : List (Array UInt16 × Addr) := []
def slotsUsed : Nat := 0
def theMethod : MethodId := ⟨1, 3⟩
def args0 : Array Value := #[.int 5, .int 6, .int 7, .int 8]
def aboutOver (below : List Frame) : State where
  vm := { classes := classes, interned := interned.toArray }
  heap := heap
  slotsUsed := slotsUsed
  threads := #[{ frames := .invoking theMethod args0 :: below }]
def below0 : List Frame := [.native { method := ⟨0, 0⟩, args := #[] }]
def about1 : State := aboutOver below0
def p0 : Program := .bare "" "" ""
def e0 : Env := launch0.env 0 0 0
theorem w_frames : about1.frames = Frame.invoking theMethod args0 :: below0 := rfl
set_option maxRecDepth 65536 in
theorem w_args : argsFit about1.vm theMethod args0 = true := by decide +kernel
set_option maxRecDepth 65536 in
theorem w_heap : heapFits about1 = true := by decide +kernel
set_option maxRecDepth 65536 in
theorem w_runnable : about1.curStatus? = some .runnable := by decide +kernel
set_option maxRecDepth 65536 in
theorem w_alone : about1.alone = true := by decide +kernel
set_option maxRecDepth 65536 in
theorem w_named : about1.methodNamed? x = some theMethod := by decide +kernel
set_option maxRecDepth 65536 in
theorem w_hears : about1.hears theMethod below0 = true := by decide +kernel
set_option maxRecDepth 65536 in
theorem w_ripe : about1.ripe theMethod args0 below0 = true := by decide +kernel
theorem w_running : about1.status = .running := rfl
set_option maxRecDepth 65536 in
theorem w_room : about1.hasRoom e0.platform room_1 = true :=
  launch0.hasRoom_least _ room_1 (by decide +kernel) (by decide +kernel) (by decide +kernel) (by decide +kernel) (by decide +kernel) (by decide +kernel)
theorem allAtoms_all (ts : List Jvm.Cond) (a : Array Jvm.Value) (st : Jvm.State) : (allAtoms ts).before a st = ts.all (fun c => c.before a st) := by
  induction ts with
  | nil => rfl
  | cons c t ih =>
    show (Jvm.Cond.and c (allAtoms t)).before a st = _
    rw [Jvm.Cond.before_and, ih, List.all_cons]
def words1 : List Jvm.Cond := Jvm.Cond.code x code maxLocals ret :: tables_1
/-- a 'code' word, met by the world's own term for the bytes: nothing is compared byte by byte -/
theorem code_word {y : MethodName} {bytes : ByteArray} {mx : Nat} {rt : Option FieldType} {a : Array Value} {s : State} {m : MethodId} {meth : Method} {c : Code} (h1 : s.methodNamed? y = some m) (h2 : s.vm.method? m = some meth) (h3 : meth.code = some c) (h4 : c.code = bytes)
    (h5 : (c.maxLocals == mx && c.exceptionTable.isEmpty && decide (c.maxStack ≤ mostOperands) && decide (meth.sig.returnType = rt) && !meth.locks && decide (parseMethodDescriptor y.desc = some meth.sig)) = true) : (Jvm.Cond.code y bytes mx rt).before a s = true := by
  simp only [Bool.and_eq_true, beq_iff_eq, Bool.not_eq_true', decide_eq_true_eq] at h5
  obtain ⟨⟨⟨⟨⟨g1, g2⟩, g3⟩, g4⟩, g5⟩, g6⟩ := h5
  simp [Cond.before, Cond.holds, Cond.value, h1, h2, h3, h4, g1, g2, g3, g4, g5, g6]
def isCode : Jvm.Cond → Bool
  | .code _ _ _ _ => true
  | _ => false
theorem all_split {L : List Jvm.Cond} {P : Jvm.Cond → Bool} (h1 : L.all (fun c => isCode c || P c) = true) (h2 : ∀ c ∈ L.filter isCode, P c = true) : L.all P = true := by
  refine List.all_eq_true.mpr fun c hc => ?_
  have h := List.all_eq_true.mp h1 c hc
  rcases Bool.eq_false_or_eq_true (isCode c) with hi | hi
  · exact h2 c (List.mem_filter.mpr ⟨hc, hi⟩)
  · simpa [hi] using h
set_option maxRecDepth 65536 in
theorem w_c0 : (Jvm.Cond.code x code maxLocals ret).before args0 about1 = true := code_word (m := ⟨1, 3⟩) (meth := k1m3) (c := k1c3) (by decide +kernel) rfl rfl rfl (by decide +kernel)
set_option maxRecDepth 65536 in
theorem w_c1 : (Jvm.Cond.code ({ cls := "com/example/cesta/cesta/Utf8", name := "encode", desc := "(I[BI)I" } : Jvm.MethodName) prog_135_method_2_code (3 : Nat) (Option.some Jvm.ClassFile.FieldType.int)).before args0 about1 = true := code_word (m := ⟨2, 1⟩) (meth := k2m1) (c := k2c1) (by decide +kernel) rfl rfl rfl (by decide +kernel)
set_option maxRecDepth 65536 in
theorem w_c2 : (Jvm.Cond.code ({ cls := "com/example/cesta/cesta/Utf8EncodePinLaw", name := "kept", desc := "([BIIIB)Z" } : Jvm.MethodName) method_2_code (5 : Nat) (Option.some Jvm.ClassFile.FieldType.boolean)).before args0 about1 = true := code_word (m := ⟨1, 1⟩) (meth := k1m1) (c := k1c1) (by decide +kernel) rfl rfl rfl (by decide +kernel)
set_option maxRecDepth 65536 in
theorem w_c3 : (Jvm.Cond.code ({ cls := "com/example/cesta/cesta/Utf8EncodePinLaw", name := "cont", desc := "(I)Z" } : Jvm.MethodName) method_3_code (1 : Nat) (Option.some Jvm.ClassFile.FieldType.boolean)).before args0 about1 = true := code_word (m := ⟨1, 2⟩) (meth := k1m2) (c := k1c2) (by decide +kernel) rfl rfl rfl (by decide +kernel)
def codes1 : List Jvm.Cond := [Jvm.Cond.code x code maxLocals ret, Jvm.Cond.code ({ cls := "com/example/cesta/cesta/Utf8", name := "encode", desc := "(I[BI)I" } : Jvm.MethodName) prog_135_method_2_code (3 : Nat) (Option.some Jvm.ClassFile.FieldType.int), Jvm.Cond.code ({ cls := "com/example/cesta/cesta/Utf8EncodePinLaw", name := "kept", desc := "([BIIIB)Z" } : Jvm.MethodName) method_2_code (5 : Nat) (Option.some Jvm.ClassFile.FieldType.boolean), Jvm.Cond.code ({ cls := "com/example/cesta/cesta/Utf8EncodePinLaw", name := "cont", desc := "(I)Z" } : Jvm.MethodName) method_3_code (1 : Nat) (Option.some Jvm.ClassFile.FieldType.boolean)]
set_option maxRecDepth 65536 in
theorem codes_eq : words1.filter isCode = codes1 := rfl
theorem w_codes : ∀ c ∈ words1.filter isCode, c.before args0 about1 = true := by
  rw [codes_eq]
  intro c hc
  simp only [codes1, List.mem_cons, List.not_mem_nil, or_false] at hc
  rcases hc with rfl | rfl | rfl | rfl
  · exact w_c0
  · exact w_c1
  · exact w_c2
  · exact w_c3
set_option maxRecDepth 65536 in
theorem w_t1 : words1.all (fun c => isCode c || c.before args0 about1) = true := by decide +kernel
theorem w_tables : (allAtoms (Jvm.Cond.code x code maxLocals ret :: tables_1)).before args0 about1 = true := by
  rw [allAtoms_all]
  show words1.all (fun c => c.before args0 about1) = true
  refine all_split ?_ w_codes
  rw [w_t1]
set_option maxRecDepth 65536 in
theorem w_case : (Jvm.Cond.and given_1 narrow_1).before args0 about1 = true := by decide +kernel
theorem w_applies : (headSpec (Jvm.Cond.code x code maxLocals ret :: tables_1) room_1).applies x e0.platform about1 = true :=
  (Spec.applies_iff w_frames).mpr ⟨w_running, w_runnable, w_alone, w_named, w_hears, w_ripe, w_room, w_tables⟩
theorem atStart : AtStart classFile x code maxLocals ret World_1 tables_1 room_1 Calls_1 rest_1 Pre_1 launch0 p0 e0 about1 theMethod args0 below0 :=
  ⟨lists_1, trivial, launch0.admits_env _ _ _, launch0.least_env, fairChoices_fair.cas, fairChoices_fair.clock, w_frames, w_args, w_heap, w_applies, trivial, trivial, w_case⟩
end start1
theorem witness_1 : WitnessClaimed_1 := ⟨start1.p0, start1.e0, start1.about1, start1.theMethod, start1.args0, start1.below0, start1.atStart⟩
end Jvm.Pilot.@@N@@
