import JvmDerived
import JvmDerived.Pilot.@@N@@Statement
import JvmDerived.Pilot.@@N@@Code
set_option linter.unusedVariables false
set_option linter.unusedSimpArgs false
@@BLOCK:NumsL.lean.txt@@
namespace Jvm.Pilot.@@N@@
open Jvm Jvm.ClassFile Sem Op Lib Jvm.Free Jvm.Stand Jvm.LawKit Jvm.RoadKit Bundle Jvm.Pilot.@@N@@.Jvm.D
/-! ### own layer 1: plain steps by evaluation over a list of decoded instructions -/
def own_iushr (x y : Int32) : Int32 := (x.toUInt32 >>> (y &&& 31).toUInt32).toInt32
def own_ishl (x y : Int32) : Int32 := x <<< (y &&& 31)
def own_ishr (x y : Int32) : Int32 := x >>> (y &&& 31)
def own_irem (x y : Int32) : Int32 := x - (x / y) * y
def own_lrem (x y : Int64) : Int64 := x - (x / y) * y
def own_lushr (x : Int64) (y : Int32) : Int64 := (x.toUInt64 >>> (y &&& 0x3f).toInt64.toUInt64).toInt64
def own_lshl (x : Int64) (y : Int32) : Int64 := x <<< (y &&& 0x3f).toInt64
def own_lshr (x : Int64) (y : Int32) : Int64 := x >>> (y &&& 0x3f).toInt64
def own_i2b (x : Int32) : Int32 := x.toInt8.toInt32

abbrev own_R : Type := Option (Array Slot × List Value)
def own_i2 (f : Int32 → Int32 → Int32) (ls : Array Slot) : List Value → own_R
  | .int y :: .int x :: r => some (ls, .int (f x y) :: r)
  | _ => none
def own_i1 (f : Int32 → Value) (ls : Array Slot) : List Value → own_R
  | .int x :: r => some (ls, f x :: r)
  | _ => none
def own_l2 (f : Int64 → Int64 → Int64) (ls : Array Slot) : List Value → own_R
  | .long y :: .long x :: r => some (ls, .long (f x y) :: r)
  | _ => none
def own_lS (f : Int64 → Int32 → Int64) (ls : Array Slot) : List Value → own_R
  | .int y :: .long x :: r => some (ls, .long (f x y) :: r)
  | _ => none
def own_l1 (f : Int64 → Value) (ls : Array Slot) : List Value → own_R
  | .long x :: r => some (ls, f x :: r)
  | _ => none
def own_li (ls : Array Slot) (k : Nat) (st : List Value) : own_R :=
  match ls[k]? with
  | some (.val (.int v)) => some (ls, .int v :: st)
  | _ => none
def own_ll (ls : Array Slot) (k : Nat) (st : List Value) : own_R :=
  match ls[k]? with
  | some (.val (.long v)) => some (ls, .long v :: st)
  | _ => none
def own_la (ls : Array Slot) (k : Nat) (st : List Value) : own_R :=
  match ls[k]? with
  | some (.val (.ref v)) => some (ls, .ref v :: st)
  | some (.val .null) => some (ls, .null :: st)
  | _ => none
def own_sv (ls : Array Slot) (k : Nat) (v : Value) (r : List Value) : own_R :=
  match storeLocals ls k v with
  | some l' => some (l', r)
  | none => none
def own_si (ls : Array Slot) (k : Nat) : List Value → own_R
  | .int x :: r => own_sv ls k (.int x) r
  | _ => none
def own_sl (ls : Array Slot) (k : Nat) : List Value → own_R
  | .long x :: r => own_sv ls k (.long x) r
  | _ => none
def own_sa (ls : Array Slot) (k : Nat) : List Value → own_R
  | .ref x :: r => own_sv ls k (.ref x) r
  | .null :: r => own_sv ls k .null r
  | _ => none
def own_inc (ls : Array Slot) (k : Nat) (d : Int) (st : List Value) : own_R :=
  match ls[k]? with
  | some (.val (.int v)) => own_sv ls k (.int (v + Int32.ofInt d)) st
  | _ => none
def own_dup (ls : Array Slot) : List Value → own_R
  | .int x :: r => some (ls, .int x :: .int x :: r)
  | .ref x :: r => some (ls, .ref x :: .ref x :: r)
  | _ => none
def own_dupX (ls : Array Slot) : List Value → own_R
  | .int x :: .ref y :: r => some (ls, .int x :: .ref y :: .int x :: r)
  | _ => none
def own_pop (ls : Array Slot) : List Value → own_R
  | .int _ :: r => some (ls, r)
  | .ref _ :: r => some (ls, r)
  | _ => none

def own_p (i : Instr) (n : Nat) (ls : Array Slot) (st : List Value) : own_R :=
  match i, n with
  | .iconst k, 1 => some (ls, .int (Int32.ofInt k) :: st)
  | .bipush k, 2 => some (ls, .int (Int8.ofInt k).toInt32 :: st)
  | .sipush k, 3 => some (ls, .int (Int16.ofInt k).toInt32 :: st)
  | .lconst k, 1 => some (ls, .long (Int64.ofNat k) :: st)
  | .aconst_null, 1 => some (ls, .null :: st)
  | .iload_n k, 1 => own_li ls k.val st
  | .iload k, 2 => own_li ls k st
  | .lload_n k, 1 => own_ll ls k.val st
  | .lload k, 2 => own_ll ls k st
  | .aload_n k, 1 => own_la ls k.val st
  | .aload k, 2 => own_la ls k st
  | .istore_n k, 1 => own_si ls k.val st
  | .istore k, 2 => own_si ls k st
  | .lstore_n k, 1 => own_sl ls k.val st
  | .lstore k, 2 => own_sl ls k st
  | .astore_n k, 1 => own_sa ls k.val st
  | .astore k, 2 => own_sa ls k st
  | .iinc k d, 3 => own_inc ls k d st
  | .iadd, 1 => own_i2 (· + ·) ls st
  | .isub, 1 => own_i2 (· - ·) ls st
  | .imul, 1 => own_i2 (· * ·) ls st
  | .iand, 1 => own_i2 (· &&& ·) ls st
  | .ior, 1 => own_i2 (· ||| ·) ls st
  | .ixor, 1 => own_i2 (· ^^^ ·) ls st
  | .ishl, 1 => own_i2 own_ishl ls st
  | .ishr, 1 => own_i2 own_ishr ls st
  | .iushr, 1 => own_i2 own_iushr ls st
  | .ladd, 1 => own_l2 (· + ·) ls st
  | .lsub, 1 => own_l2 (· - ·) ls st
  | .lmul, 1 => own_l2 (· * ·) ls st
  | .land, 1 => own_l2 (· &&& ·) ls st
  | .lor, 1 => own_l2 (· ||| ·) ls st
  | .lxor, 1 => own_l2 (· ^^^ ·) ls st
  | .lshl, 1 => own_lS own_lshl ls st
  | .lshr, 1 => own_lS own_lshr ls st
  | .lushr, 1 => own_lS own_lushr ls st
  | .i2b, 1 => own_i1 (fun x => .int (own_i2b x)) ls st
  | .i2l, 1 => own_i1 (fun x => .long x.toInt64) ls st
  | .l2i, 1 => own_l1 (fun x => .int x.toInt32) ls st
  | .dup, 1 => own_dup ls st
  | .dup_x1, 1 => own_dupX ls st
  | .pop, 1 => own_pop ls st
  | _, _ => none

section Inv
variable {ls ls' : Array Slot} {st st' : List Value}
theorem own_i2_inv {f : Int32 → Int32 → Int32} (h : own_i2 f ls st = some (ls', st')) : ∃ x y r, st = .int y :: .int x :: r ∧ ls' = ls ∧ st' = .int (f x y) :: r := by
  unfold own_i2 at h; split at h
  · cases h; exact ⟨_, _, _, rfl, rfl, rfl⟩
  · cases h
theorem own_i1_inv {f : Int32 → Value} (h : own_i1 f ls st = some (ls', st')) : ∃ x r, st = .int x :: r ∧ ls' = ls ∧ st' = f x :: r := by
  unfold own_i1 at h; split at h
  · cases h; exact ⟨_, _, rfl, rfl, rfl⟩
  · cases h
theorem own_l2_inv {f : Int64 → Int64 → Int64} (h : own_l2 f ls st = some (ls', st')) : ∃ x y r, st = .long y :: .long x :: r ∧ ls' = ls ∧ st' = .long (f x y) :: r := by
  unfold own_l2 at h; split at h
  · cases h; exact ⟨_, _, _, rfl, rfl, rfl⟩
  · cases h
theorem own_lS_inv {f : Int64 → Int32 → Int64} (h : own_lS f ls st = some (ls', st')) : ∃ x y r, st = .int y :: .long x :: r ∧ ls' = ls ∧ st' = .long (f x y) :: r := by
  unfold own_lS at h; split at h
  · cases h; exact ⟨_, _, _, rfl, rfl, rfl⟩
  · cases h
theorem own_l1_inv {f : Int64 → Value} (h : own_l1 f ls st = some (ls', st')) : ∃ x r, st = .long x :: r ∧ ls' = ls ∧ st' = f x :: r := by
  unfold own_l1 at h; split at h
  · cases h; exact ⟨_, _, rfl, rfl, rfl⟩
  · cases h
theorem own_li_inv {k : Nat} (h : own_li ls k st = some (ls', st')) : ∃ v, ls[k]? = some (.val (.int v)) ∧ ls' = ls ∧ st' = .int v :: st := by
  unfold own_li at h; split at h
  · rename_i q; cases h; exact ⟨_, q, rfl, rfl⟩
  · cases h
theorem own_ll_inv {k : Nat} (h : own_ll ls k st = some (ls', st')) : ∃ v, ls[k]? = some (.val (.long v)) ∧ ls' = ls ∧ st' = .long v :: st := by
  unfold own_ll at h; split at h
  · rename_i q; cases h; exact ⟨_, q, rfl, rfl⟩
  · cases h
theorem own_la_inv {k : Nat} (h : own_la ls k st = some (ls', st')) : ∃ v : Value, v.isRef = true ∧ ls[k]? = some (.val v) ∧ ls' = ls ∧ st' = v :: st := by
  unfold own_la at h; split at h
  · rename_i q; cases h; exact ⟨_, rfl, q, rfl, rfl⟩
  · rename_i q; cases h; exact ⟨_, rfl, q, rfl, rfl⟩
  · cases h
theorem own_sv_inv {k : Nat} {v : Value} {r : List Value} (h : own_sv ls k v r = some (ls', st')) : storeLocals ls k v = some ls' ∧ st' = r := by
  unfold own_sv at h; split at h
  · rename_i q; cases h; exact ⟨q, rfl⟩
  · cases h
theorem own_si_inv {k : Nat} (h : own_si ls k st = some (ls', st')) : ∃ x, st = .int x :: st' ∧ storeLocals ls k (.int x) = some ls' := by
  unfold own_si at h; split at h
  · obtain ⟨h1, h2⟩ := own_sv_inv h; subst h2; exact ⟨_, rfl, h1⟩
  · cases h
theorem own_sl_inv {k : Nat} (h : own_sl ls k st = some (ls', st')) : ∃ x, st = .long x :: st' ∧ storeLocals ls k (.long x) = some ls' := by
  unfold own_sl at h; split at h
  · obtain ⟨h1, h2⟩ := own_sv_inv h; subst h2; exact ⟨_, rfl, h1⟩
  · cases h
theorem own_sa_inv {k : Nat} (h : own_sa ls k st = some (ls', st')) : ∃ x : Value, x.isRef = true ∧ st = x :: st' ∧ storeLocals ls k x = some ls' := by
  unfold own_sa at h; split at h
  · obtain ⟨h1, h2⟩ := own_sv_inv h; subst h2; exact ⟨_, rfl, rfl, h1⟩
  · obtain ⟨h1, h2⟩ := own_sv_inv h; subst h2; exact ⟨_, rfl, rfl, h1⟩
  · cases h
theorem own_inc_inv {k : Nat} {d : Int} (h : own_inc ls k d st = some (ls', st')) : ∃ x, ls[k]? = some (.val (.int x)) ∧ storeLocals ls k (.int (x + Int32.ofInt d)) = some ls' ∧ st' = st := by
  unfold own_inc at h; split at h
  · rename_i q; obtain ⟨h1, h2⟩ := own_sv_inv h; exact ⟨_, q, h1, h2⟩
  · cases h
theorem own_dup_inv (h : own_dup ls st = some (ls', st')) : ∃ (x : Value) (r : List Value), st = x :: r ∧ x.category = 1 ∧ ls' = ls ∧ st' = x :: x :: r := by
  unfold own_dup at h; split at h
  · cases h; exact ⟨_, _, rfl, rfl, rfl, rfl⟩
  · cases h; exact ⟨_, _, rfl, rfl, rfl, rfl⟩
  · cases h
theorem own_dupX_inv (h : own_dupX ls st = some (ls', st')) : ∃ (x y : Value) (r : List Value), st = x :: y :: r ∧ x.category = 1 ∧ y.category = 1 ∧ ls' = ls ∧ st' = x :: y :: x :: r := by
  unfold own_dupX at h; split at h
  · cases h; exact ⟨_, _, _, rfl, rfl, rfl, rfl, rfl⟩
  · cases h
theorem own_pop_inv (h : own_pop ls st = some (ls', st')) : ∃ (x : Value), st = x :: st' ∧ x.category = 1 ∧ ls' = ls := by
  unfold own_pop at h; split at h
  · cases h; exact ⟨_, rfl, rfl, rfl⟩
  · cases h; exact ⟨_, rfl, rfl, rfl⟩
  · cases h
end Inv

set_option maxHeartbeats 4000000 in
theorem own_p_ok {tb : Tables} [Ours tb] {e : Env} {below : List Frame} {T t : State} {m : MethodId} {c : Code} (h : At T m c below) (hx : tb.exec = Jvm.exec) {i : Instr} {n pc : Nat} {ls ls' : Array Slot} {st st' : List Value}
    (hd : decode c.code pc = .ok (i, n)) (hp : own_p i n ls st = some (ls', st')) (hr : Steps tb e below (T.setTop (mkF m (pc + n) ls' st')) t) : Steps tb e below (T.setTop (mkF m pc ls st)) t := by
  unfold own_p at hp
  split at hp
  · cases hp; exact XS.iconst h hx rfl hd hr
  · cases hp; exact XS.bipush h hx rfl hd hr
  · cases hp; exact XS.sipush h hx rfl hd hr
  · cases hp; exact XS.lconst h hx rfl hd hr
  · cases hp; exact XS.aconstNull h hx rfl hd hr
  · obtain ⟨v, q, rfl, rfl⟩ := own_li_inv hp; exact XS.iloadN h hx rfl hd q hr
  · obtain ⟨v, q, rfl, rfl⟩ := own_li_inv hp; exact XS.iload h hx rfl hd q hr
  · obtain ⟨v, q, rfl, rfl⟩ := own_ll_inv hp; exact XS.lloadN h hx rfl hd q hr
  · obtain ⟨v, q, rfl, rfl⟩ := own_ll_inv hp; exact XS.lload h hx rfl hd q hr
  · obtain ⟨v, q0, q, rfl, rfl⟩ := own_la_inv hp; exact XS.aloadN h hx rfl hd q q0 hr
  · obtain ⟨v, q0, q, rfl, rfl⟩ := own_la_inv hp; exact XS.aload h hx rfl hd q q0 hr
  · obtain ⟨x, rfl, q⟩ := own_si_inv hp; exact XS.istoreN h hx rfl hd rfl q hr
  · obtain ⟨x, rfl, q⟩ := own_si_inv hp; exact XS.istore h hx rfl hd rfl q hr
  · obtain ⟨x, rfl, q⟩ := own_sl_inv hp; exact XS.lstoreN h hx rfl hd rfl q hr
  · obtain ⟨x, rfl, q⟩ := own_sl_inv hp; exact XS.lstore h hx rfl hd rfl q hr
  · obtain ⟨x, q0, rfl, q⟩ := own_sa_inv hp; exact XS.astoreN h hx rfl hd rfl q0 q hr
  · obtain ⟨x, q0, rfl, q⟩ := own_sa_inv hp; exact XS.astore h hx rfl hd rfl q0 q hr
  · obtain ⟨x, q1, q2, rfl⟩ := own_inc_inv hp; exact XS.iinc h hx rfl hd q1 q2 hr
  · obtain ⟨x, y, r, rfl, rfl, rfl⟩ := own_i2_inv hp; exact XS.iadd h hx rfl hd rfl hr
  · obtain ⟨x, y, r, rfl, rfl, rfl⟩ := own_i2_inv hp; exact XS.isub h hx rfl hd rfl hr
  · obtain ⟨x, y, r, rfl, rfl, rfl⟩ := own_i2_inv hp; exact XS.imul h hx rfl hd rfl hr
  · obtain ⟨x, y, r, rfl, rfl, rfl⟩ := own_i2_inv hp; exact XS.iand h hx rfl hd rfl hr
  · obtain ⟨x, y, r, rfl, rfl, rfl⟩ := own_i2_inv hp; exact XS.ior h hx rfl hd rfl hr
  · obtain ⟨x, y, r, rfl, rfl, rfl⟩ := own_i2_inv hp; exact XS.ixor h hx rfl hd rfl hr
  · obtain ⟨x, y, r, rfl, rfl, rfl⟩ := own_i2_inv hp; exact XS.ishl h hx rfl hd rfl hr
  · obtain ⟨x, y, r, rfl, rfl, rfl⟩ := own_i2_inv hp; exact XS.ishr h hx rfl hd rfl hr
  · obtain ⟨x, y, r, rfl, rfl, rfl⟩ := own_i2_inv hp; exact XS.iushr h hx rfl hd rfl hr
  · obtain ⟨x, y, r, rfl, rfl, rfl⟩ := own_l2_inv hp; exact XS.ladd h hx rfl hd rfl hr
  · obtain ⟨x, y, r, rfl, rfl, rfl⟩ := own_l2_inv hp; exact XS.lsub h hx rfl hd rfl hr
  · obtain ⟨x, y, r, rfl, rfl, rfl⟩ := own_l2_inv hp; exact XS.lmul h hx rfl hd rfl hr
  · obtain ⟨x, y, r, rfl, rfl, rfl⟩ := own_l2_inv hp; exact XS.land h hx rfl hd rfl hr
  · obtain ⟨x, y, r, rfl, rfl, rfl⟩ := own_l2_inv hp; exact XS.lor h hx rfl hd rfl hr
  · obtain ⟨x, y, r, rfl, rfl, rfl⟩ := own_l2_inv hp; exact XS.lxor h hx rfl hd rfl hr
  · obtain ⟨x, y, r, rfl, rfl, rfl⟩ := own_lS_inv hp; exact XS.lshl h hx rfl hd rfl hr
  · obtain ⟨x, y, r, rfl, rfl, rfl⟩ := own_lS_inv hp; exact XS.lshr h hx rfl hd rfl hr
  · obtain ⟨x, y, r, rfl, rfl, rfl⟩ := own_lS_inv hp; exact XS.lushr h hx rfl hd rfl hr
  · obtain ⟨x, r, rfl, rfl, rfl⟩ := own_i1_inv hp; exact XS.i2b h hx rfl hd rfl hr
  · obtain ⟨x, r, rfl, rfl, rfl⟩ := own_i1_inv hp; exact XS.i2l h hx rfl hd rfl hr
  · obtain ⟨x, r, rfl, rfl, rfl⟩ := own_l1_inv hp; exact XS.l2i h hx rfl hd rfl hr
  · obtain ⟨x, r, rfl, q, rfl, rfl⟩ := own_dup_inv hp; exact XS.dup h hx rfl hd rfl q hr
  · obtain ⟨x, y, r, rfl, q1, q2, rfl, rfl⟩ := own_dupX_inv hp; exact XS.dupX1 h hx rfl hd rfl q1 q2 hr
  · obtain ⟨x, rfl, q, rfl⟩ := own_pop_inv hp; exact XS.pop h hx rfl hd rfl q hr
  · cases hp

/-- the list lies in the code from pc on, up to pc' -/
def own_d (code : ByteArray) : Nat → List (Instr × Nat) → Nat → Bool
  | pc, [], pc' => pc == pc'
  | pc, (i, n) :: L, pc' => decide (decode code pc = .ok (i, n)) && own_d code (pc + n) L pc'
def own_x : List (Instr × Nat) → Array Slot → List Value → own_R
  | [], ls, st => some (ls, st)
  | (i, n) :: L, ls, st => match own_p i n ls st with
    | some (ls', st') => own_x L ls' st'
    | none => none
theorem own_x_ok {tb : Tables} [Ours tb] {e : Env} {below : List Frame} {T t : State} {m : MethodId} {c : Code} (h : At T m c below) (hx : tb.exec = Jvm.exec) : ∀ (L : List (Instr × Nat)) {pc pc' : Nat} {ls ls' : Array Slot} {st st' : List Value},
    own_d c.code pc L pc' = true → own_x L ls st = some (ls', st') → Steps tb e below (T.setTop (mkF m pc' ls' st')) t → Steps tb e below (T.setTop (mkF m pc ls st)) t
  | [], pc, pc', ls, ls', st, st', hd, hr, k => by
    have e1 : pc = pc' := by simpa [own_d] using hd
    subst e1
    cases hr
    exact k
  | (i, n) :: L, pc, pc', ls, ls', st, st', hd, hr, k => by
    simp only [own_d, Bool.and_eq_true, decide_eq_true_eq] at hd
    simp only [own_x] at hr
    cases hq : own_p i n ls st with
    | none => rw [hq] at hr; cases hr
    | some q =>
      obtain ⟨l1, s1⟩ := q
      rw [hq] at hr
      exact own_p_ok h hx hd.1 hq (own_x_ok h hx L hd.2 hr k)

/-! ### own layer 2: where a walk stands, and that it comes to its end -/
def own_G (p : Program) (e : Env) (below : List Frame) (A : State) (Q : Outcome → State → Prop) : Prop :=
  ∃ s₂ o, Steps p.tables e below A s₂ ∧ s₂.status = .running ∧ Ended s₂ below o ∧ Q o s₂
theorem own_st {p : Program} {e : Env} {below : List Frame} {A A' : State} {Q : Outcome → State → Prop} (st : ∀ t, Steps p.tables e below A' t → Steps p.tables e below A t) (g : own_G p e below A' Q) : own_G p e below A Q := by
  obtain ⟨s2, o, h1, h2⟩ := g
  exact ⟨s2, o, st _ h1, h2⟩
def own_E (s : State) (n0 : Nat) (P : Option Value → Heap → Prop) (C S : Nat) (o : Outcome) (U : State) : Prop := ∃ v L, o = .returned v ∧ (Fr n0 L ∧ P v U.heap) ∧ FrameEnd s o U L C S
def own_X (p : Program) (l : Launch) (e : Env) (R : Room) (s : State) (m : MethodId) (args : Array Value) (below : List Frame) (meth : Method) (c : Code) (Z : State) (bytes : ByteArray) (maxL : Nat) (ret : Option FieldType) (y : MethodName) (n0 : Nat) (h : Heap) (T : State) (k n : Nat) : Prop :=
  (p.tables.exec = Jvm.exec ∧ c.code = bytes ∧ c.maxLocals = maxL ∧ s.vm.findClass y.cls = some m.cls ∧ meth.name = y.name ∧ meth.sig.returnType = ret ∧ Z.Warmed39 s.vm ∧ meth.locks = false) ∧
    n0 ≤ h.size ∧ T.heap = h ∧ ∃ locs, Stand p l e R s m args below meth c T locs k n ∧ Fr n0 locs
/-- a body's contract: from these arguments and this heap it returns, and P says what, and what heap it leaves -/
def own_C (l : Launch) (Z : State) (y : MethodName) (bytes : ByteArray) (maxL : Nat) (ret : Option FieldType) (rm : Room) (as : Array Value) (h0 : Heap) (n0 : Nat) (P : Option Value → Heap → Prop) : Prop :=
  ∀ ws : List Jvm.Cond, MetFree l y (head1 (Jvm.Cond.code y bytes maxL ret :: ws) rm) (fun a U => a = as ∧ Z.Warmed39 U.vm ∧ U.heap = h0) (fun _ _ _ _ _ => True)
    (fun _ U o U' => ∃ v L, o = .returned v ∧ (Fr n0 L ∧ P v U'.heap) ∧ FrameEnd U o U' L rm.cells rm.slots)
theorem own_body {l : Launch} {Z : State} {y : MethodName} {bytes : ByteArray} {maxL : Nat} {ret : Option FieldType} {rm : Room} {as : Array Value} {h0 : Heap} {n0 : Nat} {P : Option Value → Heap → Prop} (hpl : plainFor y = true) (h0n : n0 ≤ h0.size) {ls : Array Slot} (hef : ∀ m, entryFrame m as maxL = mkF m 0 ls [])
    (k : ∀ p e s m below meth c T, own_X p l e rm s m as below meth c Z bytes maxL ret y n0 h0 T 0 0 → own_G p e below (T.setTop (mkF m 0 ls [])) (own_E s n0 P rm.cells rm.slots)) : own_C l Z y bytes maxL ret rm as h0 n0 P := by
  intro ws
  refine MetFree.of_bodySF hpl hisR ?_
  intro p e s m args below meth c s₁ Bd hml0 hP hK
  obtain ⟨rfl, hZ, hh⟩ := hP
  have e0 : s₁.heap = h0 := by rw [← hh, Bd.state]; rfl
  have X0 : Stand p l e rm s m args below meth c s₁ [] 0 0 := Stand.of_body Bd
  have g := k p e s m below meth c s₁ ⟨⟨Bd.exec, Bd.bytes, hml0, findClass_of_methodNamed Bd.named, (name_of_methodNamed Bd.named Bd.method).1, Bd.returns, hZ, Bd.notSynchronized⟩, h0n, e0, [], X0, Fr.nil n0⟩
  rw [← hef m] at g
  exact g

section Walk
variable {p : Program} {l : Launch} {e : Env} {R : Room} {s : State} {m : MethodId} {args : Array Value} {below : List Frame} {meth : Method} {c : Code} {Z : State} {bytes : ByteArray} {maxL : Nat} {ret : Option FieldType} {y : MethodName} {n0 : Nat} {h : Heap} {T : State} {k n : Nat} {Q : Outcome → State → Prop} {pc pc' : Nat} {ls ls' : Array Slot} {st st' : List Value} {a0 : Array Value}
theorem own_blk (X : own_X p l e R s m args below meth c Z bytes maxL ret y n0 h T k n) (L : List (Instr × Nat)) (hd : own_d bytes pc L pc' = true) (hr : own_x L ls st = some (ls', st')) (g : own_G p e below (T.setTop (mkF m pc' ls' st')) Q) : own_G p e below (T.setTop (mkF m pc ls st)) Q := by
  obtain ⟨⟨hx, hby, -⟩, -, -, locs, X, -⟩ := X
  subst hby
  exact own_st (fun t q => own_x_ok X.here hx L hd hr q) g
/-! branches -/
def own_tg (pc : Nat) (o : Int) (pc' : Nat) : Bool := decide (0 ≤ (pc : Int) + o) && decide (((pc : Int) + o).toNat = pc')
def own_cI : ClassFile.Cond → Int → Int → Prop
  | .eq, x, y => x = y
  | .ne, x, y => ¬ x = y
  | .lt, x, y => x < y
  | .ge, x, y => y ≤ x
  | .gt, x, y => y < x
  | .le, x, y => x ≤ y
theorem own_icmp_iff (cd : ClassFile.Cond) (x y : Int32) : if_icmp.holds cd x y = true ↔ own_cI cd x.toInt y.toInt := by
  cases cd <;> simp [if_icmp.holds, own_cI, Int32.lt_iff_toInt_lt, Int32.le_iff_toInt_le, Int32.toInt_inj]
theorem own_if_iff (cd : ClassFile.Cond) (x : Int32) : ifCond.holds cd x = true ↔ own_cI cd x.toInt 0 := by
  rw [if0]; exact own_icmp_iff cd x 0
theorem own_l_iff (cd : ClassFile.Cond) (x y : Int64) : ifCond.holds cd (if x > y then 1 else if x = y then 0 else -1) = true ↔ own_cI cd x.toInt y.toInt := by
  rw [own_if_iff]
  have e1 : (x > y) = (y.toInt < x.toInt) := by rw [gt_iff_lt, Int64.lt_iff_toInt_lt]
  have e2 : (x = y) = (x.toInt = y.toInt) := by rw [Int64.toInt_inj]
  simp only [e1, e2]
  by_cases q1 : y.toInt < x.toInt
  · simp only [q1, if_true]
    have e3 : (1 : Int32).toInt = 1 := rfl
    cases cd <;> simp only [own_cI, e3] <;> omega
  · by_cases q2 : x.toInt = y.toInt
    · simp only [q1, q2, if_true, if_false]
      have e3 : (0 : Int32).toInt = 0 := rfl
      cases cd <;> simp [own_cI]
    · simp only [q1, q2, if_false]
      have e3 : (-1 : Int32).toInt = -1 := rfl
      cases cd <;> simp only [own_cI, e3] <;> omega
theorem own_tg_s {o : Int} (hp : own_tg pc o pc' = true) : 0 ≤ (pc : Int) + o ∧ ((pc : Int) + o).toNat = pc' := by
  simpa [own_tg] using hp
theorem own_goto (X : own_X p l e R s m args below meth c Z bytes maxL ret y n0 h T k n) {o : Int} (hd : decode bytes pc = .ok (.goto o, 3)) (hp : own_tg pc o pc' = true) (g : own_G p e below (T.setTop (mkF m pc' ls st)) Q) : own_G p e below (T.setTop (mkF m pc ls st)) Q := by
  obtain ⟨⟨hx, hby, -⟩, -, -, locs, X, -⟩ := X
  subst hby
  exact own_st (fun t q => XS.goto X.here hx rfl rfl hd (own_tg_s hp).1 (own_tg_s hp).2 q) g
theorem own_icmp (X : own_X p l e R s m args below meth c Z bytes maxL ret y n0 h T k n) {cd : ClassFile.Cond} {o : Int} {v w : Int32} (hd : decode bytes pc = .ok (.if_icmp cd o, 3)) (hp : own_tg pc o pc' = true) (gT : own_cI cd v.toInt w.toInt → own_G p e below (T.setTop (mkF m pc' ls st)) Q) (gF : ¬ own_cI cd v.toInt w.toInt → own_G p e below (T.setTop (mkF m (pc + 3) ls st)) Q) :
    own_G p e below (T.setTop (mkF m pc ls (.int w :: .int v :: st))) Q := by
  obtain ⟨⟨hx, hby, -⟩, -, -, locs, X, -⟩ := X
  subst hby
  cases hc : if_icmp.holds cd v w with
  | true => exact own_st (fun t q => XS.icmpYes X.here hx rfl rfl hd rfl hc (own_tg_s hp).1 (own_tg_s hp).2 q) (gT ((own_icmp_iff cd v w).mp hc))
  | false => exact own_st (fun t q => XS.icmpNo X.here hx rfl hd rfl hc q) (gF fun q => by rw [(own_icmp_iff cd v w).mpr q] at hc; cases hc)
theorem own_if (X : own_X p l e R s m args below meth c Z bytes maxL ret y n0 h T k n) {cd : ClassFile.Cond} {o : Int} {v : Int32} (hd : decode bytes pc = .ok (.ifCond cd o, 3)) (hp : own_tg pc o pc' = true) (gT : own_cI cd v.toInt 0 → own_G p e below (T.setTop (mkF m pc' ls st)) Q) (gF : ¬ own_cI cd v.toInt 0 → own_G p e below (T.setTop (mkF m (pc + 3) ls st)) Q) :
    own_G p e below (T.setTop (mkF m pc ls (.int v :: st))) Q := by
  obtain ⟨⟨hx, hby, -⟩, -, -, locs, X, -⟩ := X
  subst hby
  cases hc : ifCond.holds cd v with
  | true => exact own_st (fun t q => XS.ifYes X.here hx rfl rfl hd rfl hc (own_tg_s hp).1 (own_tg_s hp).2 q) (gT ((own_if_iff cd v).mp hc))
  | false => exact own_st (fun t q => XS.ifNo X.here hx rfl hd rfl hc q) (gF fun q => by rw [(own_if_iff cd v).mpr q] at hc; cases hc)
theorem own_lif (X : own_X p l e R s m args below meth c Z bytes maxL ret y n0 h T k n) {cd : ClassFile.Cond} {o : Int} {v w : Int64} (hd1 : decode bytes pc = .ok (.lcmp, 1)) (hd : decode bytes (pc + 1) = .ok (.ifCond cd o, 3)) (hp : own_tg (pc + 1) o pc' = true) (gT : own_cI cd v.toInt w.toInt → own_G p e below (T.setTop (mkF m pc' ls st)) Q) (gF : ¬ own_cI cd v.toInt w.toInt → own_G p e below (T.setTop (mkF m (pc + 4) ls st)) Q) :
    own_G p e below (T.setTop (mkF m pc ls (.long w :: .long v :: st))) Q := by
  obtain ⟨⟨hx, hby, -⟩, -, -, locs, X, -⟩ := X
  subst hby
  refine own_st (fun t q => XS.lcmp X.here hx rfl hd1 rfl q) ?_
  show own_G p e below (T.setTop (mkF m (pc + 1) ls (.int (if v > w then 1 else if v = w then 0 else -1) :: st))) Q
  cases hc : ifCond.holds cd (if v > w then 1 else if v = w then 0 else -1) with
  | true => exact own_st (fun t q => XS.ifYes X.here hx rfl rfl hd rfl hc (own_tg_s hp).1 (own_tg_s hp).2 q) (gT ((own_l_iff cd v w).mp hc))
  | false => exact own_st (fun t q => XS.ifNo X.here hx rfl hd rfl hc q) (gF fun q => by rw [(own_l_iff cd v w).mpr q] at hc; cases hc)
/-! division -/
theorem own_idiv (X : own_X p l e R s m args below meth c Z bytes maxL ret y n0 h T k n) {v w : Int32} (hd : decode bytes pc = .ok (.idiv, 1)) (hw : w ≠ 0) (g : own_G p e below (T.setTop (mkF m (pc + 1) ls (.int (v / w) :: st))) Q) : own_G p e below (T.setTop (mkF m pc ls (.int w :: .int v :: st))) Q := by
  obtain ⟨⟨hx, hby, -⟩, -, -, locs, X, -⟩ := X
  subst hby
  exact own_st (fun t q => XS.idiv X.here hx rfl hd rfl hw q) g
theorem own_iremS (X : own_X p l e R s m args below meth c Z bytes maxL ret y n0 h T k n) {v w : Int32} (hd : decode bytes pc = .ok (.irem, 1)) (hw : w ≠ 0) (g : own_G p e below (T.setTop (mkF m (pc + 1) ls (.int (own_irem v w) :: st))) Q) : own_G p e below (T.setTop (mkF m pc ls (.int w :: .int v :: st))) Q := by
  obtain ⟨⟨hx, hby, -⟩, -, -, locs, X, -⟩ := X
  subst hby
  exact own_st (fun t q => XS.irem X.here hx rfl hd rfl hw q) g
theorem own_ldiv (X : own_X p l e R s m args below meth c Z bytes maxL ret y n0 h T k n) {v w : Int64} (hd : decode bytes pc = .ok (.ldiv, 1)) (hw : w ≠ 0) (g : own_G p e below (T.setTop (mkF m (pc + 1) ls (.long (v / w) :: st))) Q) : own_G p e below (T.setTop (mkF m pc ls (.long w :: .long v :: st))) Q := by
  obtain ⟨⟨hx, hby, -⟩, -, -, locs, X, -⟩ := X
  subst hby
  exact own_st (fun t q => XS.ldiv X.here hx rfl hd rfl hw q) g
theorem own_lremS (X : own_X p l e R s m args below meth c Z bytes maxL ret y n0 h T k n) {v w : Int64} (hd : decode bytes pc = .ok (.lrem, 1)) (hw : w ≠ 0) (g : own_G p e below (T.setTop (mkF m (pc + 1) ls (.long (own_lrem v w) :: st))) Q) : own_G p e below (T.setTop (mkF m pc ls (.long w :: .long v :: st))) Q := by
  obtain ⟨⟨hx, hby, -⟩, -, -, locs, X, -⟩ := X
  subst hby
  exact own_st (fun t q => XS.lrem X.here hx rfl hd rfl hw q) g
/-! constants of the pool -/
theorem own_ldc (X : own_X p l e R s m args below meth c Z bytes maxL ret y n0 h T k n) {i : Nat} {v : Int32} (w : (Jvm.Cond.constant y.cls i v).before a0 Z = true) (hd : decode bytes pc = .ok (.ldc i, 2)) (g : own_G p e below (T.setTop (mkF m (pc + 2) ls (.int v :: st))) Q) : own_G p e below (T.setTop (mkF m pc ls st)) Q := by
  obtain ⟨⟨hx, hby, hml, hown, hnm, hret, hZ, hlk⟩, -, -, locs, X, -⟩ := X
  subst hby
  exact own_st (fun t q => X.ldcInt hx hown (mvT hZ w) (g := mkF m pc ls st) rfl hd t q) g
theorem own_ldc2 (X : own_X p l e R s m args below meth c Z bytes maxL ret y n0 h T k n) {i : Nat} {v : Int64} (w : (Jvm.Cond.constantLong y.cls i v).before a0 Z = true) (hd : decode bytes pc = .ok (.ldc2_w i, 3)) (g : own_G p e below (T.setTop (mkF m (pc + 3) ls (.long v :: st))) Q) : own_G p e below (T.setTop (mkF m pc ls st)) Q := by
  obtain ⟨⟨hx, hby, hml, hown, hnm, hret, hZ, hlk⟩, -, -, locs, X, -⟩ := X
  subst hby
  exact own_st (fun t q => X.ldc2Long hx hown (mvT hZ w) (g := mkF m pc ls st) rfl hd t q) g
/-! returns -/
variable {P : Option Value → Heap → Prop} {C S : Nat}
theorem own_retI (X : own_X p l e R s m args below meth c Z bytes maxL (some .int) y n0 h T k n) (hd : decode bytes pc = .ok (.ireturn, 1)) {v : Int32} (hk : k ≤ C) (hn : n ≤ S) (hP : P (some (.int v)) h) : own_G p e below (T.setTop (mkF m pc ls (.int v :: st))) (own_E s n0 P C S) := by
  obtain ⟨⟨hx, hby, hml, hown, hnm, hret, hZ, hlk⟩, -, eT, locs, X, N⟩ := X
  subst hby
  obtain ⟨fs, hr, hrun, hended, hW, hsame⟩ := X.leave (v := some (.int v)) (fun q => by rw [hret] at q; cases q)
  refine ⟨_, _, ?_, hrun, hended, _, _, rfl, ⟨N, by show P _ T.heap; rw [eT]; exact hP⟩, ⟨_, rfl⟩, hW, hsame.mono hk hn⟩
  have hm' : T.vm.method? m = some meth := X.method'
  have hnn : narrow .int (.int v) = .int v := rfl
  show Steps p.tables e below (T.setTop { method := m, pc := pc, locals := ls, stack := _ :: st, locked := none }) _
  jvm_step X.here [X.here.top, hx, hd, hm', hret, hnn]
  first | (intro acts; rw [hr _ acts rfl rfl rfl]) | rw [hr _ _ rfl rfl rfl]
  exact Steps.refl _
theorem own_retN {t : FieldType} (X : own_X p l e R s m args below meth c Z bytes maxL (some t) y n0 h T k n) (ht : t = .boolean ∨ t = .byte ∨ t = .char ∨ t = .short) (hd : decode bytes pc = .ok (.ireturn, 1)) {v v' : Int32} (hv : nar t v = v') (hk : k ≤ C) (hn : n ≤ S) (hP : P (some (.int v')) h) : own_G p e below (T.setTop (mkF m pc ls (.int v :: st))) (own_E s n0 P C S) := by
  obtain ⟨⟨hx, hby, hml, hown, hnm, hret, hZ, hlk⟩, -, eT, locs, X, N⟩ := X
  subst hby hv
  obtain ⟨fs, hr, hrun, hended, hW, hsame⟩ := X.leave (v := some (.int (nar t v))) (fun q => by rw [hret] at q; cases q)
  exact ⟨_, _, retN X hx hret ht hd hr, hrun, hended, _, _, rfl, ⟨N, by show P _ T.heap; rw [eT]; exact hP⟩, ⟨_, rfl⟩, hW, hsame.mono hk hn⟩
theorem own_retL (X : own_X p l e R s m args below meth c Z bytes maxL (some .long) y n0 h T k n) (hd : decode bytes pc = .ok (.lreturn, 1)) {v : Int64} (hk : k ≤ C) (hn : n ≤ S) (hP : P (some (.long v)) h) : own_G p e below (T.setTop (mkF m pc ls [.long v])) (own_E s n0 P C S) := by
  obtain ⟨⟨hx, hby, hml, hown, hnm, hret, hZ, hlk⟩, -, eT, locs, X, N⟩ := X
  subst hby
  obtain ⟨fs, hr, hrun, hended, hW, hsame⟩ := X.leave (v := some (.long v)) (fun q => by rw [hret] at q; cases q)
  exact ⟨_, _, X.lreturnOut hx hret hd hr, hrun, hended, _, _, rfl, ⟨N, by show P _ T.heap; rw [eT]; exact hP⟩, ⟨_, rfl⟩, hW, hsame.mono hk hn⟩
theorem own_retA {t : FieldType} (X : own_X p l e R s m args below meth c Z bytes maxL (some t) y n0 h T k n) (ht : t.isReference = true) (hd : decode bytes pc = .ok (.areturn, 1)) {v : Addr} (hk : k ≤ C) (hn : n ≤ S) (hP : P (some (.ref v)) h) : own_G p e below (T.setTop (mkF m pc ls [.ref v])) (own_E s n0 P C S) := by
  obtain ⟨⟨hx, hby, hml, hown, hnm, hret, hZ, hlk⟩, -, eT, locs, X, N⟩ := X
  subst hby
  obtain ⟨fs, hr, hrun, hended, hW, hsame⟩ := X.leave (v := some (.ref v)) (fun q => by rw [hret] at q; cases q)
  exact ⟨_, _, X.areturnOut hx rfl hret ht hd hr, hrun, hended, _, _, rfl, ⟨N, by show P _ T.heap; rw [eT]; exact hP⟩, ⟨_, rfl⟩, hW, hsame.mono hk hn⟩
theorem own_retV (X : own_X p l e R s m args below meth c Z bytes maxL none y n0 h T k n) (hd : decode bytes pc = .ok (.return_, 1)) (hk : k ≤ C) (hn : n ≤ S) (hP : P none h) : own_G p e below (T.setTop (mkF m pc ls [])) (own_E s n0 P C S) := by
  obtain ⟨⟨hx, hby, hml, hown, hnm, hret, hZ, hlk⟩, -, eT, locs, X, N⟩ := X
  subst hby
  obtain ⟨fs, hr, hrun, hended, hW, hsame⟩ := X.leave (v := none) (fun _ => rfl)
  exact ⟨_, _, X.returnOut hx hret hd hr, hrun, hended, _, _, rfl, ⟨N, by show P _ T.heap; rw [eT]; exact hP⟩, ⟨_, rfl⟩, hW, hsame.mono hk hn⟩
/-! calls -/
theorem own_callS (X : own_X p l e R s m args below meth c Z bytes maxL ret y n0 h T k n) {i : Nat} {z : MethodName} {zb : ByteArray} {zl : Nat} {zr : Option FieldType} {rm : Room} {as : Array Value} {P : Option Value → Heap → Prop}
    (w1 : (Jvm.Cond.methodLink y.cls i z).before a0 Z = true) (w2 : (Jvm.Cond.static z).before a0 Z = true) (w3 : (Jvm.Cond.initialized z.cls).before a0 Z = true) (w4 : (Jvm.Cond.code z zb zl zr).before a0 Z = true) (hy : z.cls ≠ "java/lang/invoke/MethodHandle" ∧ z.cls ≠ "java/lang/invoke/VarHandle")
    (K : own_C l Z z zb zl zr rm as h n0 P) (hd : decode bytes pc = .ok (.invokestatic i, 3)) (argsL rest : List Value) (hst : st = argsL.reverse ++ rest) (has : argsL.toArray = as) {ps : List FieldType} {pr : Option FieldType} (hsg : parseMethodDescriptor z.desc = some ⟨ps, pr⟩) (hlen : argsL.length = ps.length) (hsz : ls.size = maxL)
    (hf : rm.frames + 1 ≤ R.frames) (hl : (rest.map fun v => v.category).sum + (zl + 11) + rm.locals ≤ R.locals) (hc : k + rm.cells ≤ R.cells) (hs : n + rm.slots ≤ R.slots) (hn : ∀ v h', P v h' → n0 ≤ h'.size)
    (g : ∀ v h' T', own_X p l e R s m args below meth c Z bytes maxL ret y n0 h' T' (k + rm.cells) (n + rm.slots) → P v h' → own_G p e below (T'.setTop (mkF m (pc + 3) ls (v.toList ++ rest))) Q) : own_G p e below (T.setTop (mkF m pc ls st)) Q := by
  obtain ⟨M, hn0, eT, locs, X, N⟩ := X
  have M' := M
  obtain ⟨hx, hby, hml, hown, hnm, hret, hZ, hlk⟩ := M'
  subst hby hst has
  obtain ⟨v, vm₁, B, -, X', ⟨L, hq, l1, l2, l3⟩, stp⟩ := Jvm.LawKit.callS X hx (y := z) hown (mvT hZ w1) (mvT hZ w2) (mvT hZ w3) (mvT hZ w4) hy (backOf (W := (rest.map fun v => v.category).sum) (Q := fun v h' L => Fr n0 L ∧ P v h') (K []) hZ w4 w3 hf hl) (g := mkF m pc ls (argsL.reverse ++ rest)) rfl (hsz.trans hml.symm) (argsL := argsL) (rest := rest)
    (lenOf hsg hlen) rfl (Nat.le_of_eq (Nat.zero_add _)) hd (fun _ _ => ⟨rfl, eT, hc, hs⟩)
  obtain ⟨U, Lc, k', n'⟩ := B
  dsimp only [Pt.U, Pt.locs, Pt.cells, Pt.slots] at X' hq l1 l2 l3 stp
  subst l1 l2 l3
  exact own_st stp (g v U.heap U ⟨M, hn v _ hq.2, rfl, _, X', Fr.app N hq.1⟩ hq.2)
theorem own_callP (X : own_X p l e R s m args below meth c Z bytes maxL ret y n0 h T k n) {i : Nat} {z : MethodName} {zb : ByteArray} {zl : Nat} {zr : Option FieldType} {rm : Room} {as : Array Value} {v : Option Value}
    (w1 : (Jvm.Cond.methodLink y.cls i z).before a0 Z = true) (w2 : (Jvm.Cond.static z).before a0 Z = true) (w3 : (Jvm.Cond.initialized z.cls).before a0 Z = true) (w4 : (Jvm.Cond.code z zb zl zr).before a0 Z = true) (hy : z.cls ≠ "java/lang/invoke/MethodHandle" ∧ z.cls ≠ "java/lang/invoke/VarHandle")
    (K : own_C l Z z zb zl zr rm as h n0 (fun v' h' => v' = v ∧ h' = h)) (hd : decode bytes pc = .ok (.invokestatic i, 3)) (argsL rest : List Value) (hst : st = argsL.reverse ++ rest) (has : argsL.toArray = as) {ps : List FieldType} {pr : Option FieldType} (hsg : parseMethodDescriptor z.desc = some ⟨ps, pr⟩) (hlen : argsL.length = ps.length) (hsz : ls.size = maxL)
    (hf : rm.frames + 1 ≤ R.frames) (hl : (rest.map fun v => v.category).sum + (zl + 11) + rm.locals ≤ R.locals) (hc : k + rm.cells ≤ R.cells) (hs : n + rm.slots ≤ R.slots)
    (g : ∀ T', own_X p l e R s m args below meth c Z bytes maxL ret y n0 h T' (k + rm.cells) (n + rm.slots) → own_G p e below (T'.setTop (mkF m (pc + 3) ls (v.toList ++ rest))) Q) : own_G p e below (T.setTop (mkF m pc ls st)) Q :=
  own_callS X w1 w2 w3 w4 hy K hd argsL rest hst has hsg hlen hsz hf hl hc hs (fun v h' q => by rw [q.2]; exact X.2.1) (fun v' h' T' X' q => by obtain ⟨q1, q2⟩ := q; subst q1; rw [q2] at X'; exact g T' X')
theorem own_callN (X : own_X p l e R s m args below meth c Z bytes maxL ret y n0 h T k n) {i : Nat} {z : MethodName} {zb : ByteArray} {zl : Nat} {rm : Room} {as : Array Value} {P : Option Value → Heap → Prop} (hz : z.name = "<init>")
    (w1 : (Jvm.Cond.methodLink y.cls i z).before a0 Z = true) (w2 : (Jvm.Cond.instanceMethod z).before a0 Z = true) (w3 : (Jvm.Cond.initialized z.cls).before a0 Z = true) (w4 : (Jvm.Cond.code z zb zl none).before a0 Z = true) (hy : z.cls ≠ "java/lang/invoke/MethodHandle" ∧ z.cls ≠ "java/lang/invoke/VarHandle")
    (K : own_C l Z z zb zl none rm as h n0 P) (hd : decode bytes pc = .ok (.invokespecial i, 3)) {a : Addr} (argsL rest : List Value) (hst : st = argsL.reverse ++ .ref a :: rest) (has : (.ref a :: argsL).toArray = as) {ps : List FieldType} {pr : Option FieldType} (hsg : parseMethodDescriptor z.desc = some ⟨ps, pr⟩) (hlen : argsL.length = ps.length) (hsz : ls.size = maxL)
    (hf : rm.frames + 1 ≤ R.frames) (hl : (rest.map fun v => v.category).sum + (zl + 11) + rm.locals ≤ R.locals) (hc : k + rm.cells ≤ R.cells) (hs : n + rm.slots ≤ R.slots) (hn : ∀ v h', P v h' → n0 ≤ h'.size)
    (g : ∀ v h' T', own_X p l e R s m args below meth c Z bytes maxL ret y n0 h' T' (k + rm.cells) (n + rm.slots) → P v h' → own_G p e below (T'.setTop (mkF m (pc + 3) ls (v.toList ++ rest))) Q) : own_G p e below (T.setTop (mkF m pc ls st)) Q := by
  obtain ⟨M, hn0, eT, locs, X, N⟩ := X
  have M' := M
  obtain ⟨hx, hby, hml, hown, hnm, hret, hZ, hlk⟩ := M'
  subst hby hst has
  obtain ⟨v, vm₁, B, -, X', ⟨L, hq, l1, l2, l3⟩, stp⟩ := X.specialBack hx (y := z) hz hown (mvT hZ w1) (mvT hZ w2) (mvT hZ w4) hy (backOf (W := (rest.map fun v => v.category).sum) (Q := fun v h' L => Fr n0 L ∧ P v h') (K []) hZ w4 w3 hf hl) (g := mkF m pc ls (argsL.reverse ++ .ref a :: rest)) rfl (hsz.trans hml.symm) (Steps.refl _) (a := a) (argsL := argsL) (rest := rest)
    (lenOf hsg hlen) rfl (Nat.le_of_eq (Nat.zero_add _)) hd (fun _ _ => ⟨rfl, eT, hc, hs⟩)
  obtain ⟨U, Lc, k', n'⟩ := B
  dsimp only [Pt.U, Pt.locs, Pt.cells, Pt.slots] at X' hq l1 l2 l3 stp
  subst l1 l2 l3
  exact own_st (fun t q => stp.trans q) (g v U.heap U ⟨M, hn v _ hq.2, rfl, _, X', Fr.app N hq.1⟩ hq.2)
theorem own_callV (X : own_X p l e R s m args below meth c Z bytes maxL ret y n0 h T k n) {i : Nat} {z : MethodName} {zb : ByteArray} {zl : Nat} {zr : Option FieldType} {rm : Room} {as : Array Value} {P : Option Value → Heap → Prop}
    (w1 : (Jvm.Cond.methodLink y.cls i z).before a0 Z = true) (w2 : (Jvm.Cond.declares z).before a0 Z = true) (w5 : (Jvm.Cond.selects z.cls z z).before a0 Z = true) (w6 : (Jvm.Cond.instanceMethod z).before a0 Z = true) (w3 : (Jvm.Cond.initialized z.cls).before a0 Z = true) (w4 : (Jvm.Cond.code z zb zl zr).before a0 Z = true) (hy : z.cls ≠ "java/lang/invoke/MethodHandle" ∧ z.cls ≠ "java/lang/invoke/VarHandle")
    {a : Addr} (E : Exa Z h a z.cls) (K : own_C l Z z zb zl zr rm as h n0 P) (hd : decode bytes pc = .ok (.invokevirtual i, 3)) (argsL rest : List Value) (hst : st = argsL.reverse ++ .ref a :: rest) (has : (.ref a :: argsL).toArray = as) {ps : List FieldType} {pr : Option FieldType} (hsg : parseMethodDescriptor z.desc = some ⟨ps, pr⟩) (hlen : argsL.length = ps.length) (hsz : ls.size = maxL)
    (hf : rm.frames + 1 ≤ R.frames) (hl : (rest.map fun v => v.category).sum + (zl + 11) + rm.locals ≤ R.locals) (hc : k + rm.cells ≤ R.cells) (hs : n + rm.slots ≤ R.slots) (hn : ∀ v h', P v h' → n0 ≤ h'.size)
    (g : ∀ v h' T', own_X p l e R s m args below meth c Z bytes maxL ret y n0 h' T' (k + rm.cells) (n + rm.slots) → P v h' → own_G p e below (T'.setTop (mkF m (pc + 3) ls (v.toList ++ rest))) Q) : own_G p e below (T.setTop (mkF m pc ls st)) Q := by
  obtain ⟨M, hn0, eT, locs, X, N⟩ := X
  have M' := M
  obtain ⟨hx, hby, hml, hown, hnm, hret, hZ, hlk⟩ := M'
  subst hby hst has
  obtain ⟨cq, kq, qa, qb, qc⟩ := isOf hZ eT E
  obtain ⟨v, vm₁, B, -, X', ⟨L, hq, l1, l2, l3⟩, stp⟩ := X.virtualBack hx (y := z) (z := z) hown (mvT hZ w1) (mvT hZ w2) (notFace_of_selects (args := #[]) (mvT hZ w5)) (mvT hZ w5) (mvT hZ w6) hy (backOf (W := (rest.map fun v => v.category).sum) (Q := fun v h' L => Fr n0 L ∧ P v h') (K []) hZ w4 w3 hf hl) qa qc (g := mkF m pc ls (argsL.reverse ++ .ref a :: rest)) rfl (hsz.trans hml.symm) (Steps.refl _) (argsL := argsL) (rest := rest)
    (lenOf hsg hlen) rfl (Nat.le_of_eq (Nat.zero_add _)) hd (fun _ _ => ⟨rfl, eT, hc, hs⟩)
  obtain ⟨U, Lc, k', n'⟩ := B
  dsimp only [Pt.U, Pt.locs, Pt.cells, Pt.slots] at X' hq l1 l2 l3 stp
  subst l1 l2 l3
  exact own_st (fun t q => stp.trans q) (g v U.heap U ⟨M, hn v _ hq.2, rfl, _, X', Fr.app N hq.1⟩ hq.2)
/-! fields -/
theorem own_getF (X : own_X p l e R s m args below meth c Z bytes maxL ret y n0 h T k n) {i : Nat} {O f d : String} (w : (Jvm.Cond.fieldLink y.cls i O f d).before a0 Z = true) {a : Addr} {v : Value} (F : Fld Z h a O f d v) (hd : decode bytes pc = .ok (.getfield i, 3))
    (g : ∀ T', own_X p l e R s m args below meth c Z bytes maxL ret y n0 h T' k n → own_G p e below (T'.setTop (mkF m (pc + 3) ls (v :: st))) Q) : own_G p e below (T.setTop (mkF m pc ls (.ref a :: st))) Q := by
  obtain ⟨M, hn0, eT, locs, X, N⟩ := X
  have M' := M
  obtain ⟨hx, hby, hml, hown, hnm, hret, hZ, hlk⟩ := M'
  subst hby
  obtain ⟨T', X', e', stp⟩ := getF X hx hZ hown (host := "") (Or.inl w) Via.refl eT F (g := mkF m pc ls (.ref a :: st)) rfl rfl hd
  exact own_st stp (g T' ⟨M, hn0, e', _, X', N⟩)
theorem own_putF (X : own_X p l e R s m args below meth c Z bytes maxL ret y n0 h T k n) {i kk : Nat} {O f d K : String} {ty : FieldType} (w : (Jvm.Cond.fieldLink y.cls i O f d).before a0 Z = true) {a : Addr} {v old : Value} (F : Fld Z h a O f d old) (E : Exa Z h a K) (L : (Jvm.Cond.lays K O f d).before a0 Z = true ∨ ((Jvm.Cond.laysFinal K O f d).before a0 Z = true ∧ y.cls = O ∧ y.name = "<init>")) (wi : (Jvm.Cond.instantiable K kk).before a0 Z = true)
    (hty : parseFieldDescriptor d = some ty) (hn : narrow ty v = v) (hf : fits ty v = true) (ha : n0 ≤ a) (hd : decode bytes pc = .ok (.putfield i, 3))
    (g : ∀ h' T', own_X p l e R s m args below meth c Z bytes maxL ret y n0 h' T' k n → Wr h h' a (Jvm.RoadKit.slotOf Z O f d) v → own_G p e below (T'.setTop (mkF m (pc + 3) ls st)) Q) : own_G p e below (T.setTop (mkF m pc ls (v :: .ref a :: st))) Q := by
  obtain ⟨M, hn0, eT, locs, X, N⟩ := X
  have M' := M
  obtain ⟨hx, hby, hml, hown, hnm, hret, hZ, hlk⟩ := M'
  subst hby
  obtain ⟨T', h', X', e', W', stp⟩ := putF X hx hZ hown (host := "") (Or.inl w) Via.refl eT F E (L.imp id fun q => ⟨q.1, q.2.1, hnm.trans q.2.2⟩) wi hty hn hf (g := mkF m pc ls (v :: .ref a :: st)) rfl rfl hd
  exact own_st stp (g h' T' ⟨M, by rw [W'.size]; exact hn0, e', _, X', Fr.snoc X' N ha⟩ W')
/-! new -/
theorem own_newO (X : own_X p l e R s m args below meth c Z bytes maxL ret y n0 h T k n) {i nn : Nat} {K : String} (w : (Jvm.Cond.classLink y.cls i K).before a0 Z = true) (wi : (Jvm.Cond.instantiable K nn).before a0 Z = true) (wz : (Jvm.Cond.initialized K).before a0 Z = true) (hd : decode bytes pc = .ok (.new i, 3)) (hc : k + 1 ≤ R.cells) (hs : n + nn ≤ R.slots)
    (g : ∀ h' T', own_X p l e R s m args below meth c Z bytes maxL ret y n0 h' T' (k + 1) (n + nn) → Ext h h' → Exa Z h' h.size K → (∀ {O nm d : String} {ty : FieldType}, Laid Z a0 K O nm d → parseFieldDescriptor d = some ty → Fld Z h' h.size O nm d (defaultValue ty)) → own_G p e below (T'.setTop (mkF m (pc + 3) ls (.ref h.size :: st))) Q) : own_G p e below (T.setTop (mkF m pc ls st)) Q := by
  obtain ⟨M, hn0, eT, locs, X, N⟩ := X
  have M' := M
  obtain ⟨hx, hby, hml, hown, hnm, hret, hZ, hlk⟩ := M'
  subst hby
  obtain ⟨T', h', X', e', E', A', D', -, stp⟩ := newO X hx hZ hown w wi wz eT (g := mkF m pc ls st) rfl hd hc hs
  exact own_st stp (g h' T' ⟨M, Nat.le_trans hn0 E'.1, e', _, X', N⟩ E' A' D')
end Walk
/-! ### own layer 3: arrays: the array at a has n places, place j holds f j -/
def own_A (Z : State) (h : Heap) (a : Addr) (ty : FieldType) (n : Nat) (f : Int → Value) : Prop := n < 2147483648 ∧ ∃ c : Cell, Arr Z h a c ty ∧ c.slots.size = n ∧ ∀ j : Nat, j < n → c.slots[j]? = some (f (j : Int))
def own_u {α : Type} (f : Int → α) (i : Int) (x : α) : Int → α := fun j => if j = i then x else f j
section Arrs
variable {Z : State} {h h' : Heap} {a b : Addr} {ty : FieldType} {n : Nat} {f : Int → Value}
theorem own_A_lt (A : own_A Z h a ty n f) : a < h.size := by obtain ⟨-, c, A, -⟩ := A; exact A.lt
theorem own_A_ext (A : own_A Z h a ty n f) (E : Ext h h') : own_A Z h' a ty n f := by obtain ⟨q, c, A, r⟩ := A; exact ⟨q, c, A.ext E, r⟩
theorem own_A_other (A : own_A Z h b ty n f) {sl : Nat} {v : Value} (W : Wr h h' a sl v) (q : b ≠ a) : own_A Z h' b ty n f := by obtain ⟨q1, c, A, r⟩ := A; exact ⟨q1, c, A.other W q, r⟩
theorem own_A_keep (A : own_A Z h a ty n f) {ws : List Addr} (K : Keep h h' ws) (q : a ∉ ws) : own_A Z h' a ty n f := by obtain ⟨q1, c, A, r⟩ := A; exact ⟨q1, c, ⟨K.2.1 a c A.1 q, A.2⟩, r⟩
theorem own_A_new {k : ClassId} {z : Int32} (A : Arr Z h a (newA k ty z) ty) (q : 0 ≤ z.toInt) : own_A Z h a ty z.toInt.toNat (fun _ => defaultValue ty) := by
  have := Int32.toInt_lt z
  refine ⟨by omega, _, A, by rw [sz_new]; rfl, fun j hj => ?_⟩
  have hj' : j < z.toNatClampNeg := hj
  simp [newA, hj']
theorem own_A_set {sl : Nat} {v : Value} (A : own_A Z h a ty n f) (W : Wr h h' a sl v) (i : Int) (hi : i = (sl : Int)) : own_A Z h' a ty n (own_u f i v) := by
  obtain ⟨q, c, A, S, H⟩ := A
  have W0 := W
  obtain ⟨c2, g1, -, g3, -⟩ := W0
  cases g1.symm.trans A.1
  refine ⟨q, _, A.same W, by rw [sz_set]; exact S, fun j hj => ?_⟩
  subst hi
  by_cases u : j = sl
  · subst u; simp [Cell.setSlot, own_u, g3]
  · have e1 : ¬ ((j : Int) = (sl : Int)) := by omega
    simp only [own_u, e1, if_false, Cell.setSlot]
    rw [Array.getElem?_setIfInBounds_ne (fun q => u q.symm)]
    exact H j hj
theorem own_A_eq {g : Int → Value} (A : own_A Z h a ty n f) (q : ∀ j : Int, 0 ≤ j → j < n → g j = f j) : own_A Z h a ty n g := by
  obtain ⟨q1, c, A, S, H⟩ := A
  exact ⟨q1, c, A, S, fun j hj => by rw [H j hj, q j (by omega) (by omega)]⟩
theorem own_tnc (j : Int32) : j.toNatClampNeg = j.toInt.toNat := rfl
theorem own_z32 : (0 : Int32).toInt = 0 := rfl
theorem own_idx {j : Int32} (h0 : 0 ≤ j.toInt) : ¬ j < 0 := by rw [Int32.lt_iff_toInt_lt, own_z32]; omega
theorem own_inb {j : Int32} {cl : Cell} (S : cl.slots.size = n) (h0 : 0 ≤ j.toInt) (h1 : j.toInt < n) : ¬ (j < 0 ∨ cl.slots.size ≤ j.toNatClampNeg) := by
  rw [Int32.lt_iff_toInt_lt, S, own_z32, own_tnc]; omega
theorem own_nat {j : Int32} (h0 : 0 ≤ j.toInt) : j.toInt = (j.toNatClampNeg : Int) := by rw [own_tnc]; omega
end Arrs
/-- the same, of ints -/
def own_I (Z : State) (h : Heap) (a : Addr) (ty : FieldType) (n : Nat) (g : Int → Int32) : Prop := own_A Z h a ty n (fun j => .int (g j))
theorem own_I_ext {Z : State} {h h' : Heap} {a : Addr} {ty : FieldType} {n : Nat} {g : Int → Int32} (A : own_I Z h a ty n g) (E : Ext h h') : own_I Z h' a ty n g := own_A_ext A E
theorem own_I_other {Z : State} {h h' : Heap} {a b : Addr} {ty : FieldType} {n : Nat} {g : Int → Int32} (A : own_I Z h b ty n g) {sl : Nat} {v : Value} (W : Wr h h' a sl v) (q : b ≠ a) : own_I Z h' b ty n g := own_A_other A W q
theorem own_I_keep {Z : State} {h h' : Heap} {a : Addr} {ty : FieldType} {n : Nat} {g : Int → Int32} (A : own_I Z h a ty n g) {ws : List Addr} (K : Keep h h' ws) (q : a ∉ ws) : own_I Z h' a ty n g := own_A_keep A K q
theorem own_I_eq {Z : State} {h : Heap} {a : Addr} {ty : FieldType} {n : Nat} {f g : Int → Int32} (A : own_I Z h a ty n f) (q : ∀ j : Int, 0 ≤ j → j < n → g j = f j) : own_I Z h a ty n g := own_A_eq A (fun j h0 h1 => by rw [q j h0 h1])
theorem own_I_set {Z : State} {h h' : Heap} {a : Addr} {ty : FieldType} {n : Nat} {g : Int → Int32} {sl : Nat} {x : Int32} (A : own_I Z h a ty n g) (W : Wr h h' a sl (.int x)) (i : Int) (hi : i = (sl : Int)) : own_I Z h' a ty n (own_u g i x) :=
  own_A_eq (own_A_set A W i hi) (fun j _ _ => by simp only [own_u]; split <;> rfl)
theorem own_u_ne {α : Type} {g : Int → α} {i j : Int} {x : α} (h : j ≠ i) : own_u g i x j = g j := if_neg h
theorem own_u_eq {α : Type} {g : Int → α} {i j : Int} {x : α} (h : j = i) : own_u g i x j = x := if_pos h
section Arrs2
variable {p : Program} {l : Launch} {e : Env} {R : Room} {s : State} {m : MethodId} {args : Array Value} {below : List Frame} {meth : Method} {c : Code} {Z : State} {bytes : ByteArray} {maxL : Nat} {ret : Option FieldType} {y : MethodName} {n0 : Nat} {h : Heap} {T : State} {k n : Nat} {Q : Outcome → State → Prop} {pc pc' : Nat} {ls ls' : Array Slot} {st st' : List Value} {a0 : Array Value} {a : Addr} {nn : Nat} {f : Int → Value} {gg : Int → Int32}
theorem own_len (X : own_X p l e R s m args below meth c Z bytes maxL ret y n0 h T k n) {ty : FieldType} (A : own_A Z h a ty nn f) (hd : decode bytes pc = .ok (.arraylength, 1)) (g : own_G p e below (T.setTop (mkF m (pc + 1) ls (.int (Int32.ofNat nn) :: st))) Q) : own_G p e below (T.setTop (mkF m pc ls (.ref a :: st))) Q := by
  obtain ⟨⟨hx, hby, hml, hown, hnm, hret, hZ, hlk⟩, hn0, eT, locs, X, N⟩ := X
  obtain ⟨q, cl, A, S, H⟩ := A
  subst hby
  refine own_st (fun t q => X.arraylength hx (by rw [eT]; exact A.1) (State.isArrayOf_alike hZ.alike A.2.1) (g := mkF m pc ls (.ref a :: st)) rfl rfl hd t q) ?_
  show own_G p e below (T.setTop (mkF m (pc + 1) ls (.int cl.slots.size.toInt32 :: st))) Q
  rw [S]
  exact g
theorem own_iald (X : own_X p l e R s m args below meth c Z bytes maxL ret y n0 h T k n) (A : own_I Z h a .int nn gg) (hd : decode bytes pc = .ok (.iaload, 1)) {j : Int32} (h0 : 0 ≤ j.toInt) (h1 : j.toInt < nn) (g : own_G p e below (T.setTop (mkF m (pc + 1) ls (.int (gg j.toInt) :: st))) Q) : own_G p e below (T.setTop (mkF m pc ls (.int j :: .ref a :: st))) Q := by
  obtain ⟨⟨hx, hby, hml, hown, hnm, hret, hZ, hlk⟩, hn0, eT, locs, X, N⟩ := X
  obtain ⟨q, cl, A, S, H⟩ := A
  subst hby
  have e1 := own_nat h0
  refine own_st (fun t q => X.iaload hx (by rw [eT]; exact A.1) (State.isArrayOf_alike hZ.alike A.2.1) A.2.2 (own_inb S h0 h1) (H _ (by omega)) (g := mkF m pc ls (.int j :: .ref a :: st)) rfl rfl hd t q) ?_
  show own_G p e below (T.setTop (mkF m (pc + 1) ls (.int (gg (j.toNatClampNeg : Int)) :: st))) Q
  rw [← e1]
  exact g
theorem own_bald (X : own_X p l e R s m args below meth c Z bytes maxL ret y n0 h T k n) (A : own_I Z h a .byte nn gg) (hd : decode bytes pc = .ok (.baload, 1)) {j : Int32} (h0 : 0 ≤ j.toInt) (h1 : j.toInt < nn) (g : own_G p e below (T.setTop (mkF m (pc + 1) ls (.int (gg j.toInt) :: st))) Q) : own_G p e below (T.setTop (mkF m pc ls (.int j :: .ref a :: st))) Q := by
  obtain ⟨⟨hx, hby, hml, hown, hnm, hret, hZ, hlk⟩, hn0, eT, locs, X, N⟩ := X
  obtain ⟨q, cl, A, S, H⟩ := A
  subst hby
  have e1 := own_nat h0
  refine own_st (fun t q => X.baloadBytes hx (by rw [eT]; exact A.1) (State.isArrayOf_alike hZ.alike A.2.1) A.2.2 (own_inb S h0 h1) (H _ (by omega)) (g := mkF m pc ls (.int j :: .ref a :: st)) rfl rfl hd t q) ?_
  show own_G p e below (T.setTop (mkF m (pc + 1) ls (.int (gg (j.toNatClampNeg : Int)) :: st))) Q
  rw [← e1]
  exact g
theorem own_zald (X : own_X p l e R s m args below meth c Z bytes maxL ret y n0 h T k n) (A : own_I Z h a .boolean nn gg) (hd : decode bytes pc = .ok (.baload, 1)) {j : Int32} (h0 : 0 ≤ j.toInt) (h1 : j.toInt < nn) (g : own_G p e below (T.setTop (mkF m (pc + 1) ls (.int (gg j.toInt) :: st))) Q) : own_G p e below (T.setTop (mkF m pc ls (.int j :: .ref a :: st))) Q := by
  obtain ⟨⟨hx, hby, hml, hown, hnm, hret, hZ, hlk⟩, hn0, eT, locs, X, N⟩ := X
  obtain ⟨q, cl, A, S, H⟩ := A
  subst hby
  have e1 := own_nat h0
  refine own_st (fun t q => X.baloadBooleans hx (by rw [eT]; exact A.1) (State.isArrayOf_alike hZ.alike A.2.1) A.2.2 (own_inb S h0 h1) (H _ (by omega)) (g := mkF m pc ls (.int j :: .ref a :: st)) rfl rfl hd t q) ?_
  show own_G p e below (T.setTop (mkF m (pc + 1) ls (.int (gg (j.toNatClampNeg : Int)) :: st))) Q
  rw [← e1]
  exact g
theorem own_iast (X : own_X p l e R s m args below meth c Z bytes maxL ret y n0 h T k n) (A : own_I Z h a .int nn gg) (ha : n0 ≤ a) (hd : decode bytes pc = .ok (.iastore, 1)) {j x : Int32} (h0 : 0 ≤ j.toInt) (h1 : j.toInt < nn)
    (g : ∀ h' T', own_X p l e R s m args below meth c Z bytes maxL ret y n0 h' T' k n → own_I Z h' a .int nn (own_u gg j.toInt x) → Wr h h' a j.toNatClampNeg (.int x) → own_G p e below (T'.setTop (mkF m (pc + 1) ls st)) Q) : own_G p e below (T.setTop (mkF m pc ls (.int x :: .int j :: .ref a :: st))) Q := by
  obtain ⟨M, hn0, eT, locs, X, N⟩ := X
  have M' := M
  obtain ⟨hx, hby, hml, hown, hnm, hret, hZ, hlk⟩ := M'
  have AA := A
  obtain ⟨q, cl, A, S, H⟩ := A
  subst hby
  obtain ⟨T', h', X', e', W', stp⟩ := stI X hx hZ eT A (own_inb S h0 h1) (g := mkF m pc ls (.int x :: .int j :: .ref a :: st)) rfl rfl hd
  exact own_st stp (g h' T' ⟨M, by rw [W'.size]; exact hn0, e', _, X', Fr.snoc X' N ha⟩ (own_I_set AA W' _ (own_nat h0)) W')
theorem own_bast (X : own_X p l e R s m args below meth c Z bytes maxL ret y n0 h T k n) (A : own_I Z h a .byte nn gg) (ha : n0 ≤ a) (hd : decode bytes pc = .ok (.bastore, 1)) {j x : Int32} (h0 : 0 ≤ j.toInt) (h1 : j.toInt < nn) (hx8 : x.toInt8.toInt32 = x)
    (g : ∀ h' T', own_X p l e R s m args below meth c Z bytes maxL ret y n0 h' T' k n → own_I Z h' a .byte nn (own_u gg j.toInt x) → Wr h h' a j.toNatClampNeg (.int x) → own_G p e below (T'.setTop (mkF m (pc + 1) ls st)) Q) : own_G p e below (T.setTop (mkF m pc ls (.int x :: .int j :: .ref a :: st))) Q := by
  obtain ⟨M, hn0, eT, locs, X, N⟩ := X
  have M' := M
  obtain ⟨hx, hby, hml, hown, hnm, hret, hZ, hlk⟩ := M'
  have AA := A
  obtain ⟨q, cl, A, S, H⟩ := A
  subst hby
  obtain ⟨T', h', X', e', W', stp⟩ := stB X hx hZ eT A (own_inb S h0 h1) (g := mkF m pc ls (.int x :: .int j :: .ref a :: st)) rfl rfl hd
  have W2 : Wr h h' a j.toNatClampNeg (.int x) := by have q := W'; simp only [nar, hx8] at q; exact q
  exact own_st stp (g h' T' ⟨M, by rw [W'.size]; exact hn0, e', _, X', Fr.snoc X' N ha⟩ (own_I_set AA W2 _ (own_nat h0)) W2)
theorem own_zast (X : own_X p l e R s m args below meth c Z bytes maxL ret y n0 h T k n) (A : own_I Z h a .boolean nn gg) (ha : n0 ≤ a) (hd : decode bytes pc = .ok (.bastore, 1)) {j x : Int32} (h0 : 0 ≤ j.toInt) (h1 : j.toInt < nn) (hx1 : x &&& 1 = x)
    (g : ∀ h' T', own_X p l e R s m args below meth c Z bytes maxL ret y n0 h' T' k n → own_I Z h' a .boolean nn (own_u gg j.toInt x) → Wr h h' a j.toNatClampNeg (.int x) → own_G p e below (T'.setTop (mkF m (pc + 1) ls st)) Q) : own_G p e below (T.setTop (mkF m pc ls (.int x :: .int j :: .ref a :: st))) Q := by
  obtain ⟨M, hn0, eT, locs, X, N⟩ := X
  have M' := M
  obtain ⟨hx, hby, hml, hown, hnm, hret, hZ, hlk⟩ := M'
  have AA := A
  obtain ⟨q, cl, A, S, H⟩ := A
  subst hby
  obtain ⟨T', h', X', e', W', stp⟩ := stZ X hx hZ eT A (own_inb S h0 h1) (g := mkF m pc ls (.int x :: .int j :: .ref a :: st)) rfl rfl hd
  have W2 : Wr h h' a j.toNatClampNeg (.int x) := by have q := W'; simp only [nar, hx1] at q; exact q
  exact own_st stp (g h' T' ⟨M, by rw [W'.size]; exact hn0, e', _, X', Fr.snoc X' N ha⟩ (own_I_set AA W2 _ (own_nat h0)) W2)
theorem own_jast (X : own_X p l e R s m args below meth c Z bytes maxL ret y n0 h T k n) (A : own_A Z h a .long nn f) (ha : n0 ≤ a) (hd : decode bytes pc = .ok (.lastore, 1)) {j : Int32} {x : Int64} (h0 : 0 ≤ j.toInt) (h1 : j.toInt < nn)
    (g : ∀ h' T', own_X p l e R s m args below meth c Z bytes maxL ret y n0 h' T' k n → own_A Z h' a .long nn (own_u f j.toInt (.long x)) → Wr h h' a j.toNatClampNeg (.long x) → own_G p e below (T'.setTop (mkF m (pc + 1) ls st)) Q) : own_G p e below (T.setTop (mkF m pc ls (.long x :: .int j :: .ref a :: st))) Q := by
  obtain ⟨M, hn0, eT, locs, X, N⟩ := X
  have M' := M
  obtain ⟨hx, hby, hml, hown, hnm, hret, hZ, hlk⟩ := M'
  have AA := A
  obtain ⟨q, cl, A, S, H⟩ := A
  subst hby
  obtain ⟨T', h', X', e', W', stp⟩ := stJ X hx hZ eT A (own_inb S h0 h1) (g := mkF m pc ls (.long x :: .int j :: .ref a :: st)) rfl rfl hd
  exact own_st stp (g h' T' ⟨M, by rw [W'.size]; exact hn0, e', _, X', Fr.snoc X' N ha⟩ (own_A_set AA W' _ (own_nat h0)) W')
theorem own_newP (X : own_X p l e R s m args below meth c Z bytes maxL ret y n0 h T k n) {aty : ArrayType} (w : (Jvm.Cond.arrayClass (newarray.typeOf aty)).before a0 Z = true) (hd : decode bytes pc = .ok (.newarray aty, 2)) {v : Int32} (h0 : 0 ≤ v.toInt) (cap : Nat) (hcap : v.toInt ≤ cap) (hb : cap * 8 ≤ 536870912) (hc : k + 1 ≤ R.cells) (hs : n + cap ≤ R.slots)
    (g : ∀ h' T', own_X p l e R s m args below meth c Z bytes maxL ret y n0 h' T' (k + 1) (n + cap) → Ext h h' → own_A Z h' h.size (newarray.typeOf aty) v.toInt.toNat (fun _ => defaultValue (newarray.typeOf aty)) → own_G p e below (T'.setTop (mkF m (pc + 2) ls (.ref h.size :: st))) Q) : own_G p e below (T.setTop (mkF m pc ls (.int v :: st))) Q := by
  obtain ⟨M, hn0, eT, locs, X, N⟩ := X
  have M' := M
  obtain ⟨hx, hby, hml, hown, hnm, hret, hZ, hlk⟩ := M'
  subst hby
  have e1 := own_nat h0
  obtain ⟨T', h', cA, X', e', E', A', stp⟩ := newP X hx hZ w eT (g := mkF m pc ls (.int v :: st)) rfl hd rfl (own_idx h0) (cap := cap) (by omega) hb hc hs
  exact own_st stp (g h' T' ⟨M, Nat.le_trans hn0 E'.1, e', _, X', N⟩ E' (own_A_new A' h0))
theorem own_newI (X : own_X p l e R s m args below meth c Z bytes maxL ret y n0 h T k n) {aty : ArrayType} (w : (Jvm.Cond.arrayClass (newarray.typeOf aty)).before a0 Z = true) (hdf : defaultValue (newarray.typeOf aty) = .int 0) (hd : decode bytes pc = .ok (.newarray aty, 2)) {v : Int32} (h0 : 0 ≤ v.toInt) (cap : Nat) (hcap : v.toInt ≤ cap) (hb : cap * 8 ≤ 536870912) (hc : k + 1 ≤ R.cells) (hs : n + cap ≤ R.slots)
    (g : ∀ h' T', own_X p l e R s m args below meth c Z bytes maxL ret y n0 h' T' (k + 1) (n + cap) → Ext h h' → own_I Z h' h.size (newarray.typeOf aty) v.toInt.toNat (fun _ => 0) → own_G p e below (T'.setTop (mkF m (pc + 2) ls (.ref h.size :: st))) Q) : own_G p e below (T.setTop (mkF m pc ls (.int v :: st))) Q :=
  own_newP X w hd h0 cap hcap hb hc hs (fun h' T' X' E A => g h' T' X' E (own_A_eq A fun _ _ _ => hdf.symm))
end Arrs2
section Obj
variable {p : Program} {l : Launch} {e : Env} {R : Room} {s : State} {m : MethodId} {args : Array Value} {below : List Frame} {meth : Method} {c : Code} {Z : State} {bytes : ByteArray} {maxL : Nat} {ret : Option FieldType} {y : MethodName} {n0 : Nat} {h : Heap} {T : State} {k n : Nat} {Q : Outcome → State → Prop} {pc pc' : Nat} {ls ls' : Array Slot} {st st' : List Value} {a0 : Array Value}
/-- the constructor of Object -/
theorem own_init (X : own_X p l e R s m args below meth c Z bytes maxL ret y n0 h T k n) {i : Nat} (w1 : (Jvm.Cond.methodLink y.cls i Lib.objectInit).before a0 Z = true) (w2 : (Jvm.Cond.instanceMethod Lib.objectInit).before a0 Z = true) (w3 : (Jvm.Cond.code Lib.objectInit object_method_1_code 1 none).before a0 Z = true) (hd : decode bytes pc = .ok (.invokespecial i, 3)) {a : Addr} (hsz : ls.size = maxL) (hf : 1 ≤ R.frames) (hl : (st.map fun v => v.category).sum + 12 ≤ R.locals)
    (g : ∀ T', own_X p l e R s m args below meth c Z bytes maxL ret y n0 h T' k n → own_G p e below (T'.setTop (mkF m (pc + 3) ls st)) Q) : own_G p e below (T.setTop (mkF m pc ls (.ref a :: st))) Q := by
  obtain ⟨M, hn0, eT, locs, X, N⟩ := X
  have M' := M
  obtain ⟨hx, hby, hml, hown, hnm, hret, hZ, hlk⟩ := M'
  subst hby
  obtain ⟨T', X', e', stp⟩ := initO X hx hZ hown w1 w2 w3 eT (g := mkF m pc ls (.ref a :: st)) rfl (hsz.trans hml.symm) rfl hd hf (Nat.le_of_eq (Nat.zero_add _)) hl
  exact own_st stp (g T' ⟨M, hn0, e', _, X', N⟩)
end Obj
/-! ### own numbers -/
theorem own_addc {x k : Int32} {d : Int} (hk : k.toInt = d) (h1 : -2147483648 ≤ x.toInt + d) (h2 : x.toInt + d < 2147483648) : (x + k).toInt = x.toInt + d := by
  subst hk; exact Jvm.Kit.i32_add (by omega) (by omega)
theorem own_subc {x k : Int32} {d : Int} (hk : k.toInt = d) (h1 : -2147483648 ≤ x.toInt - d) (h2 : x.toInt - d < 2147483648) : (x - k).toInt = x.toInt - d := by
  subst hk; exact Jvm.Kit.i32_sub (by omega) (by omega)
theorem own_mulc {x k : Int32} {d : Int} (hk : k.toInt = d) (h1 : -2147483648 ≤ x.toInt * d) (h2 : x.toInt * d < 2147483648) : (x * k).toInt = x.toInt * d := by
  subst hk; exact Jvm.Kit.i32_mul (by omega) (by omega)
theorem own_i2b_int (x : Int32) : (own_i2b x).toInt = x.toInt.bmod 256 := by
  simp [own_i2b, Int8.toInt_toInt32, Int32.toInt_toInt8]
theorem own_i2b_b (x : Int32) : -128 ≤ (own_i2b x).toInt ∧ (own_i2b x).toInt < 128 ∧ (own_i2b x).toInt % 256 = x.toInt % 256 := by
  rw [own_i2b_int]
  have h1 := Int.bmod_emod (x := x.toInt) (m := 256)
  have h2 := Int.le_bmod (x := x.toInt) (m := 256) (by decide)
  have h3 := Int.bmod_lt (x := x.toInt) (m := 256) (by decide)
  omega
theorem own_i2b_fix (x : Int32) : (own_i2b x).toInt8.toInt32 = own_i2b x := by
  simp [own_i2b]
theorem own_i2b_id {x : Int32} (h1 : -128 ≤ x.toInt) (h2 : x.toInt < 128) : own_i2b x = x := by
  apply Int32.toInt_inj.mp
  have := own_i2b_b x
  omega
theorem own_irem_int (x y : Int32) : (own_irem x y).toInt = x.toInt.tmod y.toInt := by
  have a := (x % y).toInt_lt; have b := (x % y).le_toInt
  rw [Int32.toInt_mod] at a b
  rw [own_irem, Int32.toInt_sub, Int32.toInt_mul, Int32.toInt_div, Int.bmod_mul_bmod, Int.sub_bmod_bmod, Int.mul_comm, ← Int.tmod_def]
  exact Jvm.Kit.bmod32 b a
theorem own_irem_pos {x y : Int32} (h : 0 ≤ x.toInt) : (own_irem x y).toInt = x.toInt % y.toInt := by rw [own_irem_int, Int.tmod_eq_emod_of_nonneg h]
theorem own_idiv_pos {x y : Int32} (h : 0 ≤ x.toInt) : (x / y).toInt = x.toInt / y.toInt := by
  have a := x.toInt_lt
  rw [Jvm.Kit.i32_div (by omega), Int.tdiv_eq_ediv_of_nonneg h]
theorem own_lrem_pos {x y : Int64} (h : 0 ≤ x.toInt) : (own_lrem x y).toInt = x.toInt % y.toInt := by rw [own_lrem]; exact Jvm.Kit.i64_rem_nonneg h
theorem own_ldiv_pos {x y : Int64} (h : 0 ≤ x.toInt) : (x / y).toInt = x.toInt / y.toInt := by
  have a := x.toInt_lt
  rw [Jvm.Kit.i64_div (by omega), Int.tdiv_eq_ediv_of_nonneg h]
/-! bits -/
theorem own_lushr_bv (x : Int64) (y : Int32) (k : Nat) (hk : ((y &&& 0x3f).toInt64.toBitVec % 64).toNat = k) : (own_lushr x y).toBitVec = x.toBitVec >>> k := by
  simp only [own_lushr, UInt64.toBitVec_toInt64, UInt64.toBitVec_shiftRight, Int64.toBitVec_toUInt64, BitVec.ushiftRight_eq', hk]
theorem own_lshl_bv (x : Int64) (y : Int32) (k : Nat) (hk : ((y &&& 0x3f).toInt64.toBitVec.smod 64#64).toNat = k) : (own_lshl x y).toBitVec = x.toBitVec <<< k := by
  have e : (own_lshl x y).toBitVec = x.toBitVec <<< ((y &&& 0x3f).toInt64.toBitVec.smod 64#64) := rfl
  rw [e, BitVec.shiftLeft_eq', hk]
theorem own_iushr_bv (x : Int32) (y : Int32) (k : Nat) (hk : ((y &&& 31).toBitVec % 32).toNat = k) : (own_iushr x y).toBitVec = x.toBitVec >>> k := by
  simp only [own_iushr, UInt32.toBitVec_toInt32, UInt32.toBitVec_shiftRight, Int32.toBitVec_toUInt32, BitVec.ushiftRight_eq', hk]
theorem own_iushr_int (x y : Int32) (k : Nat) (hk : ((y &&& 31).toBitVec % 32).toNat = k) (h : 0 ≤ x.toInt) : (own_iushr x y).toInt = x.toInt / 2 ^ k := by
  have e : (own_iushr x y).toInt = (own_iushr x y).toBitVec.toInt := rfl
  have e1 : x.toInt = x.toBitVec.toInt := rfl
  rw [e, own_iushr_bv x y k hk, e1]
  rw [e1] at h
  have h2 : x.toBitVec.toInt = (x.toBitVec.toNat : Int) := by
    rw [BitVec.toInt_eq_toNat_cond] at h ⊢
    split at h
    · rw [if_pos (by assumption)]
    · have := x.toBitVec.isLt; omega
  have h3 : 2 * x.toBitVec.toNat < 2 ^ 32 := by
    have := BitVec.toInt_lt (x := x.toBitVec); omega
  rw [BitVec.toInt_eq_toNat_cond, BitVec.toNat_ushiftRight, Nat.shiftRight_eq_div_pow]
  have h4 : x.toBitVec.toNat / 2 ^ k ≤ x.toBitVec.toNat := Nat.div_le_self _ _
  rw [if_pos (by omega), h2, Int.natCast_ediv, Int.natCast_pow]
  rfl
theorem own_pos_nat {x : Int32} (h : 0 ≤ x.toInt) : x.toInt = (x.toBitVec.toNat : Int) := by
  have e : x.toInt = x.toBitVec.toInt := rfl
  rw [e] at h ⊢
  rw [BitVec.toInt_eq_toNat_cond] at h ⊢
  have := x.toBitVec.isLt
  split at h
  · rw [if_pos (by assumption)]
  · omega
theorem own_nat_pos {x : Int32} {n : Nat} (h : x.toBitVec.toNat = n) (hn : n < 2147483648) : x.toInt = (n : Int) := by
  have e : x.toInt = x.toBitVec.toInt := rfl
  rw [e, BitVec.toInt_eq_toNat_cond, h, if_pos (by omega)]
/-- an or of a multiple of 2^k and what lies below 2^k is their sum -/
theorem own_or {x y : Int32} (k : Nat) (hx : 0 ≤ x.toInt) (hx2 : x.toInt % 2 ^ k = 0) (hy : 0 ≤ y.toInt) (hy2 : y.toInt < 2 ^ k) : (x ||| y).toInt = x.toInt + y.toInt := by
  have e1 := own_pos_nat hx
  have e2 := own_pos_nat hy
  have b1 := Int32.toInt_lt x
  have b2 := Int32.toInt_lt y
  have hm : x.toBitVec.toNat % 2 ^ k = 0 := by
    rw [e1] at hx2
    have : ((x.toBitVec.toNat % 2 ^ k : Nat) : Int) = 0 := by rw [Int.natCast_emod, Int.natCast_pow]; exact hx2
    omega
  have hl : y.toBitVec.toNat < 2 ^ k := by
    rw [e2] at hy2
    have : (y.toBitVec.toNat : Int) < ((2 ^ k : Nat) : Int) := by rw [Int.natCast_pow]; exact hy2
    omega
  have hd : x.toBitVec.toNat = 2 ^ k * (x.toBitVec.toNat / 2 ^ k) := by
    have := Nat.div_add_mod x.toBitVec.toNat (2 ^ k); omega
  have e3 : (x ||| y).toBitVec.toNat = x.toBitVec.toNat + y.toBitVec.toNat := by
    rw [Int32.toBitVec_or, BitVec.toNat_or]
    generalize y.toBitVec.toNat = b at *
    rw [hd, ← Nat.two_pow_add_eq_or_of_lt hl]
  have hlt : (x ||| y).toBitVec.toNat < 2147483648 := by
    rw [Int32.toBitVec_or, BitVec.toNat_or]
    exact Nat.or_lt_two_pow (n := 31) (by omega) (by omega)
  rw [own_nat_pos e3 (by omega)]
  omega
theorem own_mask (x m : Int32) (k : Nat) (hk : k < 32) (hm : m.toBitVec.toNat = 2 ^ k - 1) : (x &&& m).toInt = x.toInt % 2 ^ k := Jvm.Kit.i32_mask x m hk hm
/-! the high bits of a byte -/
theorem own_fin256 {x : Int32} (h0 : 0 ≤ x.toInt) (h1 : x.toInt < 256) : ∃ n : Fin 256, x = Int32.ofNat n.val ∧ x.toInt = (n.val : Int) := by
  refine ⟨⟨x.toInt.toNat, by omega⟩, ?_, by show x.toInt = (x.toInt.toNat : Int); omega⟩
  apply Int32.toInt_inj.mp
  rw [Int32.toInt_ofNat_of_lt (by show x.toInt.toNat < _; omega)]
  show x.toInt = (x.toInt.toNat : Int); omega
theorem own_f192 : ∀ n : Fin 256, (Int32.ofNat n.val &&& 192).toInt = (n.val : Int) - (n.val : Int) % 64 := by decide +kernel
theorem own_f224 : ∀ n : Fin 256, (Int32.ofNat n.val &&& 224).toInt = (n.val : Int) - (n.val : Int) % 32 := by decide +kernel
theorem own_f240 : ∀ n : Fin 256, (Int32.ofNat n.val &&& 240).toInt = (n.val : Int) - (n.val : Int) % 16 := by decide +kernel
theorem own_f248 : ∀ n : Fin 256, (Int32.ofNat n.val &&& 248).toInt = (n.val : Int) - (n.val : Int) % 8 := by decide +kernel
theorem own_h192 {x : Int32} (h0 : 0 ≤ x.toInt) (h1 : x.toInt < 256) : (x &&& 192).toInt = x.toInt - x.toInt % 64 := by
  obtain ⟨n, e1, e2⟩ := own_fin256 h0 h1; rw [e2, e1]; exact own_f192 n
theorem own_h224 {x : Int32} (h0 : 0 ≤ x.toInt) (h1 : x.toInt < 256) : (x &&& 224).toInt = x.toInt - x.toInt % 32 := by
  obtain ⟨n, e1, e2⟩ := own_fin256 h0 h1; rw [e2, e1]; exact own_f224 n
theorem own_h240 {x : Int32} (h0 : 0 ≤ x.toInt) (h1 : x.toInt < 256) : (x &&& 240).toInt = x.toInt - x.toInt % 16 := by
  obtain ⟨n, e1, e2⟩ := own_fin256 h0 h1; rw [e2, e1]; exact own_f240 n
theorem own_h248 {x : Int32} (h0 : 0 ≤ x.toInt) (h1 : x.toInt < 256) : (x &&& 248).toInt = x.toInt - x.toInt % 8 := by
  obtain ⟨n, e1, e2⟩ := own_fin256 h0 h1; rw [e2, e1]; exact own_f248 n
theorem own_m255 (x : Int32) : (x &&& 255).toInt = x.toInt % 256 := Jvm.Kit.i32_mask x 255 (k := 8) (by decide) (by decide)
theorem own_m63 (x : Int32) : (x &&& 63).toInt = x.toInt % 64 := Jvm.Kit.i32_mask x 63 (k := 6) (by decide) (by decide)
theorem own_l192 (x : Int32) : (x &&& 192).toInt = x.toInt % 256 - x.toInt % 64 := by
  have e : x &&& 192 = (x &&& 255) &&& 192 := by rw [Int32.and_assoc]; rfl
  have h := own_m255 x
  rw [e, own_h192 (by omega) (by omega), h]; omega
theorem own_shr (x y : Int32) (k : Nat) (hk : ((y &&& 31).toBitVec.smod 32).toNat = k) : (own_ishr x y).toInt = x.toInt / 2 ^ k := Jvm.Kit.i32_shr x _ hk
theorem own_shl (x y : Int32) (k : Nat) (hk : ((y &&& 31).toBitVec.smod 32).toNat = k) (h1 : -2147483648 ≤ x.toInt * 2 ^ k) (h2 : x.toInt * 2 ^ k < 2147483648) : (own_ishl x y).toInt = x.toInt * 2 ^ k := Jvm.Kit.i32_shl x _ hk (by omega) (by omega)
/-- an or with a constant that is a multiple of 2^k -/
theorem own_orc {x y : Int32} {d : Int} (k : Nat) (hx : x.toInt = d) (h0 : 0 ≤ d) (h1 : d % 2 ^ k = 0) (hy : 0 ≤ y.toInt) (hy2 : y.toInt < 2 ^ k) : (x ||| y).toInt = d + y.toInt := by
  subst hx; exact own_or k h0 h1 hy hy2
theorem own_b255 (x : Int32) : (own_i2b x &&& 255).toInt = x.toInt % 256 := by
  have h1 := own_m255 (own_i2b x)
  have h2 := own_i2b_b x
  omega
theorem own_ofNat {n : Nat} (h : n < 2147483648) : (Int32.ofNat n).toInt = (n : Int) := Int32.toInt_ofNat_of_lt (by omega)
def own_max (a b : Int32) : Int32 := if a.toInt < b.toInt then b else a
def own_run (f0 f1 f2 : Int32) (r : Int64) : Int32 := if r.toInt < f0.toInt64.toInt ∨ (own_lrem ((((f0.toInt64 + f1.toInt64) - 1) - r) * f2.toInt64) f1.toInt64).toInt < f2.toInt64.toInt then 1 else 0
theorem own_run_01 (f0 f1 f2 : Int32) (r : Int64) : (own_run f0 f1 f2 r).toInt = if r.toInt < f0.toInt64.toInt ∨ (own_lrem ((((f0.toInt64 + f1.toInt64) - 1) - r) * f2.toInt64) f1.toInt64).toInt < f2.toInt64.toInt then 1 else 0 := by
  unfold own_run; split <;> rfl
theorem own_plan {K J M : Int} (hK : 0 ≤ K) (hJ : 1 ≤ J) (hM : 1 ≤ M) : (K = (K * J / M * M + J - 1) / J) ↔ (K * J) % M < J := by
  have h1 := Int.mul_ediv_add_emod (K * J) M
  have h2 := Int.emod_nonneg (K * J) (show M ≠ 0 by omega)
  have h3 := Int.emod_lt_of_pos (K * J) (show 0 < M by omega)
  rw [Int.mul_comm (K * J / M) M]
  generalize M * (K * J / M) = A at *
  generalize (K * J) % M = r at *
  have h4 := Int.mul_ediv_add_emod (A + J - 1) J
  have h5 := Int.emod_nonneg (A + J - 1) (show J ≠ 0 by omega)
  have h6 := Int.emod_lt_of_pos (A + J - 1) (show 0 < J by omega)
  generalize (A + J - 1) / J = q at *
  generalize (A + J - 1) % J = u at *
  constructor
  · intro e
    subst e
    rw [Int.mul_comm] at h4
    omega
  · intro hr
    have a1 : J * q < J * (K + 1) := by rw [Int.mul_add, Int.mul_comm J K]; omega
    have a2 : J * K < J * (q + 1) := by rw [Int.mul_add, Int.mul_comm J K]; omega
    have b1 := Int.lt_of_mul_lt_mul_left a1 (by omega)
    have b2 := Int.lt_of_mul_lt_mul_left a2 (by omega)
    omega
abbrev own_y1 : MethodName := ⟨"java/lang/Math", "max", "(II)I"⟩
theorem pl1 : plainFor own_y1 = true := Jvm.Free.JP.mathPlain rfl (by decide +kernel)
def B1_0_2 : List (Instr × Nat) := [(.iload_n 0, 1), (.iload_n 1, 1)]
theorem B1_0_2d : own_d jdk_29_method_65_code 0 B1_0_2 2 = true := by decide +kernel
theorem d1_2 : decode jdk_29_method_65_code 2 = .ok (.if_icmp .lt 7, 3) := by decide +kernel
def B1_9_10 : List (Instr × Nat) := [(.iload_n 1, 1)]
theorem B1_9_10d : own_d jdk_29_method_65_code 9 B1_9_10 10 = true := by decide +kernel
theorem d1_10 : decode jdk_29_method_65_code 10 = .ok (.ireturn, 1) := by decide +kernel
def B1_5_6 : List (Instr × Nat) := [(.iload_n 0, 1)]
theorem B1_5_6d : own_d jdk_29_method_65_code 5 B1_5_6 6 = true := by decide +kernel
theorem d1_6 : decode jdk_29_method_65_code 6 = .ok (.goto 4, 3) := by decide +kernel
set_option maxRecDepth 65536 in
set_option maxHeartbeats 40000000 in
theorem c_max (l : Launch) (Z : State) (a0 : Array Value) (hw : ∀ d ∈ tables_1, d.before a0 Z = true) (a : Int32) (b : Int32) (h0 : Heap) (n0 : Nat) (Z0 : n0 ≤ h0.size)  :
    own_C l Z own_y1 jdk_29_method_65_code 2 (some .int) ({ frames := 0, cells := 0, slots := 0, locals := 0 } : Room) #[(.int a), (.int b)] h0 n0 (fun v h => v = some (.int (own_max a b)) ∧ h = h0) := by
  refine own_body pl1 Z0 (ls := #[.val (.int a), .val (.int b)]) (fun m => by first | (simp [entryFrame, mkF, argsToLocals, Value.category]; done) | rfl) ?_
  intro p e s m below meth c T0 X0
  refine own_blk X0 B1_0_2 B1_0_2d (ls' := #[.val (.int a), .val (.int b)]) (st' := [(.int b), (.int a)]) rfl ?_
  refine own_icmp X0 d1_2 (pc' := 9) (by decide) (fun c2 => ?_) (fun c2 => ?_)
  · have c2 : a.toInt < b.toInt := c2
    refine own_blk X0 B1_9_10 B1_9_10d (ls' := #[.val (.int a), .val (.int b)]) (st' := [(.int b)]) rfl ?_
    exact own_retI X0 d1_10 (by decide) (by decide) (⟨by rw [own_max, if_pos c2], rfl⟩)
  · have c2 : ¬ (a.toInt < b.toInt) := c2
    refine own_blk X0 B1_5_6 B1_5_6d (ls' := #[.val (.int a), .val (.int b)]) (st' := [(.int a)]) rfl ?_
    refine own_goto X0 d1_6 (pc' := 10) (by decide) ?_
    exact own_retI X0 d1_10 (by decide) (by decide) (⟨by rw [own_max, if_neg c2], rfl⟩)
abbrev own_y3 : MethodName := ⟨"java/lang/Record", "<init>", "()V"⟩
theorem pl3 : plainFor own_y3 = true := plainFor_of_name (by first | (simp [plainName, overriddenIn]; done) | decide +kernel)
def B3_0_1 : List (Instr × Nat) := [(.aload_n 0, 1)]
theorem B3_0_1d : own_d jdk_30_method_1_code 0 B3_0_1 1 = true := by decide +kernel
theorem d3_1 : decode jdk_30_method_1_code 1 = .ok (.invokespecial 1, 3) := by decide +kernel
theorem d3_4 : decode jdk_30_method_1_code 4 = .ok (.return_, 1) := by decide +kernel
set_option maxRecDepth 65536 in
set_option maxHeartbeats 40000000 in
theorem c_rec (l : Launch) (Z : State) (a0 : Array Value) (hw : ∀ d ∈ tables_1, d.before a0 Z = true) (a : Addr) (h0 : Heap) (n0 : Nat) (Z0 : n0 ≤ h0.size)  :
    own_C l Z own_y3 jdk_30_method_1_code 1 none ({ frames := 1, cells := 0, slots := 0, locals := 12 } : Room) #[(.ref a)] h0 n0 (fun v h => v = none ∧ h = h0) := by
  refine own_body pl3 Z0 (ls := #[.val (.ref a)]) (fun m => by first | (simp [entryFrame, mkF, argsToLocals, Value.category]; done) | rfl) ?_
  intro p e s m below meth c T0 X0
  refine own_blk X0 B3_0_1 B3_0_1d (ls' := #[.val (.ref a)]) (st' := [(.ref a)]) rfl ?_
  refine own_init X0 (hw _ (List.mem_of_getElem? (i := 17) rfl)) (hw _ (List.mem_of_getElem? (i := 18) rfl)) (hw _ (List.mem_of_getElem? (i := 19) rfl)) d3_1 rfl (by decide) (Nat.le_of_ble_eq_true rfl) (fun T1 X1 => ?_)
  show own_G p e below (T1.setTop (mkF m 4 #[.val (.ref a)] [])) _
  exact own_retV X1 d3_4 (by decide) (by decide) (⟨rfl, rfl⟩)
abbrev own_y2 : MethodName := ⟨"com/example/tallysort/tallysort/cli/Bench$Rounds", "<init>", "(III)V"⟩
theorem pl2 : plainFor own_y2 = true := plainFor_of_name (by first | (simp [plainName, overriddenIn]; done) | decide +kernel)
def B2_0_1 : List (Instr × Nat) := [(.aload_n 0, 1)]
theorem B2_0_1d : own_d prog_76_method_2_code 0 B2_0_1 1 = true := by decide +kernel
theorem d2_1 : decode prog_76_method_2_code 1 = .ok (.invokespecial 7, 3) := by decide +kernel
theorem pd3 : parseMethodDescriptor "()V" = some ⟨[], none⟩ := by decide +kernel
def B2_4_5 : List (Instr × Nat) := [(.iload_n 1, 1)]
theorem B2_4_5d : own_d prog_76_method_2_code 4 B2_4_5 5 = true := by decide +kernel
theorem d2_5 : decode prog_76_method_2_code 5 = .ok (.ifCond .lt 18, 3) := by decide +kernel
def B2_8_10 : List (Instr × Nat) := [(.iload_n 2, 1), (.iconst 1, 1)]
theorem B2_8_10d : own_d prog_76_method_2_code 8 B2_8_10 10 = true := by decide +kernel
theorem d2_10 : decode prog_76_method_2_code 10 = .ok (.if_icmp .lt 13, 3) := by decide +kernel
def B2_13_15 : List (Instr × Nat) := [(.iload_n 3, 1), (.iconst 1, 1)]
theorem B2_13_15d : own_d prog_76_method_2_code 13 B2_13_15 15 = true := by decide +kernel
theorem d2_15 : decode prog_76_method_2_code 15 = .ok (.if_icmp .lt 8, 3) := by decide +kernel
def B2_18_20 : List (Instr × Nat) := [(.iload_n 3, 1), (.iload_n 2, 1)]
theorem B2_18_20d : own_d prog_76_method_2_code 18 B2_18_20 20 = true := by decide +kernel
theorem d2_20 : decode prog_76_method_2_code 20 = .ok (.if_icmp .le 19, 3) := by decide +kernel
def B2_39_41 : List (Instr × Nat) := [(.aload_n 0, 1), (.iload_n 1, 1)]
theorem B2_39_41d : own_d prog_76_method_2_code 39 B2_39_41 41 = true := by decide +kernel
theorem d2_41 : decode prog_76_method_2_code 41 = .ok (.putfield 21, 3) := by decide +kernel
def B2_44_46 : List (Instr × Nat) := [(.aload_n 0, 1), (.iload_n 2, 1)]
theorem B2_44_46d : own_d prog_76_method_2_code 44 B2_44_46 46 = true := by decide +kernel
theorem d2_46 : decode prog_76_method_2_code 46 = .ok (.putfield 25, 3) := by decide +kernel
def B2_49_51 : List (Instr × Nat) := [(.aload_n 0, 1), (.iload_n 3, 1)]
theorem B2_49_51d : own_d prog_76_method_2_code 49 B2_49_51 51 = true := by decide +kernel
theorem d2_51 : decode prog_76_method_2_code 51 = .ok (.putfield 28, 3) := by decide +kernel
theorem d2_54 : decode prog_76_method_2_code 54 = .ok (.return_, 1) := by decide +kernel
set_option maxRecDepth 65536 in
set_option maxHeartbeats 40000000 in
theorem c_init (l : Launch) (Z : State) (a0 : Array Value) (hw : ∀ d ∈ tables_1, d.before a0 Z = true) (a : Addr) (f0 : Int32) (f1 : Int32) (f2 : Int32) (h0 : Heap) (n0 : Nat) (Z0 : n0 ≤ h0.size) (n_a : n0 ≤ a) (H0 : 0 ≤ f0.toInt) (H1 : 1 ≤ f1.toInt) (H2 : 1 ≤ f2.toInt) (H3 : f2.toInt ≤ f1.toInt) (E : Exa Z h0 a "com/example/tallysort/tallysort/cli/Bench$Rounds") (P0 : Fld Z h0 a "com/example/tallysort/tallysort/cli/Bench$Rounds" "warmup" "I" (.int (0 : Int32))) (P1 : Fld Z h0 a "com/example/tallysort/tallysort/cli/Bench$Rounds" "measured" "I" (.int (0 : Int32))) (P2 : Fld Z h0 a "com/example/tallysort/tallysort/cli/Bench$Rounds" "jdkMeasured" "I" (.int (0 : Int32))) :
    own_C l Z own_y2 prog_76_method_2_code 4 none ({ frames := 2, cells := 0, slots := 0, locals := 24 } : Room) #[(.ref a), (.int f0), (.int f1), (.int f2)] h0 n0 (fun v h => v = none ∧ Keep h0 h [a] ∧ Exa Z h a "com/example/tallysort/tallysort/cli/Bench$Rounds" ∧ Fld Z h a "com/example/tallysort/tallysort/cli/Bench$Rounds" "warmup" "I" (.int f0) ∧ Fld Z h a "com/example/tallysort/tallysort/cli/Bench$Rounds" "measured" "I" (.int f1) ∧ Fld Z h a "com/example/tallysort/tallysort/cli/Bench$Rounds" "jdkMeasured" "I" (.int f2)) := by
  refine own_body pl2 Z0 (ls := #[.val (.ref a), .val (.int f0), .val (.int f1), .val (.int f2)]) (fun m => by first | (simp [entryFrame, mkF, argsToLocals, Value.category]; done) | rfl) ?_
  intro p e s m below meth c T0 X0
  have K0 : Keep h0 h0 [a] := Keep.refl _ _
  refine own_blk X0 B2_0_1 B2_0_1d (ls' := #[.val (.ref a), .val (.int f0), .val (.int f1), .val (.int f2)]) (st' := [(.ref a)]) rfl ?_
  refine own_callN X0 rfl (hw _ (List.mem_of_getElem? (i := 12) rfl)) (hw _ (List.mem_of_getElem? (i := 13) rfl)) (hw _ (List.mem_of_getElem? (i := 15) rfl)) (hw _ (List.mem_of_getElem? (i := 16) rfl)) (by decide) (c_rec l Z a0 hw a h0 n0 X0.2.1) d2_1 [] [] rfl rfl pd3 rfl rfl (by decide) (Nat.le_of_ble_eq_true rfl) (by decide) (by decide) (fun _ _ q => by rw [q.2]; exact X0.2.1) (fun v1 h1 T1 X1 q1 => ?_)
  obtain ⟨rfl, e1⟩ := q1
  rw [e1] at X1
  show own_G p e below (T1.setTop (mkF m 4 #[.val (.ref a), .val (.int f0), .val (.int f1), .val (.int f2)] [])) _
  refine own_blk X1 B2_4_5 B2_4_5d (ls' := #[.val (.ref a), .val (.int f0), .val (.int f1), .val (.int f2)]) (st' := [(.int f0)]) rfl ?_
  refine own_if X1 d2_5 (pc' := 23) (by decide) (fun (c5 : f0.toInt < 0) => by exfalso; omega) (fun c5 => ?_)
  have c5 : ¬ (f0.toInt < 0) := c5
  refine own_blk X1 B2_8_10 B2_8_10d (ls' := #[.val (.ref a), .val (.int f0), .val (.int f1), .val (.int f2)]) (st' := [(.int (1 : Int32)), (.int f1)]) rfl ?_
  refine own_icmp X1 d2_10 (pc' := 23) (by decide) (fun (c10 : f1.toInt < 1) => by exfalso; omega) (fun c10 => ?_)
  have c10 : ¬ (f1.toInt < 1) := c10
  refine own_blk X1 B2_13_15 B2_13_15d (ls' := #[.val (.ref a), .val (.int f0), .val (.int f1), .val (.int f2)]) (st' := [(.int (1 : Int32)), (.int f2)]) rfl ?_
  refine own_icmp X1 d2_15 (pc' := 23) (by decide) (fun (c15 : f2.toInt < 1) => by exfalso; omega) (fun c15 => ?_)
  have c15 : ¬ (f2.toInt < 1) := c15
  refine own_blk X1 B2_18_20 B2_18_20d (ls' := #[.val (.ref a), .val (.int f0), .val (.int f1), .val (.int f2)]) (st' := [(.int f1), (.int f2)]) rfl ?_
  refine own_icmp X1 d2_20 (pc' := 39) (by decide) (fun c20 => ?_) (fun (c20 : ¬ (f2.toInt ≤ f1.toInt)) => by exfalso; omega)
  have c20 : f2.toInt ≤ f1.toInt := c20
  refine own_blk X1 B2_39_41 B2_39_41d (ls' := #[.val (.ref a), .val (.int f0), .val (.int f1), .val (.int f2)]) (st' := [(.int f0), (.ref a)]) rfl ?_
  refine own_putF X1 (hw _ (List.mem_of_getElem? (i := 20) rfl)) P0 E (Or.inr ⟨(hw _ (List.mem_of_getElem? (i := 21) rfl)), rfl, rfl⟩) (hw _ (List.mem_of_getElem? (i := 7) rfl)) (ty := .int) (by decide) rfl rfl n_a d2_41 (fun h2 T2 X2 W2 => ?_)
  have K2 := K0.wr W2 (Or.inl (by simp))
  have G2_a_warmup := Fld.same W2 P0
  have G2_a_measured := Fld.other W2 P1 (Or.inr (slot_ne (Or.inr (hw _ (List.mem_of_getElem? (i := 23) rfl))) (Or.inr (hw _ (List.mem_of_getElem? (i := 21) rfl))) (by decide) (t := .int) (t' := .int) (by decide) (by decide)))
  have G2_a_jdkMeasured := Fld.other W2 P2 (Or.inr (slot_ne (Or.inr (hw _ (List.mem_of_getElem? (i := 25) rfl))) (Or.inr (hw _ (List.mem_of_getElem? (i := 21) rfl))) (by decide) (t := .int) (t' := .int) (by decide) (by decide)))
  have Q2_a := Exa.wr W2 E
  show own_G p e below (T2.setTop (mkF m 44 #[.val (.ref a), .val (.int f0), .val (.int f1), .val (.int f2)] [])) _
  refine own_blk X2 B2_44_46 B2_44_46d (ls' := #[.val (.ref a), .val (.int f0), .val (.int f1), .val (.int f2)]) (st' := [(.int f1), (.ref a)]) rfl ?_
  refine own_putF X2 (hw _ (List.mem_of_getElem? (i := 22) rfl)) G2_a_measured Q2_a (Or.inr ⟨(hw _ (List.mem_of_getElem? (i := 23) rfl)), rfl, rfl⟩) (hw _ (List.mem_of_getElem? (i := 7) rfl)) (ty := .int) (by decide) rfl rfl n_a d2_46 (fun h3 T3 X3 W3 => ?_)
  have K3 := K2.wr W3 (Or.inl (by simp))
  have G3_a_warmup := Fld.other W3 G2_a_warmup (Or.inr (slot_ne (Or.inr (hw _ (List.mem_of_getElem? (i := 21) rfl))) (Or.inr (hw _ (List.mem_of_getElem? (i := 23) rfl))) (by decide) (t := .int) (t' := .int) (by decide) (by decide)))
  have G3_a_measured := Fld.same W3 G2_a_measured
  have G3_a_jdkMeasured := Fld.other W3 G2_a_jdkMeasured (Or.inr (slot_ne (Or.inr (hw _ (List.mem_of_getElem? (i := 25) rfl))) (Or.inr (hw _ (List.mem_of_getElem? (i := 23) rfl))) (by decide) (t := .int) (t' := .int) (by decide) (by decide)))
  have Q3_a := Exa.wr W3 Q2_a
  show own_G p e below (T3.setTop (mkF m 49 #[.val (.ref a), .val (.int f0), .val (.int f1), .val (.int f2)] [])) _
  refine own_blk X3 B2_49_51 B2_49_51d (ls' := #[.val (.ref a), .val (.int f0), .val (.int f1), .val (.int f2)]) (st' := [(.int f2), (.ref a)]) rfl ?_
  refine own_putF X3 (hw _ (List.mem_of_getElem? (i := 24) rfl)) G3_a_jdkMeasured Q3_a (Or.inr ⟨(hw _ (List.mem_of_getElem? (i := 25) rfl)), rfl, rfl⟩) (hw _ (List.mem_of_getElem? (i := 7) rfl)) (ty := .int) (by decide) rfl rfl n_a d2_51 (fun h4 T4 X4 W4 => ?_)
  have K4 := K3.wr W4 (Or.inl (by simp))
  have G4_a_warmup := Fld.other W4 G3_a_warmup (Or.inr (slot_ne (Or.inr (hw _ (List.mem_of_getElem? (i := 21) rfl))) (Or.inr (hw _ (List.mem_of_getElem? (i := 25) rfl))) (by decide) (t := .int) (t' := .int) (by decide) (by decide)))
  have G4_a_measured := Fld.other W4 G3_a_measured (Or.inr (slot_ne (Or.inr (hw _ (List.mem_of_getElem? (i := 23) rfl))) (Or.inr (hw _ (List.mem_of_getElem? (i := 25) rfl))) (by decide) (t := .int) (t' := .int) (by decide) (by decide)))
  have G4_a_jdkMeasured := Fld.same W4 G3_a_jdkMeasured
  have Q4_a := Exa.wr W4 Q3_a
  show own_G p e below (T4.setTop (mkF m 54 #[.val (.ref a), .val (.int f0), .val (.int f1), .val (.int f2)] [])) _
  exact own_retV X4 d2_54 (by decide) (by decide) (⟨rfl, K4, Q4_a, G4_a_warmup, G4_a_measured, G4_a_jdkMeasured⟩)
abbrev own_y5 : MethodName := ⟨"com/example/tallysort/tallysort/cli/Bench$Rounds", "jdkRunsIn", "(J)Z"⟩
theorem pl5 : plainFor own_y5 = true := plainFor_of_name (by first | (simp [plainName, overriddenIn]; done) | decide +kernel)
def B5_0_1 : List (Instr × Nat) := [(.aload_n 0, 1)]
theorem B5_0_1d : own_d prog_76_method_3_code 0 B5_0_1 1 = true := by decide +kernel
theorem d5_1 : decode prog_76_method_3_code 1 = .ok (.getfield 21, 3) := by decide +kernel
def B5_4_6 : List (Instr × Nat) := [(.i2l, 1), (.aload_n 0, 1)]
theorem B5_4_6d : own_d prog_76_method_3_code 4 B5_4_6 6 = true := by decide +kernel
theorem d5_6 : decode prog_76_method_3_code 6 = .ok (.getfield 25, 3) := by decide +kernel
def B5_9_18 : List (Instr × Nat) := [(.i2l, 1), (.ladd, 1), (.lconst 1, 1), (.lsub, 1), (.lload_n 1, 1), (.lsub, 1), (.lstore_n 3, 1), (.lload_n 1, 1), (.aload_n 0, 1)]
theorem B5_9_18d : own_d prog_76_method_3_code 9 B5_9_18 18 = true := by decide +kernel
theorem d5_18 : decode prog_76_method_3_code 18 = .ok (.getfield 21, 3) := by decide +kernel
def B5_21_22 : List (Instr × Nat) := [(.i2l, 1)]
theorem B5_21_22d : own_d prog_76_method_3_code 21 B5_21_22 22 = true := by decide +kernel
theorem d5_22 : decode prog_76_method_3_code 22 = .ok (.lcmp, 1) := by decide +kernel
theorem d5_23 : decode prog_76_method_3_code 23 = .ok (.ifCond .lt 25, 3) := by decide +kernel
def B5_48_49 : List (Instr × Nat) := [(.iconst 1, 1)]
theorem B5_48_49d : own_d prog_76_method_3_code 48 B5_48_49 49 = true := by decide +kernel
theorem d5_49 : decode prog_76_method_3_code 49 = .ok (.goto 4, 3) := by decide +kernel
theorem d5_53 : decode prog_76_method_3_code 53 = .ok (.ireturn, 1) := by decide +kernel
def B5_26_28 : List (Instr × Nat) := [(.lload_n 3, 1), (.aload_n 0, 1)]
theorem B5_26_28d : own_d prog_76_method_3_code 26 B5_26_28 28 = true := by decide +kernel
theorem d5_28 : decode prog_76_method_3_code 28 = .ok (.getfield 28, 3) := by decide +kernel
def B5_31_34 : List (Instr × Nat) := [(.i2l, 1), (.lmul, 1), (.aload_n 0, 1)]
theorem B5_31_34d : own_d prog_76_method_3_code 31 B5_31_34 34 = true := by decide +kernel
theorem d5_34 : decode prog_76_method_3_code 34 = .ok (.getfield 25, 3) := by decide +kernel
def B5_37_38 : List (Instr × Nat) := [(.i2l, 1)]
theorem B5_37_38d : own_d prog_76_method_3_code 37 B5_37_38 38 = true := by decide +kernel
theorem d5_38 : decode prog_76_method_3_code 38 = .ok (.lrem, 1) := by decide +kernel
def B5_39_40 : List (Instr × Nat) := [(.aload_n 0, 1)]
theorem B5_39_40d : own_d prog_76_method_3_code 39 B5_39_40 40 = true := by decide +kernel
theorem d5_40 : decode prog_76_method_3_code 40 = .ok (.getfield 28, 3) := by decide +kernel
def B5_43_44 : List (Instr × Nat) := [(.i2l, 1)]
theorem B5_43_44d : own_d prog_76_method_3_code 43 B5_43_44 44 = true := by decide +kernel
theorem d5_44 : decode prog_76_method_3_code 44 = .ok (.lcmp, 1) := by decide +kernel
theorem d5_45 : decode prog_76_method_3_code 45 = .ok (.ifCond .ge 7, 3) := by decide +kernel
def B5_52_53 : List (Instr × Nat) := [(.iconst 0, 1)]
theorem B5_52_53d : own_d prog_76_method_3_code 52 B5_52_53 53 = true := by decide +kernel
set_option maxRecDepth 65536 in
set_option maxHeartbeats 40000000 in
theorem c_runs (l : Launch) (Z : State) (a0 : Array Value) (hw : ∀ d ∈ tables_1, d.before a0 Z = true) (a : Addr) (r : Int64) (f0 f1 f2 : Int32) (h0 : Heap) (n0 : Nat) (Z0 : n0 ≤ h0.size) (H1 : 1 ≤ f1.toInt) (P0 : Fld Z h0 a "com/example/tallysort/tallysort/cli/Bench$Rounds" "warmup" "I" (.int f0)) (P1 : Fld Z h0 a "com/example/tallysort/tallysort/cli/Bench$Rounds" "measured" "I" (.int f1)) (P2 : Fld Z h0 a "com/example/tallysort/tallysort/cli/Bench$Rounds" "jdkMeasured" "I" (.int f2)) :
    own_C l Z own_y5 prog_76_method_3_code 5 (some .boolean) ({ frames := 0, cells := 0, slots := 0, locals := 0 } : Room) #[(.ref a), (.long r)] h0 n0 (fun v h => v = some (.int (own_run f0 f1 f2 r)) ∧ h = h0) := by
  refine own_body pl5 Z0 (ls := #[.val (.ref a), .val (.long r), .second, .unset, .unset]) (fun m => by first | (simp [entryFrame, mkF, argsToLocals, Value.category]; done) | rfl) ?_
  intro p e s m below meth c T0 X0
  refine own_blk X0 B5_0_1 B5_0_1d (ls' := #[.val (.ref a), .val (.long r), .second, .unset, .unset]) (st' := [(.ref a)]) rfl ?_
  refine own_getF X0 (hw _ (List.mem_of_getElem? (i := 20) rfl)) P0 d5_1 (fun T1 X1 => ?_)
  refine own_blk X1 B5_4_6 B5_4_6d (ls' := #[.val (.ref a), .val (.long r), .second, .unset, .unset]) (st' := [(.ref a), (.long (f0.toInt64))]) rfl ?_
  refine own_getF X1 (hw _ (List.mem_of_getElem? (i := 22) rfl)) P1 d5_6 (fun T2 X2 => ?_)
  refine own_blk X2 B5_9_18 B5_9_18d (ls' := #[.val (.ref a), .val (.long r), .second, .val (.long ((((f0.toInt64) + (f1.toInt64)) - (1 : Int64)) - r)), .second]) (st' := [(.ref a), (.long r)]) rfl ?_
  refine own_getF X2 (hw _ (List.mem_of_getElem? (i := 20) rfl)) P0 d5_18 (fun T3 X3 => ?_)
  refine own_blk X3 B5_21_22 B5_21_22d (ls' := #[.val (.ref a), .val (.long r), .second, .val (.long ((((f0.toInt64) + (f1.toInt64)) - (1 : Int64)) - r)), .second]) (st' := [(.long (f0.toInt64)), (.long r)]) rfl ?_
  refine own_lif X3 d5_22 d5_23 (pc' := 48) (by decide) (fun c22 => ?_) (fun c22 => ?_)
  · have c22 : r.toInt < (f0.toInt64).toInt := c22
    refine own_blk X3 B5_48_49 B5_48_49d (ls' := #[.val (.ref a), .val (.long r), .second, .val (.long ((((f0.toInt64) + (f1.toInt64)) - (1 : Int64)) - r)), .second]) (st' := [(.int (1 : Int32))]) rfl ?_
    refine own_goto X3 d5_49 (pc' := 53) (by decide) ?_
    exact own_retN X3 (by simp) d5_53 (v' := (1 : Int32)) (rfl) (by decide) (by decide) (⟨by rw [own_run, if_pos (by omega)], rfl⟩)
  · have c22 : ¬ (r.toInt < (f0.toInt64).toInt) := c22
    refine own_blk X3 B5_26_28 B5_26_28d (ls' := #[.val (.ref a), .val (.long r), .second, .val (.long ((((f0.toInt64) + (f1.toInt64)) - (1 : Int64)) - r)), .second]) (st' := [(.ref a), (.long ((((f0.toInt64) + (f1.toInt64)) - (1 : Int64)) - r))]) rfl ?_
    refine own_getF X3 (hw _ (List.mem_of_getElem? (i := 24) rfl)) P2 d5_28 (fun T4 X4 => ?_)
    refine own_blk X4 B5_31_34 B5_31_34d (ls' := #[.val (.ref a), .val (.long r), .second, .val (.long ((((f0.toInt64) + (f1.toInt64)) - (1 : Int64)) - r)), .second]) (st' := [(.ref a), (.long (((((f0.toInt64) + (f1.toInt64)) - (1 : Int64)) - r) * (f2.toInt64)))]) rfl ?_
    refine own_getF X4 (hw _ (List.mem_of_getElem? (i := 22) rfl)) P1 d5_34 (fun T5 X5 => ?_)
    refine own_blk X5 B5_37_38 B5_37_38d (ls' := #[.val (.ref a), .val (.long r), .second, .val (.long ((((f0.toInt64) + (f1.toInt64)) - (1 : Int64)) - r)), .second]) (st' := [(.long (f1.toInt64)), (.long (((((f0.toInt64) + (f1.toInt64)) - (1 : Int64)) - r) * (f2.toInt64)))]) rfl ?_
    refine own_lremS X5 d5_38 (by intro q; have q2 := congrArg Int64.toInt q; rw [Jvm.Kit.i64_of_i32] at q2; simp at q2; omega) ?_
    refine own_blk X5 B5_39_40 B5_39_40d (ls' := #[.val (.ref a), .val (.long r), .second, .val (.long ((((f0.toInt64) + (f1.toInt64)) - (1 : Int64)) - r)), .second]) (st' := [(.ref a), (.long (own_lrem (((((f0.toInt64) + (f1.toInt64)) - (1 : Int64)) - r) * (f2.toInt64)) (f1.toInt64)))]) rfl ?_
    refine own_getF X5 (hw _ (List.mem_of_getElem? (i := 24) rfl)) P2 d5_40 (fun T6 X6 => ?_)
    refine own_blk X6 B5_43_44 B5_43_44d (ls' := #[.val (.ref a), .val (.long r), .second, .val (.long ((((f0.toInt64) + (f1.toInt64)) - (1 : Int64)) - r)), .second]) (st' := [(.long (f2.toInt64)), (.long (own_lrem (((((f0.toInt64) + (f1.toInt64)) - (1 : Int64)) - r) * (f2.toInt64)) (f1.toInt64)))]) rfl ?_
    refine own_lif X6 d5_44 d5_45 (pc' := 52) (by decide) (fun c44 => ?_) (fun c44 => ?_)
    · have c44 : (f2.toInt64).toInt ≤ (own_lrem (((((f0.toInt64) + (f1.toInt64)) - (1 : Int64)) - r) * (f2.toInt64)) (f1.toInt64)).toInt := c44
      refine own_blk X6 B5_52_53 B5_52_53d (ls' := #[.val (.ref a), .val (.long r), .second, .val (.long ((((f0.toInt64) + (f1.toInt64)) - (1 : Int64)) - r)), .second]) (st' := [(.int (0 : Int32))]) rfl ?_
      exact own_retN X6 (by simp) d5_53 (v' := (0 : Int32)) (rfl) (by decide) (by decide) (⟨by rw [own_run, if_neg (by omega)], rfl⟩)
    · have c44 : ¬ ((f2.toInt64).toInt ≤ (own_lrem (((((f0.toInt64) + (f1.toInt64)) - (1 : Int64)) - r) * (f2.toInt64)) (f1.toInt64)).toInt) := c44
      refine own_blk X6 B5_48_49 B5_48_49d (ls' := #[.val (.ref a), .val (.long r), .second, .val (.long ((((f0.toInt64) + (f1.toInt64)) - (1 : Int64)) - r)), .second]) (st' := [(.int (1 : Int32))]) rfl ?_
      refine own_goto X6 d5_49 (pc' := 53) (by decide) ?_
      exact own_retN X6 (by simp) d5_53 (v' := (1 : Int32)) (rfl) (by decide) (by decide) (⟨by rw [own_run, if_pos (by omega)], rfl⟩)
theorem own_l3 {w0 me jd : Int32} {k : Int64} (hW : 0 ≤ w0.toInt) (hM : 1 ≤ me.toInt) (hJ : 1 ≤ jd.toInt) (hJM : jd.toInt ≤ me.toInt) (hK : 0 ≤ k.toInt) (hKM : k.toInt < me.toInt) :
    (w0.toInt64 + me.toInt64 - 1 - k).toInt = w0.toInt + me.toInt - 1 - k.toInt ∧ (k * jd.toInt64).toInt = k.toInt * jd.toInt ∧ 0 ≤ k.toInt * jd.toInt ∧ k.toInt * jd.toInt < 4611686018427387904 ∧ (w0.toInt64 + me.toInt64 - 1).toInt = w0.toInt + me.toInt - 1 := by
  have b1 := w0.toInt_lt
  have b2 := me.toInt_lt
  have b3 := jd.toInt_lt
  have e1 := Jvm.Kit.i64_of_i32 w0
  have e2 := Jvm.Kit.i64_of_i32 me
  have e3 := Jvm.Kit.i64_of_i32 jd
  have s1 : (w0.toInt64 + me.toInt64).toInt = w0.toInt + me.toInt := by rw [Jvm.Kit.i64_add (by omega) (by omega), e1, e2]
  have s2 : (w0.toInt64 + me.toInt64 - 1).toInt = w0.toInt + me.toInt - 1 := by
    rw [Jvm.Kit.i64_sub (by rw [s1]; show _ ≤ _ - (1 : Int); omega) (by rw [s1]; show _ - (1 : Int) < _; omega), s1]; rfl
  have s3 : (w0.toInt64 + me.toInt64 - 1 - k).toInt = w0.toInt + me.toInt - 1 - k.toInt := by rw [Jvm.Kit.i64_sub (by omega) (by omega), s2]
  have m1 : 0 ≤ k.toInt * jd.toInt := Int.mul_nonneg hK (by omega)
  have m2 : k.toInt * jd.toInt ≤ 2147483647 * 2147483647 := Int.mul_le_mul (by omega) (by omega) (by omega) (by omega)
  refine ⟨s3, ?_, m1, by omega, s2⟩
  rw [Jvm.Kit.i64_mul (by rw [e3]; omega) (by rw [e3]; omega), e3]
theorem own_mid {w0 me jd : Int32} {k : Int64} (hW : 0 ≤ w0.toInt) (hM : 1 ≤ me.toInt) (hJ : 1 ≤ jd.toInt) (hJM : jd.toInt ≤ me.toInt) (hK : 0 ≤ k.toInt) (hKM : k.toInt < me.toInt) :
    ((own_run w0 me jd (w0.toInt64 + me.toInt64 - 1 - k)).toInt = 1 ↔ k.toInt = ((((((k * jd.toInt64) / me.toInt64) * me.toInt64) + jd.toInt64) - 1) / jd.toInt64).toInt) ∧ (own_run w0 me jd (w0.toInt64 + me.toInt64 - 1)).toInt = 1 := by
  obtain ⟨s1, s2, s3, s4, s5⟩ := own_l3 hW hM hJ hJM hK hKM
  have b1 := w0.toInt_lt
  have b2 := me.toInt_lt
  have b3 := jd.toInt_lt
  have e1 := Jvm.Kit.i64_of_i32 w0
  have e2 := Jvm.Kit.i64_of_i32 me
  have e3 := Jvm.Kit.i64_of_i32 jd
  have a1 : (w0.toInt64 + me.toInt64 - 1 - (w0.toInt64 + me.toInt64 - 1 - k)) = k := by
    apply Int64.toInt_inj.mp
    rw [Jvm.Kit.i64_sub (by omega) (by omega)]; omega
  have a2 : (w0.toInt64 + me.toInt64 - 1 - (w0.toInt64 + me.toInt64 - 1)) = 0 := by
    apply Int64.toInt_inj.mp
    rw [Jvm.Kit.i64_sub (by omega) (by omega)]; simp
  refine ⟨?_, ?_⟩
  · rw [own_run_01, a1, own_lrem_pos (by omega), s1, s2, e1, e2, e3]
    have d1 : ((k * jd.toInt64) / me.toInt64).toInt = k.toInt * jd.toInt / me.toInt := by rw [own_ldiv_pos (by omega), s2, e2]
    have h1 := Int.mul_ediv_add_emod (k.toInt * jd.toInt) me.toInt
    have h2 := Int.emod_nonneg (k.toInt * jd.toInt) (show me.toInt ≠ 0 by omega)
    have h2' := Int.emod_lt_of_pos (k.toInt * jd.toInt) (show 0 < me.toInt by omega)
    have h3 : 0 ≤ k.toInt * jd.toInt / me.toInt := Int.ediv_nonneg s3 (by omega)
    have pl := own_plan (K := k.toInt) (J := jd.toInt) (M := me.toInt) hK hJ hM
    have h4 : 0 ≤ k.toInt * jd.toInt / me.toInt * me.toInt := Int.mul_nonneg h3 (by omega)
    rw [Int.mul_comm me.toInt] at h1
    have d2 : (((k * jd.toInt64) / me.toInt64) * me.toInt64).toInt = k.toInt * jd.toInt / me.toInt * me.toInt := by rw [Jvm.Kit.i64_mul (by rw [d1, e2]; omega) (by rw [d1, e2]; omega), d1, e2]
    have d3 : ((((k * jd.toInt64) / me.toInt64) * me.toInt64) + jd.toInt64).toInt = k.toInt * jd.toInt / me.toInt * me.toInt + jd.toInt := by rw [Jvm.Kit.i64_add (by rw [d2, e3]; omega) (by rw [d2, e3]; omega), d2, e3]
    have d4 : (((((k * jd.toInt64) / me.toInt64) * me.toInt64) + jd.toInt64) - 1).toInt = k.toInt * jd.toInt / me.toInt * me.toInt + jd.toInt - 1 := by
      rw [Jvm.Kit.i64_sub (by rw [d3]; show _ ≤ _ - (1 : Int); omega) (by rw [d3]; show _ - (1 : Int) < _; omega), d3]; rfl
    rw [own_ldiv_pos (by omega), d4, e3, pl]
    split <;> omega
  · rw [own_run_01, a2]
    have z : (0 * jd.toInt64) = 0 := by simp
    rw [z, own_lrem_pos (by simp), e3]
    rw [if_pos]
    right
    show (0 : Int) % _ < _
    rw [Int.zero_emod]; omega
theorem own_warm {w0 me jd : Int32} {r : Int64} (h : r.toInt < w0.toInt) : (own_run w0 me jd r).toInt = 1 := by
  rw [own_run_01, if_pos]; left; rw [Jvm.Kit.i64_of_i32]; exact h
theorem pl0 : plainFor x = true := plainFor_of_name (by first | (simp [plainName, overriddenIn]; done) | decide +kernel)
theorem own_modr {a me : Int32} (hM : 1 ≤ me.toInt) : 0 ≤ (own_lrem (a.toInt64 &&& 2147483647) me.toInt64).toInt ∧ (own_lrem (a.toInt64 &&& 2147483647) me.toInt64).toInt < me.toInt := by
  have h1 : (a.toInt64 &&& 2147483647).toInt = a.toInt64.toInt % 2 ^ 31 := Jvm.Kit.i64_mask _ _ (by decide) (by decide)
  rw [own_lrem_pos (by omega), Jvm.Kit.i64_of_i32 me]
  exact ⟨Int.emod_nonneg _ (by omega), Int.emod_lt_of_pos _ (by omega)⟩
def B0_0_1 : List (Instr × Nat) := [(.iload_n 0, 1)]
theorem B0_0_1d : own_d code 0 B0_0_1 1 = true := by decide +kernel
theorem d0_1 : decode code 1 = .ok (.ldc 7, 2) := by decide +kernel
def B0_3_6 : List (Instr × Nat) := [(.iand, 1), (.istore 5, 2)]
theorem B0_3_6d : own_d code 3 B0_3_6 6 = true := by decide +kernel
def B0_6_8 : List (Instr × Nat) := [(.iconst 1, 1), (.iload_n 1, 1)]
theorem B0_6_8d : own_d code 6 B0_6_8 8 = true := by decide +kernel
theorem d0_8 : decode code 8 = .ok (.ldc 7, 2) := by decide +kernel
def B0_10_11 : List (Instr × Nat) := [(.iand, 1)]
theorem B0_10_11d : own_d code 10 B0_10_11 11 = true := by decide +kernel
theorem d0_11 : decode code 11 = .ok (.invokestatic 8, 3) := by decide +kernel
theorem pd1 : parseMethodDescriptor "(II)I" = some ⟨[.int, .int], some .int⟩ := by decide +kernel
def B0_14_16 : List (Instr × Nat) := [(.istore 6, 2)]
theorem B0_14_16d : own_d code 14 B0_14_16 16 = true := by decide +kernel
def B0_16_19 : List (Instr × Nat) := [(.iconst 1, 1), (.iload_n 2, 1), (.i2l, 1)]
theorem B0_16_19d : own_d code 16 B0_16_19 19 = true := by decide +kernel
theorem d0_19 : decode code 19 = .ok (.ldc2_w 14, 3) := by decide +kernel
def B0_22_26 : List (Instr × Nat) := [(.land, 1), (.iload 6, 2), (.i2l, 1)]
theorem B0_22_26d : own_d code 22 B0_22_26 26 = true := by decide +kernel
theorem d0_26 : decode code 26 = .ok (.lrem, 1) := by decide +kernel
def B0_27_31 : List (Instr × Nat) := [(.l2i, 1), (.iadd, 1), (.istore 7, 2)]
theorem B0_27_31d : own_d code 27 B0_27_31 31 = true := by decide +kernel
def B0_31_33 : List (Instr × Nat) := [(.iload_n 3, 1), (.i2l, 1)]
theorem B0_31_33d : own_d code 31 B0_31_33 33 = true := by decide +kernel
theorem d0_33 : decode code 33 = .ok (.ldc2_w 14, 3) := by decide +kernel
def B0_36_40 : List (Instr × Nat) := [(.land, 1), (.iload 6, 2), (.i2l, 1)]
theorem B0_36_40d : own_d code 36 B0_36_40 40 = true := by decide +kernel
theorem d0_40 : decode code 40 = .ok (.lrem, 1) := by decide +kernel
def B0_41_43 : List (Instr × Nat) := [(.lstore 8, 2)]
theorem B0_41_43d : own_d code 41 B0_41_43 43 = true := by decide +kernel
theorem d0_43 : decode code 43 = .ok (.new 16, 3) := by decide +kernel
def B0_46_53 : List (Instr × Nat) := [(.dup, 1), (.iload 5, 2), (.iload 6, 2), (.iload 7, 2)]
theorem B0_46_53d : own_d code 46 B0_46_53 53 = true := by decide +kernel
theorem d0_53 : decode code 53 = .ok (.invokespecial 18, 3) := by decide +kernel
theorem pd2 : parseMethodDescriptor "(III)V" = some ⟨[.int, .int, .int], none⟩ := by decide +kernel
def B0_56_81 : List (Instr × Nat) := [(.astore 10, 2), (.iload 5, 2), (.i2l, 1), (.iload 6, 2), (.i2l, 1), (.ladd, 1), (.lconst 1, 1), (.lsub, 1), (.lload 8, 2), (.lsub, 1), (.lstore 11, 2), (.lload 8, 2), (.iload 7, 2), (.i2l, 1), (.lmul, 1), (.iload 6, 2), (.i2l, 1)]
theorem B0_56_81d : own_d code 56 B0_56_81 81 = true := by decide +kernel
theorem d0_81 : decode code 81 = .ok (.ldiv, 1) := by decide +kernel
def B0_82_99 : List (Instr × Nat) := [(.lstore 13, 2), (.lload 13, 2), (.iload 6, 2), (.i2l, 1), (.lmul, 1), (.iload 7, 2), (.i2l, 1), (.ladd, 1), (.lconst 1, 1), (.lsub, 1), (.iload 7, 2), (.i2l, 1)]
theorem B0_82_99d : own_d code 82 B0_82_99 99 = true := by decide +kernel
theorem d0_99 : decode code 99 = .ok (.ldiv, 1) := by decide +kernel
def B0_100_106 : List (Instr × Nat) := [(.lstore 15, 2), (.lload 8, 2), (.lload 15, 2)]
theorem B0_100_106d : own_d code 100 B0_100_106 106 = true := by decide +kernel
theorem d0_106 : decode code 106 = .ok (.lcmp, 1) := by decide +kernel
theorem d0_107 : decode code 107 = .ok (.ifCond .ne 7, 3) := by decide +kernel
def B0_114_121 : List (Instr × Nat) := [(.iconst 0, 1), (.istore 17, 2), (.aload 10, 2), (.lload 11, 2)]
theorem B0_114_121d : own_d code 114 B0_114_121 121 = true := by decide +kernel
theorem d0_121 : decode code 121 = .ok (.invokevirtual 21, 3) := by decide +kernel
theorem pd5 : parseMethodDescriptor "(J)Z" = some ⟨[.long], some .boolean⟩ := by decide +kernel
def B0_124_126 : List (Instr × Nat) := [(.iload 17, 2)]
theorem B0_124_126d : own_d code 124 B0_124_126 126 = true := by decide +kernel
theorem d0_126 : decode code 126 = .ok (.if_icmp .ne 7, 3) := by decide +kernel
def B0_129_130 : List (Instr × Nat) := [(.iconst 1, 1)]
theorem B0_129_130d : own_d code 129 B0_129_130 130 = true := by decide +kernel
theorem d0_130 : decode code 130 = .ok (.goto 4, 3) := by decide +kernel
def B0_134_141 : List (Instr × Nat) := [(.istore 18, 2), (.iconst 1, 1), (.istore 19, 2), (.iload 5, 2)]
theorem B0_134_141d : own_d code 134 B0_134_141 141 = true := by decide +kernel
theorem d0_141 : decode code 141 = .ok (.ifCond .le 25, 3) := by decide +kernel
def B0_166_177 : List (Instr × Nat) := [(.aload 10, 2), (.iload 5, 2), (.i2l, 1), (.iload 6, 2), (.i2l, 1), (.ladd, 1), (.lconst 1, 1), (.lsub, 1)]
theorem B0_166_177d : own_d code 166 B0_166_177 177 = true := by decide +kernel
theorem d0_177 : decode code 177 = .ok (.invokevirtual 21, 3) := by decide +kernel
def B0_180_184 : List (Instr × Nat) := [(.istore 20, 2), (.iload 18, 2)]
theorem B0_180_184d : own_d code 180 B0_180_184 184 = true := by decide +kernel
theorem d0_184 : decode code 184 = .ok (.ifCond .eq 17, 3) := by decide +kernel
def B0_187_189 : List (Instr × Nat) := [(.iload 19, 2)]
theorem B0_187_189d : own_d code 187 B0_187_189 189 = true := by decide +kernel
theorem d0_189 : decode code 189 = .ok (.ifCond .eq 12, 3) := by decide +kernel
def B0_192_194 : List (Instr × Nat) := [(.iload 20, 2)]
theorem B0_192_194d : own_d code 192 B0_192_194 194 = true := by decide +kernel
theorem d0_194 : decode code 194 = .ok (.ifCond .eq 7, 3) := by decide +kernel
def B0_197_198 : List (Instr × Nat) := [(.iconst 1, 1)]
theorem B0_197_198d : own_d code 197 B0_197_198 198 = true := by decide +kernel
theorem d0_198 : decode code 198 = .ok (.goto 4, 3) := by decide +kernel
theorem d0_202 : decode code 202 = .ok (.ireturn, 1) := by decide +kernel
def B0_144_147 : List (Instr × Nat) := [(.iload 4, 2), (.i2l, 1)]
theorem B0_144_147d : own_d code 144 B0_144_147 147 = true := by decide +kernel
theorem d0_147 : decode code 147 = .ok (.ldc2_w 14, 3) := by decide +kernel
def B0_150_154 : List (Instr × Nat) := [(.land, 1), (.iload 5, 2), (.i2l, 1)]
theorem B0_150_154d : own_d code 150 B0_150_154 154 = true := by decide +kernel
theorem d0_154 : decode code 154 = .ok (.lrem, 1) := by decide +kernel
def B0_155_161 : List (Instr × Nat) := [(.lstore 20, 2), (.aload 10, 2), (.lload 20, 2)]
theorem B0_155_161d : own_d code 155 B0_155_161 161 = true := by decide +kernel
theorem d0_161 : decode code 161 = .ok (.invokevirtual 21, 3) := by decide +kernel
def B0_164_177 : List (Instr × Nat) := [(.istore 19, 2), (.aload 10, 2), (.iload 5, 2), (.i2l, 1), (.iload 6, 2), (.i2l, 1), (.ladd, 1), (.lconst 1, 1), (.lsub, 1)]
theorem B0_164_177d : own_d code 164 B0_164_177 177 = true := by decide +kernel
def B0_110_111 : List (Instr × Nat) := [(.iconst 1, 1)]
theorem B0_110_111d : own_d code 110 B0_110_111 111 = true := by decide +kernel
theorem d0_111 : decode code 111 = .ok (.goto 4, 3) := by decide +kernel
def B0_115_121 : List (Instr × Nat) := [(.istore 17, 2), (.aload 10, 2), (.lload 11, 2)]
theorem B0_115_121d : own_d code 115 B0_115_121 121 = true := by decide +kernel
set_option maxRecDepth 65536 in
set_option maxHeartbeats 40000000 in
theorem c_law (l : Launch) (Z : State) (a0 : Array Value) (hw : ∀ d ∈ tables_1, d.before a0 Z = true) (z0 : Int32) (z1 : Int32) (z2 : Int32) (z3 : Int32) (z4 : Int32) (h0 : Heap) (n0 : Nat) (Z0 : n0 ≤ h0.size)  :
    own_C l Z x code maxLocals ret room_1 #[(.int z0), (.int z1), (.int z2), (.int z3), (.int z4)] h0 n0 (fun v h => v = some (.int 1)) := by
  refine own_body pl0 Z0 (ls := #[.val (.int z0), .val (.int z1), .val (.int z2), .val (.int z3), .val (.int z4), .unset, .unset, .unset, .unset, .unset, .unset, .unset, .unset, .unset, .unset, .unset, .unset, .unset, .unset, .unset, .unset, .unset]) (fun m => by first | (simp [entryFrame, mkF, argsToLocals, Value.category, maxLocals]; done) | rfl) ?_
  intro p e s m below meth c T0 X0
  refine own_blk X0 B0_0_1 B0_0_1d (ls' := #[.val (.int z0), .val (.int z1), .val (.int z2), .val (.int z3), .val (.int z4), .unset, .unset, .unset, .unset, .unset, .unset, .unset, .unset, .unset, .unset, .unset, .unset, .unset, .unset, .unset, .unset, .unset]) (st' := [(.int z0)]) rfl ?_
  refine own_ldc X0 (hw _ (List.mem_of_getElem? (i := 0) rfl)) d0_1 ?_
  refine own_blk X0 B0_3_6 B0_3_6d (ls' := #[.val (.int z0), .val (.int z1), .val (.int z2), .val (.int z3), .val (.int z4), .val (.int (z0 &&& (2147483647 : Int32))), .unset, .unset, .unset, .unset, .unset, .unset, .unset, .unset, .unset, .unset, .unset, .unset, .unset, .unset, .unset, .unset]) (st' := []) rfl ?_
  generalize ew0 : (z0 &&& (2147483647 : Int32)) = w0
  have hW : 0 ≤ w0.toInt := by rw [← ew0, own_mask _ _ 31 (by decide) (by decide)]; omega
  refine own_blk X0 B0_6_8 B0_6_8d (ls' := #[.val (.int z0), .val (.int z1), .val (.int z2), .val (.int z3), .val (.int z4), .val (.int w0), .unset, .unset, .unset, .unset, .unset, .unset, .unset, .unset, .unset, .unset, .unset, .unset, .unset, .unset, .unset, .unset]) (st' := [(.int z1), (.int (1 : Int32))]) rfl ?_
  refine own_ldc X0 (hw _ (List.mem_of_getElem? (i := 0) rfl)) d0_8 ?_
  refine own_blk X0 B0_10_11 B0_10_11d (ls' := #[.val (.int z0), .val (.int z1), .val (.int z2), .val (.int z3), .val (.int z4), .val (.int w0), .unset, .unset, .unset, .unset, .unset, .unset, .unset, .unset, .unset, .unset, .unset, .unset, .unset, .unset, .unset, .unset]) (st' := [(.int (z1 &&& (2147483647 : Int32))), (.int (1 : Int32))]) rfl ?_
  refine own_callP X0 (hw _ (List.mem_of_getElem? (i := 1) rfl)) (hw _ (List.mem_of_getElem? (i := 2) rfl)) (hw _ (List.mem_of_getElem? (i := 3) rfl)) (hw _ (List.mem_of_getElem? (i := 4) rfl)) (by decide) (c_max l Z a0 hw (1 : Int32) (z1 &&& (2147483647 : Int32)) h0 n0 X0.2.1) d0_11 [(.int (1 : Int32)), (.int (z1 &&& (2147483647 : Int32)))] [] rfl rfl pd1 rfl rfl (by decide) (Nat.le_of_ble_eq_true rfl) (by decide) (by decide) (fun T1 X1 => ?_)
  show own_G p e below (T1.setTop (mkF m 14 #[.val (.int z0), .val (.int z1), .val (.int z2), .val (.int z3), .val (.int z4), .val (.int w0), .unset, .unset, .unset, .unset, .unset, .unset, .unset, .unset, .unset, .unset, .unset, .unset, .unset, .unset, .unset, .unset] [(.int (own_max (1 : Int32) (z1 &&& (2147483647 : Int32))))])) _
  refine own_blk X1 B0_14_16 B0_14_16d (ls' := #[.val (.int z0), .val (.int z1), .val (.int z2), .val (.int z3), .val (.int z4), .val (.int w0), .val (.int (own_max (1 : Int32) (z1 &&& (2147483647 : Int32)))), .unset, .unset, .unset, .unset, .unset, .unset, .unset, .unset, .unset, .unset, .unset, .unset, .unset, .unset, .unset]) (st' := []) rfl ?_
  generalize eme : (own_max (1 : Int32) (z1 &&& (2147483647 : Int32))) = me
  have hM : 1 ≤ me.toInt := by have e1 : (1 : Int32).toInt = 1 := rfl; rw [← eme]; unfold own_max; split <;> omega
  refine own_blk X1 B0_16_19 B0_16_19d (ls' := #[.val (.int z0), .val (.int z1), .val (.int z2), .val (.int z3), .val (.int z4), .val (.int w0), .val (.int me), .unset, .unset, .unset, .unset, .unset, .unset, .unset, .unset, .unset, .unset, .unset, .unset, .unset, .unset, .unset]) (st' := [(.long (z2.toInt64)), (.int (1 : Int32))]) rfl ?_
  refine own_ldc2 X1 (hw _ (List.mem_of_getElem? (i := 5) rfl)) d0_19 ?_
  refine own_blk X1 B0_22_26 B0_22_26d (ls' := #[.val (.int z0), .val (.int z1), .val (.int z2), .val (.int z3), .val (.int z4), .val (.int w0), .val (.int me), .unset, .unset, .unset, .unset, .unset, .unset, .unset, .unset, .unset, .unset, .unset, .unset, .unset, .unset, .unset]) (st' := [(.long (me.toInt64)), (.long ((z2.toInt64) &&& (2147483647 : Int64))), (.int (1 : Int32))]) rfl ?_
  refine own_lremS X1 d0_26 (by intro q; have q2 := congrArg Int64.toInt q; rw [Jvm.Kit.i64_of_i32] at q2; simp at q2; omega) ?_
  refine own_blk X1 B0_27_31 B0_27_31d (ls' := #[.val (.int z0), .val (.int z1), .val (.int z2), .val (.int z3), .val (.int z4), .val (.int w0), .val (.int me), .val (.int ((1 : Int32) + ((own_lrem ((z2.toInt64) &&& (2147483647 : Int64)) (me.toInt64)).toInt32))), .unset, .unset, .unset, .unset, .unset, .unset, .unset, .unset, .unset, .unset, .unset, .unset, .unset, .unset]) (st' := []) rfl ?_
  generalize ejd : ((1 : Int32) + ((own_lrem ((z2.toInt64) &&& (2147483647 : Int64)) (me.toInt64)).toInt32)) = jd
  have hJ : 1 ≤ jd.toInt ∧ jd.toInt ≤ me.toInt := by
    have b := me.toInt_lt
    have r1 : 0 ≤ (own_lrem (z2.toInt64 &&& 2147483647) me.toInt64).toInt ∧ (own_lrem (z2.toInt64 &&& 2147483647) me.toInt64).toInt < me.toInt := own_modr hM
    have r2 := Jvm.Kit.i32_of_i64 (x := own_lrem (z2.toInt64 &&& 2147483647) me.toInt64) (by omega) (by omega)
    rw [← ejd, Jvm.Kit.i32_add (by rw [r2]; show _ ≤ (1 : Int) + _; omega) (by rw [r2]; show (1 : Int) + _ < _; omega), r2]
    show 1 ≤ (1 : Int) + _ ∧ (1 : Int) + _ ≤ _
    omega
  refine own_blk X1 B0_31_33 B0_31_33d (ls' := #[.val (.int z0), .val (.int z1), .val (.int z2), .val (.int z3), .val (.int z4), .val (.int w0), .val (.int me), .val (.int jd), .unset, .unset, .unset, .unset, .unset, .unset, .unset, .unset, .unset, .unset, .unset, .unset, .unset, .unset]) (st' := [(.long (z3.toInt64))]) rfl ?_
  refine own_ldc2 X1 (hw _ (List.mem_of_getElem? (i := 5) rfl)) d0_33 ?_
  refine own_blk X1 B0_36_40 B0_36_40d (ls' := #[.val (.int z0), .val (.int z1), .val (.int z2), .val (.int z3), .val (.int z4), .val (.int w0), .val (.int me), .val (.int jd), .unset, .unset, .unset, .unset, .unset, .unset, .unset, .unset, .unset, .unset, .unset, .unset, .unset, .unset]) (st' := [(.long (me.toInt64)), (.long ((z3.toInt64) &&& (2147483647 : Int64)))]) rfl ?_
  refine own_lremS X1 d0_40 (by intro q; have q2 := congrArg Int64.toInt q; rw [Jvm.Kit.i64_of_i32] at q2; simp at q2; omega) ?_
  refine own_blk X1 B0_41_43 B0_41_43d (ls' := #[.val (.int z0), .val (.int z1), .val (.int z2), .val (.int z3), .val (.int z4), .val (.int w0), .val (.int me), .val (.int jd), .val (.long (own_lrem ((z3.toInt64) &&& (2147483647 : Int64)) (me.toInt64))), .second, .unset, .unset, .unset, .unset, .unset, .unset, .unset, .unset, .unset, .unset, .unset, .unset]) (st' := []) rfl ?_
  generalize ek : (own_lrem ((z3.toInt64) &&& (2147483647 : Int64)) (me.toInt64)) = k
  have hK : 0 ≤ k.toInt ∧ k.toInt < me.toInt := by rw [← ek]; exact own_modr hM
  refine own_newO X1 (hw _ (List.mem_of_getElem? (i := 6) rfl)) (hw _ (List.mem_of_getElem? (i := 7) rfl)) (hw _ (List.mem_of_getElem? (i := 8) rfl)) d0_43 (by decide) (by decide) (fun h2 T2 X2 E2 Q2 D2 => ?_)
  have n_a : n0 ≤ h0.size := X1.2.1
  have F2_warmup : Fld Z h2 h0.size "com/example/tallysort/tallysort/cli/Bench$Rounds" "warmup" "I" (.int (0 : Int32)) := D2 (Or.inr (hw _ (List.mem_of_getElem? (i := 21) rfl))) (ty := .int) (by decide)
  have F2_measured : Fld Z h2 h0.size "com/example/tallysort/tallysort/cli/Bench$Rounds" "measured" "I" (.int (0 : Int32)) := D2 (Or.inr (hw _ (List.mem_of_getElem? (i := 23) rfl))) (ty := .int) (by decide)
  have F2_jdkMeasured : Fld Z h2 h0.size "com/example/tallysort/tallysort/cli/Bench$Rounds" "jdkMeasured" "I" (.int (0 : Int32)) := D2 (Or.inr (hw _ (List.mem_of_getElem? (i := 25) rfl))) (ty := .int) (by decide)
  clear D2
  generalize ez_a : h0.size = a at Q2 n_a F2_warmup F2_measured F2_jdkMeasured ⊢
  show own_G p e below (T2.setTop (mkF m 46 #[.val (.int z0), .val (.int z1), .val (.int z2), .val (.int z3), .val (.int z4), .val (.int w0), .val (.int me), .val (.int jd), .val (.long k), .second, .unset, .unset, .unset, .unset, .unset, .unset, .unset, .unset, .unset, .unset, .unset, .unset] [(.ref a)])) _
  refine own_blk X2 B0_46_53 B0_46_53d (ls' := #[.val (.int z0), .val (.int z1), .val (.int z2), .val (.int z3), .val (.int z4), .val (.int w0), .val (.int me), .val (.int jd), .val (.long k), .second, .unset, .unset, .unset, .unset, .unset, .unset, .unset, .unset, .unset, .unset, .unset, .unset]) (st' := [(.int jd), (.int me), (.int w0), (.ref a), (.ref a)]) rfl ?_
  refine own_callN X2 rfl (hw _ (List.mem_of_getElem? (i := 9) rfl)) (hw _ (List.mem_of_getElem? (i := 10) rfl)) (hw _ (List.mem_of_getElem? (i := 8) rfl)) (hw _ (List.mem_of_getElem? (i := 11) rfl)) (by decide) (c_init l Z a0 hw a w0 me jd h2 n0 X2.2.1 n_a hW hM hJ.1 hJ.2 Q2 F2_warmup F2_measured F2_jdkMeasured) d0_53 [(.int w0), (.int me), (.int jd)] [(.ref a)] rfl rfl pd2 rfl rfl (by decide) (Nat.le_of_ble_eq_true rfl) (by decide) (by decide) (fun _ _ q => Nat.le_trans X2.2.1 q.2.1.1) (fun v3 h3 T3 X3 q3 => ?_)
  obtain ⟨rfl, K3, Q3, P3_0, P3_1, P3_2⟩ := q3
  show own_G p e below (T3.setTop (mkF m 56 #[.val (.int z0), .val (.int z1), .val (.int z2), .val (.int z3), .val (.int z4), .val (.int w0), .val (.int me), .val (.int jd), .val (.long k), .second, .unset, .unset, .unset, .unset, .unset, .unset, .unset, .unset, .unset, .unset, .unset, .unset] [(.ref a)])) _
  have mid := own_mid hW hM hJ.1 hJ.2 hK.1 hK.2
  have w01 (r : Int64) : (own_run w0 me jd r).toInt = 0 ∨ (own_run w0 me jd r).toInt = 1 := by rw [own_run_01]; split <;> simp
  refine own_blk X3 B0_56_81 B0_56_81d (ls' := #[.val (.int z0), .val (.int z1), .val (.int z2), .val (.int z3), .val (.int z4), .val (.int w0), .val (.int me), .val (.int jd), .val (.long k), .second, .val (.ref a), .val (.long ((((w0.toInt64) + (me.toInt64)) - (1 : Int64)) - k)), .second, .unset, .unset, .unset, .unset, .unset, .unset, .unset, .unset, .unset]) (st' := [(.long (me.toInt64)), (.long (k * (jd.toInt64)))]) rfl ?_
  refine own_ldiv X3 d0_81 (by intro q; have q2 := congrArg Int64.toInt q; rw [Jvm.Kit.i64_of_i32] at q2; simp at q2; omega) ?_
  refine own_blk X3 B0_82_99 B0_82_99d (ls' := #[.val (.int z0), .val (.int z1), .val (.int z2), .val (.int z3), .val (.int z4), .val (.int w0), .val (.int me), .val (.int jd), .val (.long k), .second, .val (.ref a), .val (.long ((((w0.toInt64) + (me.toInt64)) - (1 : Int64)) - k)), .second, .val (.long ((k * (jd.toInt64)) / (me.toInt64))), .second, .unset, .unset, .unset, .unset, .unset, .unset, .unset]) (st' := [(.long (jd.toInt64)), (.long (((((k * (jd.toInt64)) / (me.toInt64)) * (me.toInt64)) + (jd.toInt64)) - (1 : Int64)))]) rfl ?_
  refine own_ldiv X3 d0_99 (by intro q; have q2 := congrArg Int64.toInt q; rw [Jvm.Kit.i64_of_i32] at q2; simp at q2; omega) ?_
  refine own_blk X3 B0_100_106 B0_100_106d (ls' := #[.val (.int z0), .val (.int z1), .val (.int z2), .val (.int z3), .val (.int z4), .val (.int w0), .val (.int me), .val (.int jd), .val (.long k), .second, .val (.ref a), .val (.long ((((w0.toInt64) + (me.toInt64)) - (1 : Int64)) - k)), .second, .val (.long ((k * (jd.toInt64)) / (me.toInt64))), .second, .val (.long ((((((k * (jd.toInt64)) / (me.toInt64)) * (me.toInt64)) + (jd.toInt64)) - (1 : Int64)) / (jd.toInt64))), .second, .unset, .unset, .unset, .unset, .unset]) (st' := [(.long ((((((k * (jd.toInt64)) / (me.toInt64)) * (me.toInt64)) + (jd.toInt64)) - (1 : Int64)) / (jd.toInt64))), (.long k)]) rfl ?_
  refine own_lif X3 d0_106 d0_107 (pc' := 114) (by decide) (fun c106 => ?_) (fun c106 => ?_)
  · have c106 : ¬ k.toInt = ((((((k * (jd.toInt64)) / (me.toInt64)) * (me.toInt64)) + (jd.toInt64)) - (1 : Int64)) / (jd.toInt64)).toInt := c106
    refine own_blk X3 B0_114_121 B0_114_121d (ls' := #[.val (.int z0), .val (.int z1), .val (.int z2), .val (.int z3), .val (.int z4), .val (.int w0), .val (.int me), .val (.int jd), .val (.long k), .second, .val (.ref a), .val (.long ((((w0.toInt64) + (me.toInt64)) - (1 : Int64)) - k)), .second, .val (.long ((k * (jd.toInt64)) / (me.toInt64))), .second, .val (.long ((((((k * (jd.toInt64)) / (me.toInt64)) * (me.toInt64)) + (jd.toInt64)) - (1 : Int64)) / (jd.toInt64))), .second, .val (.int (0 : Int32)), .unset, .unset, .unset, .unset]) (st' := [(.long ((((w0.toInt64) + (me.toInt64)) - (1 : Int64)) - k)), (.ref a)]) rfl ?_
    refine own_callV X3 (hw _ (List.mem_of_getElem? (i := 26) rfl)) (hw _ (List.mem_of_getElem? (i := 27) rfl)) (hw _ (List.mem_of_getElem? (i := 29) rfl)) (hw _ (List.mem_of_getElem? (i := 28) rfl)) (hw _ (List.mem_of_getElem? (i := 8) rfl)) (hw _ (List.mem_of_getElem? (i := 30) rfl)) (by decide) Q3 (c_runs l Z a0 hw a ((((w0.toInt64) + (me.toInt64)) - (1 : Int64)) - k) w0 me jd h3 n0 X3.2.1 hM P3_0 P3_1 P3_2) d0_121 [(.long ((((w0.toInt64) + (me.toInt64)) - (1 : Int64)) - k))] [] rfl rfl pd5 rfl rfl (by decide) (Nat.le_of_ble_eq_true rfl) (by decide) (by decide) (fun _ _ q => by rw [q.2]; exact X3.2.1) (fun v4 h4 T4 X4 q4 => ?_)
    obtain ⟨rfl, e4⟩ := q4
    rw [e4] at X4
    show own_G p e below (T4.setTop (mkF m 124 #[.val (.int z0), .val (.int z1), .val (.int z2), .val (.int z3), .val (.int z4), .val (.int w0), .val (.int me), .val (.int jd), .val (.long k), .second, .val (.ref a), .val (.long ((((w0.toInt64) + (me.toInt64)) - (1 : Int64)) - k)), .second, .val (.long ((k * (jd.toInt64)) / (me.toInt64))), .second, .val (.long ((((((k * (jd.toInt64)) / (me.toInt64)) * (me.toInt64)) + (jd.toInt64)) - (1 : Int64)) / (jd.toInt64))), .second, .val (.int (0 : Int32)), .unset, .unset, .unset, .unset] [(.int (own_run w0 me jd ((((w0.toInt64) + (me.toInt64)) - (1 : Int64)) - k)))])) _
    refine own_blk X4 B0_124_126 B0_124_126d (ls' := #[.val (.int z0), .val (.int z1), .val (.int z2), .val (.int z3), .val (.int z4), .val (.int w0), .val (.int me), .val (.int jd), .val (.long k), .second, .val (.ref a), .val (.long ((((w0.toInt64) + (me.toInt64)) - (1 : Int64)) - k)), .second, .val (.long ((k * (jd.toInt64)) / (me.toInt64))), .second, .val (.long ((((((k * (jd.toInt64)) / (me.toInt64)) * (me.toInt64)) + (jd.toInt64)) - (1 : Int64)) / (jd.toInt64))), .second, .val (.int (0 : Int32)), .unset, .unset, .unset, .unset]) (st' := [(.int (0 : Int32)), (.int (own_run w0 me jd ((((w0.toInt64) + (me.toInt64)) - (1 : Int64)) - k)))]) rfl ?_
    refine own_icmp X4 d0_126 (pc' := 133) (by decide) (fun (c126 : ¬ (own_run w0 me jd ((((w0.toInt64) + (me.toInt64)) - (1 : Int64)) - k)).toInt = 0) => by exfalso; first | exact c126 (by rw [mid.1]; exact Decidable.of_not_not c106) | exact c126 (by rcases w01 (w0.toInt64 + me.toInt64 - 1 - k) with q | q; exact q; exact absurd (mid.1.mp q) c106)) (fun c126 => ?_)
    have c126 : ¬ (¬ (own_run w0 me jd ((((w0.toInt64) + (me.toInt64)) - (1 : Int64)) - k)).toInt = 0) := c126
    refine own_blk X4 B0_129_130 B0_129_130d (ls' := #[.val (.int z0), .val (.int z1), .val (.int z2), .val (.int z3), .val (.int z4), .val (.int w0), .val (.int me), .val (.int jd), .val (.long k), .second, .val (.ref a), .val (.long ((((w0.toInt64) + (me.toInt64)) - (1 : Int64)) - k)), .second, .val (.long ((k * (jd.toInt64)) / (me.toInt64))), .second, .val (.long ((((((k * (jd.toInt64)) / (me.toInt64)) * (me.toInt64)) + (jd.toInt64)) - (1 : Int64)) / (jd.toInt64))), .second, .val (.int (0 : Int32)), .unset, .unset, .unset, .unset]) (st' := [(.int (1 : Int32))]) rfl ?_
    refine own_goto X4 d0_130 (pc' := 134) (by decide) ?_
    refine own_blk X4 B0_134_141 B0_134_141d (ls' := #[.val (.int z0), .val (.int z1), .val (.int z2), .val (.int z3), .val (.int z4), .val (.int w0), .val (.int me), .val (.int jd), .val (.long k), .second, .val (.ref a), .val (.long ((((w0.toInt64) + (me.toInt64)) - (1 : Int64)) - k)), .second, .val (.long ((k * (jd.toInt64)) / (me.toInt64))), .second, .val (.long ((((((k * (jd.toInt64)) / (me.toInt64)) * (me.toInt64)) + (jd.toInt64)) - (1 : Int64)) / (jd.toInt64))), .second, .val (.int (0 : Int32)), .val (.int (1 : Int32)), .val (.int (1 : Int32)), .unset, .unset]) (st' := [(.int w0)]) rfl ?_
    refine own_if X4 d0_141 (pc' := 166) (by decide) (fun c141 => ?_) (fun c141 => ?_)
    · have c141 : w0.toInt ≤ 0 := c141
      refine own_blk X4 B0_166_177 B0_166_177d (ls' := #[.val (.int z0), .val (.int z1), .val (.int z2), .val (.int z3), .val (.int z4), .val (.int w0), .val (.int me), .val (.int jd), .val (.long k), .second, .val (.ref a), .val (.long ((((w0.toInt64) + (me.toInt64)) - (1 : Int64)) - k)), .second, .val (.long ((k * (jd.toInt64)) / (me.toInt64))), .second, .val (.long ((((((k * (jd.toInt64)) / (me.toInt64)) * (me.toInt64)) + (jd.toInt64)) - (1 : Int64)) / (jd.toInt64))), .second, .val (.int (0 : Int32)), .val (.int (1 : Int32)), .val (.int (1 : Int32)), .unset, .unset]) (st' := [(.long (((w0.toInt64) + (me.toInt64)) - (1 : Int64))), (.ref a)]) rfl ?_
      refine own_callV X4 (hw _ (List.mem_of_getElem? (i := 26) rfl)) (hw _ (List.mem_of_getElem? (i := 27) rfl)) (hw _ (List.mem_of_getElem? (i := 29) rfl)) (hw _ (List.mem_of_getElem? (i := 28) rfl)) (hw _ (List.mem_of_getElem? (i := 8) rfl)) (hw _ (List.mem_of_getElem? (i := 30) rfl)) (by decide) Q3 (c_runs l Z a0 hw a (((w0.toInt64) + (me.toInt64)) - (1 : Int64)) w0 me jd h3 n0 X4.2.1 hM P3_0 P3_1 P3_2) d0_177 [(.long (((w0.toInt64) + (me.toInt64)) - (1 : Int64)))] [] rfl rfl pd5 rfl rfl (by decide) (Nat.le_of_ble_eq_true rfl) (by decide) (by decide) (fun _ _ q => by rw [q.2]; exact X4.2.1) (fun v5 h5 T5 X5 q5 => ?_)
      obtain ⟨rfl, e5⟩ := q5
      rw [e5] at X5
      show own_G p e below (T5.setTop (mkF m 180 #[.val (.int z0), .val (.int z1), .val (.int z2), .val (.int z3), .val (.int z4), .val (.int w0), .val (.int me), .val (.int jd), .val (.long k), .second, .val (.ref a), .val (.long ((((w0.toInt64) + (me.toInt64)) - (1 : Int64)) - k)), .second, .val (.long ((k * (jd.toInt64)) / (me.toInt64))), .second, .val (.long ((((((k * (jd.toInt64)) / (me.toInt64)) * (me.toInt64)) + (jd.toInt64)) - (1 : Int64)) / (jd.toInt64))), .second, .val (.int (0 : Int32)), .val (.int (1 : Int32)), .val (.int (1 : Int32)), .unset, .unset] [(.int (own_run w0 me jd (((w0.toInt64) + (me.toInt64)) - (1 : Int64))))])) _
      refine own_blk X5 B0_180_184 B0_180_184d (ls' := #[.val (.int z0), .val (.int z1), .val (.int z2), .val (.int z3), .val (.int z4), .val (.int w0), .val (.int me), .val (.int jd), .val (.long k), .second, .val (.ref a), .val (.long ((((w0.toInt64) + (me.toInt64)) - (1 : Int64)) - k)), .second, .val (.long ((k * (jd.toInt64)) / (me.toInt64))), .second, .val (.long ((((((k * (jd.toInt64)) / (me.toInt64)) * (me.toInt64)) + (jd.toInt64)) - (1 : Int64)) / (jd.toInt64))), .second, .val (.int (0 : Int32)), .val (.int (1 : Int32)), .val (.int (1 : Int32)), .val (.int (own_run w0 me jd (((w0.toInt64) + (me.toInt64)) - (1 : Int64)))), .unset]) (st' := [(.int (1 : Int32))]) rfl ?_
      refine own_if X5 d0_184 (pc' := 201) (by decide) (fun (c184 : (1 : Int) = 0) => by exfalso; simp at c184) (fun c184 => ?_)
      have c184 : ¬ ((1 : Int) = 0) := c184
      refine own_blk X5 B0_187_189 B0_187_189d (ls' := #[.val (.int z0), .val (.int z1), .val (.int z2), .val (.int z3), .val (.int z4), .val (.int w0), .val (.int me), .val (.int jd), .val (.long k), .second, .val (.ref a), .val (.long ((((w0.toInt64) + (me.toInt64)) - (1 : Int64)) - k)), .second, .val (.long ((k * (jd.toInt64)) / (me.toInt64))), .second, .val (.long ((((((k * (jd.toInt64)) / (me.toInt64)) * (me.toInt64)) + (jd.toInt64)) - (1 : Int64)) / (jd.toInt64))), .second, .val (.int (0 : Int32)), .val (.int (1 : Int32)), .val (.int (1 : Int32)), .val (.int (own_run w0 me jd (((w0.toInt64) + (me.toInt64)) - (1 : Int64)))), .unset]) (st' := [(.int (1 : Int32))]) rfl ?_
      refine own_if X5 d0_189 (pc' := 201) (by decide) (fun (c189 : (1 : Int) = 0) => by exfalso; first | (simp at c189; done) | (rw [own_warm] at c189; simp at c189; rw [own_lrem_pos (by rw [Jvm.Kit.i64_mask _ _ (k := 31) (by decide) (by decide)]; omega), Jvm.Kit.i64_of_i32]; exact Int.emod_lt_of_pos _ (by omega))) (fun c189 => ?_)
      have c189 : ¬ ((1 : Int) = 0) := c189
      refine own_blk X5 B0_192_194 B0_192_194d (ls' := #[.val (.int z0), .val (.int z1), .val (.int z2), .val (.int z3), .val (.int z4), .val (.int w0), .val (.int me), .val (.int jd), .val (.long k), .second, .val (.ref a), .val (.long ((((w0.toInt64) + (me.toInt64)) - (1 : Int64)) - k)), .second, .val (.long ((k * (jd.toInt64)) / (me.toInt64))), .second, .val (.long ((((((k * (jd.toInt64)) / (me.toInt64)) * (me.toInt64)) + (jd.toInt64)) - (1 : Int64)) / (jd.toInt64))), .second, .val (.int (0 : Int32)), .val (.int (1 : Int32)), .val (.int (1 : Int32)), .val (.int (own_run w0 me jd (((w0.toInt64) + (me.toInt64)) - (1 : Int64)))), .unset]) (st' := [(.int (own_run w0 me jd (((w0.toInt64) + (me.toInt64)) - (1 : Int64))))]) rfl ?_
      refine own_if X5 d0_194 (pc' := 201) (by decide) (fun (c194 : (own_run w0 me jd (((w0.toInt64) + (me.toInt64)) - (1 : Int64))).toInt = 0) => by exfalso; rw [mid.2] at c194; simp at c194) (fun c194 => ?_)
      have c194 : ¬ ((own_run w0 me jd (((w0.toInt64) + (me.toInt64)) - (1 : Int64))).toInt = 0) := c194
      refine own_blk X5 B0_197_198 B0_197_198d (ls' := #[.val (.int z0), .val (.int z1), .val (.int z2), .val (.int z3), .val (.int z4), .val (.int w0), .val (.int me), .val (.int jd), .val (.long k), .second, .val (.ref a), .val (.long ((((w0.toInt64) + (me.toInt64)) - (1 : Int64)) - k)), .second, .val (.long ((k * (jd.toInt64)) / (me.toInt64))), .second, .val (.long ((((((k * (jd.toInt64)) / (me.toInt64)) * (me.toInt64)) + (jd.toInt64)) - (1 : Int64)) / (jd.toInt64))), .second, .val (.int (0 : Int32)), .val (.int (1 : Int32)), .val (.int (1 : Int32)), .val (.int (own_run w0 me jd (((w0.toInt64) + (me.toInt64)) - (1 : Int64)))), .unset]) (st' := [(.int (1 : Int32))]) rfl ?_
      refine own_goto X5 d0_198 (pc' := 202) (by decide) ?_
      exact own_retN X5 (by simp) d0_202 (v' := (1 : Int32)) (rfl) (by decide) (by decide) (rfl)
    · have c141 : ¬ (w0.toInt ≤ 0) := c141
      refine own_blk X4 B0_144_147 B0_144_147d (ls' := #[.val (.int z0), .val (.int z1), .val (.int z2), .val (.int z3), .val (.int z4), .val (.int w0), .val (.int me), .val (.int jd), .val (.long k), .second, .val (.ref a), .val (.long ((((w0.toInt64) + (me.toInt64)) - (1 : Int64)) - k)), .second, .val (.long ((k * (jd.toInt64)) / (me.toInt64))), .second, .val (.long ((((((k * (jd.toInt64)) / (me.toInt64)) * (me.toInt64)) + (jd.toInt64)) - (1 : Int64)) / (jd.toInt64))), .second, .val (.int (0 : Int32)), .val (.int (1 : Int32)), .val (.int (1 : Int32)), .unset, .unset]) (st' := [(.long (z4.toInt64))]) rfl ?_
      refine own_ldc2 X4 (hw _ (List.mem_of_getElem? (i := 5) rfl)) d0_147 ?_
      refine own_blk X4 B0_150_154 B0_150_154d (ls' := #[.val (.int z0), .val (.int z1), .val (.int z2), .val (.int z3), .val (.int z4), .val (.int w0), .val (.int me), .val (.int jd), .val (.long k), .second, .val (.ref a), .val (.long ((((w0.toInt64) + (me.toInt64)) - (1 : Int64)) - k)), .second, .val (.long ((k * (jd.toInt64)) / (me.toInt64))), .second, .val (.long ((((((k * (jd.toInt64)) / (me.toInt64)) * (me.toInt64)) + (jd.toInt64)) - (1 : Int64)) / (jd.toInt64))), .second, .val (.int (0 : Int32)), .val (.int (1 : Int32)), .val (.int (1 : Int32)), .unset, .unset]) (st' := [(.long (w0.toInt64)), (.long ((z4.toInt64) &&& (2147483647 : Int64)))]) rfl ?_
      refine own_lremS X4 d0_154 (by intro q; have q2 := congrArg Int64.toInt q; rw [Jvm.Kit.i64_of_i32] at q2; simp at q2; omega) ?_
      refine own_blk X4 B0_155_161 B0_155_161d (ls' := #[.val (.int z0), .val (.int z1), .val (.int z2), .val (.int z3), .val (.int z4), .val (.int w0), .val (.int me), .val (.int jd), .val (.long k), .second, .val (.ref a), .val (.long ((((w0.toInt64) + (me.toInt64)) - (1 : Int64)) - k)), .second, .val (.long ((k * (jd.toInt64)) / (me.toInt64))), .second, .val (.long ((((((k * (jd.toInt64)) / (me.toInt64)) * (me.toInt64)) + (jd.toInt64)) - (1 : Int64)) / (jd.toInt64))), .second, .val (.int (0 : Int32)), .val (.int (1 : Int32)), .val (.int (1 : Int32)), .val (.long (own_lrem ((z4.toInt64) &&& (2147483647 : Int64)) (w0.toInt64))), .second]) (st' := [(.long (own_lrem ((z4.toInt64) &&& (2147483647 : Int64)) (w0.toInt64))), (.ref a)]) rfl ?_
      refine own_callV X4 (hw _ (List.mem_of_getElem? (i := 26) rfl)) (hw _ (List.mem_of_getElem? (i := 27) rfl)) (hw _ (List.mem_of_getElem? (i := 29) rfl)) (hw _ (List.mem_of_getElem? (i := 28) rfl)) (hw _ (List.mem_of_getElem? (i := 8) rfl)) (hw _ (List.mem_of_getElem? (i := 30) rfl)) (by decide) Q3 (c_runs l Z a0 hw a (own_lrem ((z4.toInt64) &&& (2147483647 : Int64)) (w0.toInt64)) w0 me jd h3 n0 X4.2.1 hM P3_0 P3_1 P3_2) d0_161 [(.long (own_lrem ((z4.toInt64) &&& (2147483647 : Int64)) (w0.toInt64)))] [] rfl rfl pd5 rfl rfl (by decide) (Nat.le_of_ble_eq_true rfl) (by decide) (by decide) (fun _ _ q => by rw [q.2]; exact X4.2.1) (fun v6 h6 T6 X6 q6 => ?_)
      obtain ⟨rfl, e6⟩ := q6
      rw [e6] at X6
      show own_G p e below (T6.setTop (mkF m 164 #[.val (.int z0), .val (.int z1), .val (.int z2), .val (.int z3), .val (.int z4), .val (.int w0), .val (.int me), .val (.int jd), .val (.long k), .second, .val (.ref a), .val (.long ((((w0.toInt64) + (me.toInt64)) - (1 : Int64)) - k)), .second, .val (.long ((k * (jd.toInt64)) / (me.toInt64))), .second, .val (.long ((((((k * (jd.toInt64)) / (me.toInt64)) * (me.toInt64)) + (jd.toInt64)) - (1 : Int64)) / (jd.toInt64))), .second, .val (.int (0 : Int32)), .val (.int (1 : Int32)), .val (.int (1 : Int32)), .val (.long (own_lrem ((z4.toInt64) &&& (2147483647 : Int64)) (w0.toInt64))), .second] [(.int (own_run w0 me jd (own_lrem ((z4.toInt64) &&& (2147483647 : Int64)) (w0.toInt64))))])) _
      refine own_blk X6 B0_164_177 B0_164_177d (ls' := #[.val (.int z0), .val (.int z1), .val (.int z2), .val (.int z3), .val (.int z4), .val (.int w0), .val (.int me), .val (.int jd), .val (.long k), .second, .val (.ref a), .val (.long ((((w0.toInt64) + (me.toInt64)) - (1 : Int64)) - k)), .second, .val (.long ((k * (jd.toInt64)) / (me.toInt64))), .second, .val (.long ((((((k * (jd.toInt64)) / (me.toInt64)) * (me.toInt64)) + (jd.toInt64)) - (1 : Int64)) / (jd.toInt64))), .second, .val (.int (0 : Int32)), .val (.int (1 : Int32)), .val (.int (own_run w0 me jd (own_lrem ((z4.toInt64) &&& (2147483647 : Int64)) (w0.toInt64)))), .val (.long (own_lrem ((z4.toInt64) &&& (2147483647 : Int64)) (w0.toInt64))), .second]) (st' := [(.long (((w0.toInt64) + (me.toInt64)) - (1 : Int64))), (.ref a)]) rfl ?_
      refine own_callV X6 (hw _ (List.mem_of_getElem? (i := 26) rfl)) (hw _ (List.mem_of_getElem? (i := 27) rfl)) (hw _ (List.mem_of_getElem? (i := 29) rfl)) (hw _ (List.mem_of_getElem? (i := 28) rfl)) (hw _ (List.mem_of_getElem? (i := 8) rfl)) (hw _ (List.mem_of_getElem? (i := 30) rfl)) (by decide) Q3 (c_runs l Z a0 hw a (((w0.toInt64) + (me.toInt64)) - (1 : Int64)) w0 me jd h3 n0 X6.2.1 hM P3_0 P3_1 P3_2) d0_177 [(.long (((w0.toInt64) + (me.toInt64)) - (1 : Int64)))] [] rfl rfl pd5 rfl rfl (by decide) (Nat.le_of_ble_eq_true rfl) (by decide) (by decide) (fun _ _ q => by rw [q.2]; exact X6.2.1) (fun v7 h7 T7 X7 q7 => ?_)
      obtain ⟨rfl, e7⟩ := q7
      rw [e7] at X7
      show own_G p e below (T7.setTop (mkF m 180 #[.val (.int z0), .val (.int z1), .val (.int z2), .val (.int z3), .val (.int z4), .val (.int w0), .val (.int me), .val (.int jd), .val (.long k), .second, .val (.ref a), .val (.long ((((w0.toInt64) + (me.toInt64)) - (1 : Int64)) - k)), .second, .val (.long ((k * (jd.toInt64)) / (me.toInt64))), .second, .val (.long ((((((k * (jd.toInt64)) / (me.toInt64)) * (me.toInt64)) + (jd.toInt64)) - (1 : Int64)) / (jd.toInt64))), .second, .val (.int (0 : Int32)), .val (.int (1 : Int32)), .val (.int (own_run w0 me jd (own_lrem ((z4.toInt64) &&& (2147483647 : Int64)) (w0.toInt64)))), .val (.long (own_lrem ((z4.toInt64) &&& (2147483647 : Int64)) (w0.toInt64))), .second] [(.int (own_run w0 me jd (((w0.toInt64) + (me.toInt64)) - (1 : Int64))))])) _
      refine own_blk X7 B0_180_184 B0_180_184d (ls' := #[.val (.int z0), .val (.int z1), .val (.int z2), .val (.int z3), .val (.int z4), .val (.int w0), .val (.int me), .val (.int jd), .val (.long k), .second, .val (.ref a), .val (.long ((((w0.toInt64) + (me.toInt64)) - (1 : Int64)) - k)), .second, .val (.long ((k * (jd.toInt64)) / (me.toInt64))), .second, .val (.long ((((((k * (jd.toInt64)) / (me.toInt64)) * (me.toInt64)) + (jd.toInt64)) - (1 : Int64)) / (jd.toInt64))), .second, .val (.int (0 : Int32)), .val (.int (1 : Int32)), .val (.int (own_run w0 me jd (own_lrem ((z4.toInt64) &&& (2147483647 : Int64)) (w0.toInt64)))), .val (.int (own_run w0 me jd (((w0.toInt64) + (me.toInt64)) - (1 : Int64)))), .unset]) (st' := [(.int (1 : Int32))]) rfl ?_
      refine own_if X7 d0_184 (pc' := 201) (by decide) (fun (c184 : (1 : Int) = 0) => by exfalso; simp at c184) (fun c184 => ?_)
      have c184 : ¬ ((1 : Int) = 0) := c184
      refine own_blk X7 B0_187_189 B0_187_189d (ls' := #[.val (.int z0), .val (.int z1), .val (.int z2), .val (.int z3), .val (.int z4), .val (.int w0), .val (.int me), .val (.int jd), .val (.long k), .second, .val (.ref a), .val (.long ((((w0.toInt64) + (me.toInt64)) - (1 : Int64)) - k)), .second, .val (.long ((k * (jd.toInt64)) / (me.toInt64))), .second, .val (.long ((((((k * (jd.toInt64)) / (me.toInt64)) * (me.toInt64)) + (jd.toInt64)) - (1 : Int64)) / (jd.toInt64))), .second, .val (.int (0 : Int32)), .val (.int (1 : Int32)), .val (.int (own_run w0 me jd (own_lrem ((z4.toInt64) &&& (2147483647 : Int64)) (w0.toInt64)))), .val (.int (own_run w0 me jd (((w0.toInt64) + (me.toInt64)) - (1 : Int64)))), .unset]) (st' := [(.int (own_run w0 me jd (own_lrem ((z4.toInt64) &&& (2147483647 : Int64)) (w0.toInt64))))]) rfl ?_
      refine own_if X7 d0_189 (pc' := 201) (by decide) (fun (c189 : (own_run w0 me jd (own_lrem ((z4.toInt64) &&& (2147483647 : Int64)) (w0.toInt64))).toInt = 0) => by exfalso; first | (simp at c189; done) | (rw [own_warm] at c189; simp at c189; rw [own_lrem_pos (by rw [Jvm.Kit.i64_mask _ _ (k := 31) (by decide) (by decide)]; omega), Jvm.Kit.i64_of_i32]; exact Int.emod_lt_of_pos _ (by omega))) (fun c189 => ?_)
      have c189 : ¬ ((own_run w0 me jd (own_lrem ((z4.toInt64) &&& (2147483647 : Int64)) (w0.toInt64))).toInt = 0) := c189
      refine own_blk X7 B0_192_194 B0_192_194d (ls' := #[.val (.int z0), .val (.int z1), .val (.int z2), .val (.int z3), .val (.int z4), .val (.int w0), .val (.int me), .val (.int jd), .val (.long k), .second, .val (.ref a), .val (.long ((((w0.toInt64) + (me.toInt64)) - (1 : Int64)) - k)), .second, .val (.long ((k * (jd.toInt64)) / (me.toInt64))), .second, .val (.long ((((((k * (jd.toInt64)) / (me.toInt64)) * (me.toInt64)) + (jd.toInt64)) - (1 : Int64)) / (jd.toInt64))), .second, .val (.int (0 : Int32)), .val (.int (1 : Int32)), .val (.int (own_run w0 me jd (own_lrem ((z4.toInt64) &&& (2147483647 : Int64)) (w0.toInt64)))), .val (.int (own_run w0 me jd (((w0.toInt64) + (me.toInt64)) - (1 : Int64)))), .unset]) (st' := [(.int (own_run w0 me jd (((w0.toInt64) + (me.toInt64)) - (1 : Int64))))]) rfl ?_
      refine own_if X7 d0_194 (pc' := 201) (by decide) (fun (c194 : (own_run w0 me jd (((w0.toInt64) + (me.toInt64)) - (1 : Int64))).toInt = 0) => by exfalso; rw [mid.2] at c194; simp at c194) (fun c194 => ?_)
      have c194 : ¬ ((own_run w0 me jd (((w0.toInt64) + (me.toInt64)) - (1 : Int64))).toInt = 0) := c194
      refine own_blk X7 B0_197_198 B0_197_198d (ls' := #[.val (.int z0), .val (.int z1), .val (.int z2), .val (.int z3), .val (.int z4), .val (.int w0), .val (.int me), .val (.int jd), .val (.long k), .second, .val (.ref a), .val (.long ((((w0.toInt64) + (me.toInt64)) - (1 : Int64)) - k)), .second, .val (.long ((k * (jd.toInt64)) / (me.toInt64))), .second, .val (.long ((((((k * (jd.toInt64)) / (me.toInt64)) * (me.toInt64)) + (jd.toInt64)) - (1 : Int64)) / (jd.toInt64))), .second, .val (.int (0 : Int32)), .val (.int (1 : Int32)), .val (.int (own_run w0 me jd (own_lrem ((z4.toInt64) &&& (2147483647 : Int64)) (w0.toInt64)))), .val (.int (own_run w0 me jd (((w0.toInt64) + (me.toInt64)) - (1 : Int64)))), .unset]) (st' := [(.int (1 : Int32))]) rfl ?_
      refine own_goto X7 d0_198 (pc' := 202) (by decide) ?_
      exact own_retN X7 (by simp) d0_202 (v' := (1 : Int32)) (rfl) (by decide) (by decide) (rfl)
  · have c106 : ¬ (¬ k.toInt = ((((((k * (jd.toInt64)) / (me.toInt64)) * (me.toInt64)) + (jd.toInt64)) - (1 : Int64)) / (jd.toInt64)).toInt) := c106
    refine own_blk X3 B0_110_111 B0_110_111d (ls' := #[.val (.int z0), .val (.int z1), .val (.int z2), .val (.int z3), .val (.int z4), .val (.int w0), .val (.int me), .val (.int jd), .val (.long k), .second, .val (.ref a), .val (.long ((((w0.toInt64) + (me.toInt64)) - (1 : Int64)) - k)), .second, .val (.long ((k * (jd.toInt64)) / (me.toInt64))), .second, .val (.long ((((((k * (jd.toInt64)) / (me.toInt64)) * (me.toInt64)) + (jd.toInt64)) - (1 : Int64)) / (jd.toInt64))), .second, .unset, .unset, .unset, .unset, .unset]) (st' := [(.int (1 : Int32))]) rfl ?_
    refine own_goto X3 d0_111 (pc' := 115) (by decide) ?_
    refine own_blk X3 B0_115_121 B0_115_121d (ls' := #[.val (.int z0), .val (.int z1), .val (.int z2), .val (.int z3), .val (.int z4), .val (.int w0), .val (.int me), .val (.int jd), .val (.long k), .second, .val (.ref a), .val (.long ((((w0.toInt64) + (me.toInt64)) - (1 : Int64)) - k)), .second, .val (.long ((k * (jd.toInt64)) / (me.toInt64))), .second, .val (.long ((((((k * (jd.toInt64)) / (me.toInt64)) * (me.toInt64)) + (jd.toInt64)) - (1 : Int64)) / (jd.toInt64))), .second, .val (.int (1 : Int32)), .unset, .unset, .unset, .unset]) (st' := [(.long ((((w0.toInt64) + (me.toInt64)) - (1 : Int64)) - k)), (.ref a)]) rfl ?_
    refine own_callV X3 (hw _ (List.mem_of_getElem? (i := 26) rfl)) (hw _ (List.mem_of_getElem? (i := 27) rfl)) (hw _ (List.mem_of_getElem? (i := 29) rfl)) (hw _ (List.mem_of_getElem? (i := 28) rfl)) (hw _ (List.mem_of_getElem? (i := 8) rfl)) (hw _ (List.mem_of_getElem? (i := 30) rfl)) (by decide) Q3 (c_runs l Z a0 hw a ((((w0.toInt64) + (me.toInt64)) - (1 : Int64)) - k) w0 me jd h3 n0 X3.2.1 hM P3_0 P3_1 P3_2) d0_121 [(.long ((((w0.toInt64) + (me.toInt64)) - (1 : Int64)) - k))] [] rfl rfl pd5 rfl rfl (by decide) (Nat.le_of_ble_eq_true rfl) (by decide) (by decide) (fun _ _ q => by rw [q.2]; exact X3.2.1) (fun v8 h8 T8 X8 q8 => ?_)
    obtain ⟨rfl, e8⟩ := q8
    rw [e8] at X8
    show own_G p e below (T8.setTop (mkF m 124 #[.val (.int z0), .val (.int z1), .val (.int z2), .val (.int z3), .val (.int z4), .val (.int w0), .val (.int me), .val (.int jd), .val (.long k), .second, .val (.ref a), .val (.long ((((w0.toInt64) + (me.toInt64)) - (1 : Int64)) - k)), .second, .val (.long ((k * (jd.toInt64)) / (me.toInt64))), .second, .val (.long ((((((k * (jd.toInt64)) / (me.toInt64)) * (me.toInt64)) + (jd.toInt64)) - (1 : Int64)) / (jd.toInt64))), .second, .val (.int (1 : Int32)), .unset, .unset, .unset, .unset] [(.int (own_run w0 me jd ((((w0.toInt64) + (me.toInt64)) - (1 : Int64)) - k)))])) _
    refine own_blk X8 B0_124_126 B0_124_126d (ls' := #[.val (.int z0), .val (.int z1), .val (.int z2), .val (.int z3), .val (.int z4), .val (.int w0), .val (.int me), .val (.int jd), .val (.long k), .second, .val (.ref a), .val (.long ((((w0.toInt64) + (me.toInt64)) - (1 : Int64)) - k)), .second, .val (.long ((k * (jd.toInt64)) / (me.toInt64))), .second, .val (.long ((((((k * (jd.toInt64)) / (me.toInt64)) * (me.toInt64)) + (jd.toInt64)) - (1 : Int64)) / (jd.toInt64))), .second, .val (.int (1 : Int32)), .unset, .unset, .unset, .unset]) (st' := [(.int (1 : Int32)), (.int (own_run w0 me jd ((((w0.toInt64) + (me.toInt64)) - (1 : Int64)) - k)))]) rfl ?_
    refine own_icmp X8 d0_126 (pc' := 133) (by decide) (fun (c126 : ¬ (own_run w0 me jd ((((w0.toInt64) + (me.toInt64)) - (1 : Int64)) - k)).toInt = 1) => by exfalso; first | exact c126 (by rw [mid.1]; exact Decidable.of_not_not c106) | exact c126 (by rcases w01 (w0.toInt64 + me.toInt64 - 1 - k) with q | q; exact q; exact absurd (mid.1.mp q) c106)) (fun c126 => ?_)
    have c126 : ¬ (¬ (own_run w0 me jd ((((w0.toInt64) + (me.toInt64)) - (1 : Int64)) - k)).toInt = 1) := c126
    refine own_blk X8 B0_129_130 B0_129_130d (ls' := #[.val (.int z0), .val (.int z1), .val (.int z2), .val (.int z3), .val (.int z4), .val (.int w0), .val (.int me), .val (.int jd), .val (.long k), .second, .val (.ref a), .val (.long ((((w0.toInt64) + (me.toInt64)) - (1 : Int64)) - k)), .second, .val (.long ((k * (jd.toInt64)) / (me.toInt64))), .second, .val (.long ((((((k * (jd.toInt64)) / (me.toInt64)) * (me.toInt64)) + (jd.toInt64)) - (1 : Int64)) / (jd.toInt64))), .second, .val (.int (1 : Int32)), .unset, .unset, .unset, .unset]) (st' := [(.int (1 : Int32))]) rfl ?_
    refine own_goto X8 d0_130 (pc' := 134) (by decide) ?_
    refine own_blk X8 B0_134_141 B0_134_141d (ls' := #[.val (.int z0), .val (.int z1), .val (.int z2), .val (.int z3), .val (.int z4), .val (.int w0), .val (.int me), .val (.int jd), .val (.long k), .second, .val (.ref a), .val (.long ((((w0.toInt64) + (me.toInt64)) - (1 : Int64)) - k)), .second, .val (.long ((k * (jd.toInt64)) / (me.toInt64))), .second, .val (.long ((((((k * (jd.toInt64)) / (me.toInt64)) * (me.toInt64)) + (jd.toInt64)) - (1 : Int64)) / (jd.toInt64))), .second, .val (.int (1 : Int32)), .val (.int (1 : Int32)), .val (.int (1 : Int32)), .unset, .unset]) (st' := [(.int w0)]) rfl ?_
    refine own_if X8 d0_141 (pc' := 166) (by decide) (fun c141 => ?_) (fun c141 => ?_)
    · have c141 : w0.toInt ≤ 0 := c141
      refine own_blk X8 B0_166_177 B0_166_177d (ls' := #[.val (.int z0), .val (.int z1), .val (.int z2), .val (.int z3), .val (.int z4), .val (.int w0), .val (.int me), .val (.int jd), .val (.long k), .second, .val (.ref a), .val (.long ((((w0.toInt64) + (me.toInt64)) - (1 : Int64)) - k)), .second, .val (.long ((k * (jd.toInt64)) / (me.toInt64))), .second, .val (.long ((((((k * (jd.toInt64)) / (me.toInt64)) * (me.toInt64)) + (jd.toInt64)) - (1 : Int64)) / (jd.toInt64))), .second, .val (.int (1 : Int32)), .val (.int (1 : Int32)), .val (.int (1 : Int32)), .unset, .unset]) (st' := [(.long (((w0.toInt64) + (me.toInt64)) - (1 : Int64))), (.ref a)]) rfl ?_
      refine own_callV X8 (hw _ (List.mem_of_getElem? (i := 26) rfl)) (hw _ (List.mem_of_getElem? (i := 27) rfl)) (hw _ (List.mem_of_getElem? (i := 29) rfl)) (hw _ (List.mem_of_getElem? (i := 28) rfl)) (hw _ (List.mem_of_getElem? (i := 8) rfl)) (hw _ (List.mem_of_getElem? (i := 30) rfl)) (by decide) Q3 (c_runs l Z a0 hw a (((w0.toInt64) + (me.toInt64)) - (1 : Int64)) w0 me jd h3 n0 X8.2.1 hM P3_0 P3_1 P3_2) d0_177 [(.long (((w0.toInt64) + (me.toInt64)) - (1 : Int64)))] [] rfl rfl pd5 rfl rfl (by decide) (Nat.le_of_ble_eq_true rfl) (by decide) (by decide) (fun _ _ q => by rw [q.2]; exact X8.2.1) (fun v9 h9 T9 X9 q9 => ?_)
      obtain ⟨rfl, e9⟩ := q9
      rw [e9] at X9
      show own_G p e below (T9.setTop (mkF m 180 #[.val (.int z0), .val (.int z1), .val (.int z2), .val (.int z3), .val (.int z4), .val (.int w0), .val (.int me), .val (.int jd), .val (.long k), .second, .val (.ref a), .val (.long ((((w0.toInt64) + (me.toInt64)) - (1 : Int64)) - k)), .second, .val (.long ((k * (jd.toInt64)) / (me.toInt64))), .second, .val (.long ((((((k * (jd.toInt64)) / (me.toInt64)) * (me.toInt64)) + (jd.toInt64)) - (1 : Int64)) / (jd.toInt64))), .second, .val (.int (1 : Int32)), .val (.int (1 : Int32)), .val (.int (1 : Int32)), .unset, .unset] [(.int (own_run w0 me jd (((w0.toInt64) + (me.toInt64)) - (1 : Int64))))])) _
      refine own_blk X9 B0_180_184 B0_180_184d (ls' := #[.val (.int z0), .val (.int z1), .val (.int z2), .val (.int z3), .val (.int z4), .val (.int w0), .val (.int me), .val (.int jd), .val (.long k), .second, .val (.ref a), .val (.long ((((w0.toInt64) + (me.toInt64)) - (1 : Int64)) - k)), .second, .val (.long ((k * (jd.toInt64)) / (me.toInt64))), .second, .val (.long ((((((k * (jd.toInt64)) / (me.toInt64)) * (me.toInt64)) + (jd.toInt64)) - (1 : Int64)) / (jd.toInt64))), .second, .val (.int (1 : Int32)), .val (.int (1 : Int32)), .val (.int (1 : Int32)), .val (.int (own_run w0 me jd (((w0.toInt64) + (me.toInt64)) - (1 : Int64)))), .unset]) (st' := [(.int (1 : Int32))]) rfl ?_
      refine own_if X9 d0_184 (pc' := 201) (by decide) (fun (c184 : (1 : Int) = 0) => by exfalso; simp at c184) (fun c184 => ?_)
      have c184 : ¬ ((1 : Int) = 0) := c184
      refine own_blk X9 B0_187_189 B0_187_189d (ls' := #[.val (.int z0), .val (.int z1), .val (.int z2), .val (.int z3), .val (.int z4), .val (.int w0), .val (.int me), .val (.int jd), .val (.long k), .second, .val (.ref a), .val (.long ((((w0.toInt64) + (me.toInt64)) - (1 : Int64)) - k)), .second, .val (.long ((k * (jd.toInt64)) / (me.toInt64))), .second, .val (.long ((((((k * (jd.toInt64)) / (me.toInt64)) * (me.toInt64)) + (jd.toInt64)) - (1 : Int64)) / (jd.toInt64))), .second, .val (.int (1 : Int32)), .val (.int (1 : Int32)), .val (.int (1 : Int32)), .val (.int (own_run w0 me jd (((w0.toInt64) + (me.toInt64)) - (1 : Int64)))), .unset]) (st' := [(.int (1 : Int32))]) rfl ?_
      refine own_if X9 d0_189 (pc' := 201) (by decide) (fun (c189 : (1 : Int) = 0) => by exfalso; first | (simp at c189; done) | (rw [own_warm] at c189; simp at c189; rw [own_lrem_pos (by rw [Jvm.Kit.i64_mask _ _ (k := 31) (by decide) (by decide)]; omega), Jvm.Kit.i64_of_i32]; exact Int.emod_lt_of_pos _ (by omega))) (fun c189 => ?_)
      have c189 : ¬ ((1 : Int) = 0) := c189
      refine own_blk X9 B0_192_194 B0_192_194d (ls' := #[.val (.int z0), .val (.int z1), .val (.int z2), .val (.int z3), .val (.int z4), .val (.int w0), .val (.int me), .val (.int jd), .val (.long k), .second, .val (.ref a), .val (.long ((((w0.toInt64) + (me.toInt64)) - (1 : Int64)) - k)), .second, .val (.long ((k * (jd.toInt64)) / (me.toInt64))), .second, .val (.long ((((((k * (jd.toInt64)) / (me.toInt64)) * (me.toInt64)) + (jd.toInt64)) - (1 : Int64)) / (jd.toInt64))), .second, .val (.int (1 : Int32)), .val (.int (1 : Int32)), .val (.int (1 : Int32)), .val (.int (own_run w0 me jd (((w0.toInt64) + (me.toInt64)) - (1 : Int64)))), .unset]) (st' := [(.int (own_run w0 me jd (((w0.toInt64) + (me.toInt64)) - (1 : Int64))))]) rfl ?_
      refine own_if X9 d0_194 (pc' := 201) (by decide) (fun (c194 : (own_run w0 me jd (((w0.toInt64) + (me.toInt64)) - (1 : Int64))).toInt = 0) => by exfalso; rw [mid.2] at c194; simp at c194) (fun c194 => ?_)
      have c194 : ¬ ((own_run w0 me jd (((w0.toInt64) + (me.toInt64)) - (1 : Int64))).toInt = 0) := c194
      refine own_blk X9 B0_197_198 B0_197_198d (ls' := #[.val (.int z0), .val (.int z1), .val (.int z2), .val (.int z3), .val (.int z4), .val (.int w0), .val (.int me), .val (.int jd), .val (.long k), .second, .val (.ref a), .val (.long ((((w0.toInt64) + (me.toInt64)) - (1 : Int64)) - k)), .second, .val (.long ((k * (jd.toInt64)) / (me.toInt64))), .second, .val (.long ((((((k * (jd.toInt64)) / (me.toInt64)) * (me.toInt64)) + (jd.toInt64)) - (1 : Int64)) / (jd.toInt64))), .second, .val (.int (1 : Int32)), .val (.int (1 : Int32)), .val (.int (1 : Int32)), .val (.int (own_run w0 me jd (((w0.toInt64) + (me.toInt64)) - (1 : Int64)))), .unset]) (st' := [(.int (1 : Int32))]) rfl ?_
      refine own_goto X9 d0_198 (pc' := 202) (by decide) ?_
      exact own_retN X9 (by simp) d0_202 (v' := (1 : Int32)) (rfl) (by decide) (by decide) (rfl)
    · have c141 : ¬ (w0.toInt ≤ 0) := c141
      refine own_blk X8 B0_144_147 B0_144_147d (ls' := #[.val (.int z0), .val (.int z1), .val (.int z2), .val (.int z3), .val (.int z4), .val (.int w0), .val (.int me), .val (.int jd), .val (.long k), .second, .val (.ref a), .val (.long ((((w0.toInt64) + (me.toInt64)) - (1 : Int64)) - k)), .second, .val (.long ((k * (jd.toInt64)) / (me.toInt64))), .second, .val (.long ((((((k * (jd.toInt64)) / (me.toInt64)) * (me.toInt64)) + (jd.toInt64)) - (1 : Int64)) / (jd.toInt64))), .second, .val (.int (1 : Int32)), .val (.int (1 : Int32)), .val (.int (1 : Int32)), .unset, .unset]) (st' := [(.long (z4.toInt64))]) rfl ?_
      refine own_ldc2 X8 (hw _ (List.mem_of_getElem? (i := 5) rfl)) d0_147 ?_
      refine own_blk X8 B0_150_154 B0_150_154d (ls' := #[.val (.int z0), .val (.int z1), .val (.int z2), .val (.int z3), .val (.int z4), .val (.int w0), .val (.int me), .val (.int jd), .val (.long k), .second, .val (.ref a), .val (.long ((((w0.toInt64) + (me.toInt64)) - (1 : Int64)) - k)), .second, .val (.long ((k * (jd.toInt64)) / (me.toInt64))), .second, .val (.long ((((((k * (jd.toInt64)) / (me.toInt64)) * (me.toInt64)) + (jd.toInt64)) - (1 : Int64)) / (jd.toInt64))), .second, .val (.int (1 : Int32)), .val (.int (1 : Int32)), .val (.int (1 : Int32)), .unset, .unset]) (st' := [(.long (w0.toInt64)), (.long ((z4.toInt64) &&& (2147483647 : Int64)))]) rfl ?_
      refine own_lremS X8 d0_154 (by intro q; have q2 := congrArg Int64.toInt q; rw [Jvm.Kit.i64_of_i32] at q2; simp at q2; omega) ?_
      refine own_blk X8 B0_155_161 B0_155_161d (ls' := #[.val (.int z0), .val (.int z1), .val (.int z2), .val (.int z3), .val (.int z4), .val (.int w0), .val (.int me), .val (.int jd), .val (.long k), .second, .val (.ref a), .val (.long ((((w0.toInt64) + (me.toInt64)) - (1 : Int64)) - k)), .second, .val (.long ((k * (jd.toInt64)) / (me.toInt64))), .second, .val (.long ((((((k * (jd.toInt64)) / (me.toInt64)) * (me.toInt64)) + (jd.toInt64)) - (1 : Int64)) / (jd.toInt64))), .second, .val (.int (1 : Int32)), .val (.int (1 : Int32)), .val (.int (1 : Int32)), .val (.long (own_lrem ((z4.toInt64) &&& (2147483647 : Int64)) (w0.toInt64))), .second]) (st' := [(.long (own_lrem ((z4.toInt64) &&& (2147483647 : Int64)) (w0.toInt64))), (.ref a)]) rfl ?_
      refine own_callV X8 (hw _ (List.mem_of_getElem? (i := 26) rfl)) (hw _ (List.mem_of_getElem? (i := 27) rfl)) (hw _ (List.mem_of_getElem? (i := 29) rfl)) (hw _ (List.mem_of_getElem? (i := 28) rfl)) (hw _ (List.mem_of_getElem? (i := 8) rfl)) (hw _ (List.mem_of_getElem? (i := 30) rfl)) (by decide) Q3 (c_runs l Z a0 hw a (own_lrem ((z4.toInt64) &&& (2147483647 : Int64)) (w0.toInt64)) w0 me jd h3 n0 X8.2.1 hM P3_0 P3_1 P3_2) d0_161 [(.long (own_lrem ((z4.toInt64) &&& (2147483647 : Int64)) (w0.toInt64)))] [] rfl rfl pd5 rfl rfl (by decide) (Nat.le_of_ble_eq_true rfl) (by decide) (by decide) (fun _ _ q => by rw [q.2]; exact X8.2.1) (fun v10 h10 T10 X10 q10 => ?_)
      obtain ⟨rfl, e10⟩ := q10
      rw [e10] at X10
      show own_G p e below (T10.setTop (mkF m 164 #[.val (.int z0), .val (.int z1), .val (.int z2), .val (.int z3), .val (.int z4), .val (.int w0), .val (.int me), .val (.int jd), .val (.long k), .second, .val (.ref a), .val (.long ((((w0.toInt64) + (me.toInt64)) - (1 : Int64)) - k)), .second, .val (.long ((k * (jd.toInt64)) / (me.toInt64))), .second, .val (.long ((((((k * (jd.toInt64)) / (me.toInt64)) * (me.toInt64)) + (jd.toInt64)) - (1 : Int64)) / (jd.toInt64))), .second, .val (.int (1 : Int32)), .val (.int (1 : Int32)), .val (.int (1 : Int32)), .val (.long (own_lrem ((z4.toInt64) &&& (2147483647 : Int64)) (w0.toInt64))), .second] [(.int (own_run w0 me jd (own_lrem ((z4.toInt64) &&& (2147483647 : Int64)) (w0.toInt64))))])) _
      refine own_blk X10 B0_164_177 B0_164_177d (ls' := #[.val (.int z0), .val (.int z1), .val (.int z2), .val (.int z3), .val (.int z4), .val (.int w0), .val (.int me), .val (.int jd), .val (.long k), .second, .val (.ref a), .val (.long ((((w0.toInt64) + (me.toInt64)) - (1 : Int64)) - k)), .second, .val (.long ((k * (jd.toInt64)) / (me.toInt64))), .second, .val (.long ((((((k * (jd.toInt64)) / (me.toInt64)) * (me.toInt64)) + (jd.toInt64)) - (1 : Int64)) / (jd.toInt64))), .second, .val (.int (1 : Int32)), .val (.int (1 : Int32)), .val (.int (own_run w0 me jd (own_lrem ((z4.toInt64) &&& (2147483647 : Int64)) (w0.toInt64)))), .val (.long (own_lrem ((z4.toInt64) &&& (2147483647 : Int64)) (w0.toInt64))), .second]) (st' := [(.long (((w0.toInt64) + (me.toInt64)) - (1 : Int64))), (.ref a)]) rfl ?_
      refine own_callV X10 (hw _ (List.mem_of_getElem? (i := 26) rfl)) (hw _ (List.mem_of_getElem? (i := 27) rfl)) (hw _ (List.mem_of_getElem? (i := 29) rfl)) (hw _ (List.mem_of_getElem? (i := 28) rfl)) (hw _ (List.mem_of_getElem? (i := 8) rfl)) (hw _ (List.mem_of_getElem? (i := 30) rfl)) (by decide) Q3 (c_runs l Z a0 hw a (((w0.toInt64) + (me.toInt64)) - (1 : Int64)) w0 me jd h3 n0 X10.2.1 hM P3_0 P3_1 P3_2) d0_177 [(.long (((w0.toInt64) + (me.toInt64)) - (1 : Int64)))] [] rfl rfl pd5 rfl rfl (by decide) (Nat.le_of_ble_eq_true rfl) (by decide) (by decide) (fun _ _ q => by rw [q.2]; exact X10.2.1) (fun v11 h11 T11 X11 q11 => ?_)
      obtain ⟨rfl, e11⟩ := q11
      rw [e11] at X11
      show own_G p e below (T11.setTop (mkF m 180 #[.val (.int z0), .val (.int z1), .val (.int z2), .val (.int z3), .val (.int z4), .val (.int w0), .val (.int me), .val (.int jd), .val (.long k), .second, .val (.ref a), .val (.long ((((w0.toInt64) + (me.toInt64)) - (1 : Int64)) - k)), .second, .val (.long ((k * (jd.toInt64)) / (me.toInt64))), .second, .val (.long ((((((k * (jd.toInt64)) / (me.toInt64)) * (me.toInt64)) + (jd.toInt64)) - (1 : Int64)) / (jd.toInt64))), .second, .val (.int (1 : Int32)), .val (.int (1 : Int32)), .val (.int (own_run w0 me jd (own_lrem ((z4.toInt64) &&& (2147483647 : Int64)) (w0.toInt64)))), .val (.long (own_lrem ((z4.toInt64) &&& (2147483647 : Int64)) (w0.toInt64))), .second] [(.int (own_run w0 me jd (((w0.toInt64) + (me.toInt64)) - (1 : Int64))))])) _
      refine own_blk X11 B0_180_184 B0_180_184d (ls' := #[.val (.int z0), .val (.int z1), .val (.int z2), .val (.int z3), .val (.int z4), .val (.int w0), .val (.int me), .val (.int jd), .val (.long k), .second, .val (.ref a), .val (.long ((((w0.toInt64) + (me.toInt64)) - (1 : Int64)) - k)), .second, .val (.long ((k * (jd.toInt64)) / (me.toInt64))), .second, .val (.long ((((((k * (jd.toInt64)) / (me.toInt64)) * (me.toInt64)) + (jd.toInt64)) - (1 : Int64)) / (jd.toInt64))), .second, .val (.int (1 : Int32)), .val (.int (1 : Int32)), .val (.int (own_run w0 me jd (own_lrem ((z4.toInt64) &&& (2147483647 : Int64)) (w0.toInt64)))), .val (.int (own_run w0 me jd (((w0.toInt64) + (me.toInt64)) - (1 : Int64)))), .unset]) (st' := [(.int (1 : Int32))]) rfl ?_
      refine own_if X11 d0_184 (pc' := 201) (by decide) (fun (c184 : (1 : Int) = 0) => by exfalso; simp at c184) (fun c184 => ?_)
      have c184 : ¬ ((1 : Int) = 0) := c184
      refine own_blk X11 B0_187_189 B0_187_189d (ls' := #[.val (.int z0), .val (.int z1), .val (.int z2), .val (.int z3), .val (.int z4), .val (.int w0), .val (.int me), .val (.int jd), .val (.long k), .second, .val (.ref a), .val (.long ((((w0.toInt64) + (me.toInt64)) - (1 : Int64)) - k)), .second, .val (.long ((k * (jd.toInt64)) / (me.toInt64))), .second, .val (.long ((((((k * (jd.toInt64)) / (me.toInt64)) * (me.toInt64)) + (jd.toInt64)) - (1 : Int64)) / (jd.toInt64))), .second, .val (.int (1 : Int32)), .val (.int (1 : Int32)), .val (.int (own_run w0 me jd (own_lrem ((z4.toInt64) &&& (2147483647 : Int64)) (w0.toInt64)))), .val (.int (own_run w0 me jd (((w0.toInt64) + (me.toInt64)) - (1 : Int64)))), .unset]) (st' := [(.int (own_run w0 me jd (own_lrem ((z4.toInt64) &&& (2147483647 : Int64)) (w0.toInt64))))]) rfl ?_
      refine own_if X11 d0_189 (pc' := 201) (by decide) (fun (c189 : (own_run w0 me jd (own_lrem ((z4.toInt64) &&& (2147483647 : Int64)) (w0.toInt64))).toInt = 0) => by exfalso; first | (simp at c189; done) | (rw [own_warm] at c189; simp at c189; rw [own_lrem_pos (by rw [Jvm.Kit.i64_mask _ _ (k := 31) (by decide) (by decide)]; omega), Jvm.Kit.i64_of_i32]; exact Int.emod_lt_of_pos _ (by omega))) (fun c189 => ?_)
      have c189 : ¬ ((own_run w0 me jd (own_lrem ((z4.toInt64) &&& (2147483647 : Int64)) (w0.toInt64))).toInt = 0) := c189
      refine own_blk X11 B0_192_194 B0_192_194d (ls' := #[.val (.int z0), .val (.int z1), .val (.int z2), .val (.int z3), .val (.int z4), .val (.int w0), .val (.int me), .val (.int jd), .val (.long k), .second, .val (.ref a), .val (.long ((((w0.toInt64) + (me.toInt64)) - (1 : Int64)) - k)), .second, .val (.long ((k * (jd.toInt64)) / (me.toInt64))), .second, .val (.long ((((((k * (jd.toInt64)) / (me.toInt64)) * (me.toInt64)) + (jd.toInt64)) - (1 : Int64)) / (jd.toInt64))), .second, .val (.int (1 : Int32)), .val (.int (1 : Int32)), .val (.int (own_run w0 me jd (own_lrem ((z4.toInt64) &&& (2147483647 : Int64)) (w0.toInt64)))), .val (.int (own_run w0 me jd (((w0.toInt64) + (me.toInt64)) - (1 : Int64)))), .unset]) (st' := [(.int (own_run w0 me jd (((w0.toInt64) + (me.toInt64)) - (1 : Int64))))]) rfl ?_
      refine own_if X11 d0_194 (pc' := 201) (by decide) (fun (c194 : (own_run w0 me jd (((w0.toInt64) + (me.toInt64)) - (1 : Int64))).toInt = 0) => by exfalso; rw [mid.2] at c194; simp at c194) (fun c194 => ?_)
      have c194 : ¬ ((own_run w0 me jd (((w0.toInt64) + (me.toInt64)) - (1 : Int64))).toInt = 0) := c194
      refine own_blk X11 B0_197_198 B0_197_198d (ls' := #[.val (.int z0), .val (.int z1), .val (.int z2), .val (.int z3), .val (.int z4), .val (.int w0), .val (.int me), .val (.int jd), .val (.long k), .second, .val (.ref a), .val (.long ((((w0.toInt64) + (me.toInt64)) - (1 : Int64)) - k)), .second, .val (.long ((k * (jd.toInt64)) / (me.toInt64))), .second, .val (.long ((((((k * (jd.toInt64)) / (me.toInt64)) * (me.toInt64)) + (jd.toInt64)) - (1 : Int64)) / (jd.toInt64))), .second, .val (.int (1 : Int32)), .val (.int (1 : Int32)), .val (.int (own_run w0 me jd (own_lrem ((z4.toInt64) &&& (2147483647 : Int64)) (w0.toInt64)))), .val (.int (own_run w0 me jd (((w0.toInt64) + (me.toInt64)) - (1 : Int64)))), .unset]) (st' := [(.int (1 : Int32))]) rfl ?_
      refine own_goto X11 d0_198 (pc' := 202) (by decide) ?_
      exact own_retN X11 (by simp) d0_202 (v' := (1 : Int32)) (rfl) (by decide) (by decide) (rfl)
set_option maxRecDepth 65536 in
set_option maxHeartbeats 40000000 in
theorem comes_1 {Post : Tables → Env → Array Value → State → Outcome → State → Prop} (hpost : ∀ tb e args s v u, (limb_1_1.after args s (.returned v) u = true ∧ limb_1_2.after args s (.returned v) u = true ∧ True) → FrameEnd s (.returned v) u (Jvm.fieldLocs frame_1_writes args s ++ Jvm.arrayLocs frame_1_arrays args s ++ Jvm.staticLocs frame_1_statics s) 16 128 → Post tb e args s (.returned v) u) :
    ArmFor flags0 classFile x code maxLocals ret World_1 tables_1 room_1 Calls_1 rest_1 Pre_1 Post := by
  intro l hfl _ _ p e ha hc hk s m args below hf hA hF happ hP
  obtain ⟨hcalls, hrest, hpre⟩ := hP
  obtain ⟨-, -, -, hnamed, -, -, -, hat⟩ := (Spec.applies_iff hf).mp happ
  obtain ⟨hg, hn⟩ := and_e (Cond.before_iff.mp (show (Jvm.Cond.and given_1 narrow_1).before args s = true from hpre))
  obtain ⟨gc, g0⟩ := and_e hg
  obtain ⟨q0, g1⟩ := and_e g0
  obtain ⟨q1, g2⟩ := and_e g1
  obtain ⟨q2, g3⟩ := and_e g2
  obtain ⟨q3, g4⟩ := and_e g3
  obtain ⟨w0, w1, w2, w3, w4, rfl⟩ : ∃ w0 w1 w2 w3 w4 : Value, args = #[w0, w1, w2, w3, w4] := by
    have hs : args.size = 5 := by simpa [Cond.value, given_1] using gc
    obtain ⟨L⟩ := args
    match L, hs with
    | [w0, w1, w2, w3, w4], _ => exact ⟨w0, w1, w2, w3, w4, rfl⟩
  have hw := fun d (hd : d ∈ tables_1) => atoms_spec (ws := Jvm.Cond.code x code maxLocals ret :: tables_1) hat d (List.mem_cons_of_mem _ hd)
  obtain ⟨i0, ei0⟩ := is_v q0
  obtain rfl : w0 = (.int i0) := Option.some.inj ei0
  obtain ⟨i1, ei1⟩ := is_v q1
  obtain rfl : w1 = (.int i1) := Option.some.inj ei1
  obtain ⟨i2, ei2⟩ := is_v q2
  obtain rfl : w2 = (.int i2) := Option.some.inj ei2
  obtain ⟨i3, ei3⟩ := is_v q3
  obtain rfl : w3 = (.int i3) := Option.some.inj ei3
  obtain ⟨i4, ei4⟩ := is_v g4
  obtain rfl : w4 = (.int i4) := Option.some.inj ei4
  obtain ⟨n, o, h1, h2, h3, _, L, rfl, ⟨N, rfl⟩, hq⟩ := c_law l s _ hw i0 i1 i2 i3 i4 s.heap s.heap.size (Nat.le_refl _) tables_1 p e ha hc hk s m _ below hf ((Spec.applies_iff_loose hf).mp happ).1 ⟨rfl, State.Warmed39.refl s, rfl⟩ trivial
  refine ⟨n, _, h1, h2, h3, hpost _ _ _ _ _ _ ⟨Cond.after_iff.mpr rfl, Cond.after_iff.mpr (eq_i res_at (Term.int_eval (1)) rfl), trivial⟩ ⟨hq.1, hq.2.1, (hq.2.2.sift fun y hy => Or.inr (N y hy)).mono (by decide) (by decide)⟩⟩
theorem main_1_1 : Claimed_1_1 := comes_1 fun _ _ _ _ _ _ h hF => ⟨h.1, hF⟩
theorem main_1_2 : Claimed_1_2 := comes_1 fun _ _ _ _ _ _ h hF => ⟨h.2.1, hF⟩
end Jvm.Pilot.@@N@@
namespace Jvm.Pilot.@@N@@
open Jvm Jvm.ClassFile Sem Op Lib Jvm.Free Jvm.Stand Jvm.Pilot.@@N@@.Jvm.D
/-! MADE BY PROGRAM (witnessworld.py) out of the Statement's table words and the real class files: 11 classes; the members and pool entries that the words name. The judged class is class 1, her method 1. -/
namespace start1
open Jvm.ClassFile
def u (s : String) : CpInfo := .utf8 (stringToUtf16 s)
/-- a pool by its gaps: so many unusable entries, then the entry; so many at the end -/
def gap : Nat → List CpInfo → List CpInfo
  | 0, r => r
  | n + 1, r => .unusable :: gap n r
def poolList (es : List (Nat × CpInfo)) (last : Nat) : List CpInfo := es.foldr (fun e r => gap e.1 (e.2 :: r)) (gap last [])
def pool (es : List (Nat × CpInfo)) (last : Nat) : Array CpInfo := ⟨poolList es last⟩
def fileOf (pool : Array CpInfo) (this : Nat) (attrs : Array Attribute := #[]) (ms : Array MethodInfo := #[]) (fl : Nat := 33) (sup : Nat := 0) (ifs : Array Nat := #[]) (fds : Array FieldInfo := #[]) : ClassFile where
  minorVersion := 0
  majorVersion := 65
  constantPool := pool
  accessFlags := fl
  thisClass := this
  superClass := sup
  interfaces := ifs
  fields := fds
  methods := ms
  attributes := attrs
def plain (name : String) (sup : Option ClassId) : Class where
  name := name
  kind := .ordinary
  loader := none
  accessFlags := 33
  super := sup
  interfaces := #[]
  cf := none
  fields := #[]
  methods := #[]
  instanceTypes := #[]
  staticTypes := #[]
  resolved := #[]
  callSites := []
  init := .initialized
  statics := none
  mirror := none

def pool0 : Array CpInfo := pool [(5, u "<init>"), (0, u "()V"), (1, .class_ 10), (1, u "java/lang/Object")] 113

def k0c0 : Code := { maxStack := 0, maxLocals := 1, code := object_method_1_code, exceptionTable := #[], attributes := #[] }
def k0m0 : Method := { name := "<init>", desc := "()V", sig := { parameters := [], returnType := none }, accessFlags := 1, code := some k0c0 }
/-- java/lang/Object -/
def k0 : Class := { plain "java/lang/Object" none with
  accessFlags := 33
  interfaces := #[]
  cf := some (fileOf pool0 8 #[] #[{ accessFlags := 1, nameIndex := 5, descriptorIndex := 6, attributes := #[] }] 33 0 #[] #[])
  fields := #[]
  methods := #[k0m0]
  instanceTypes := #[]
  staticTypes := #[]
  resolved := Array.replicate 124 none
  statics := none }

def pool1 : Array CpInfo := pool [(2, .class_ 4), (1, u "java/lang/Object"), (0, u "<init>"), (0, u "()V"), (0, .integer 2147483647), (0, .methodref 9 10), (0, .class_ 11), (0, .nameAndType 12 13), (0, u "java/lang/Math"), (0, u "max"), (0, u "(II)I"), (0, .long 2147483647), (1, .class_ 17), (0, u "com/example/tallysort/tallysort/cli/Bench$Rounds"), (0, .methodref 16 19), (0, .nameAndType 5 20), (0, u "(III)V"), (0, .methodref 16 22), (0, .nameAndType 23 24), (0, u "jdkRunsIn"), (0, u "(J)Z"), (0, .class_ 26), (0, u "com/example/tallysort/tallysort/cli/RoundsJdkRunsInPinLaw"), (2, u "law"), (0, u "(IIIII)Z")] 7

def k1m0 : Method := { name := "<init>", desc := "()V", sig := { parameters := [], returnType := none }, accessFlags := 1, code := none }
def k1c1 : Code := { maxStack := 5, maxLocals := 22, code := code, exceptionTable := #[], attributes := #[] }
def k1m1 : Method := { name := "law", desc := "(IIIII)Z", sig := { parameters := [.int, .int, .int, .int, .int], returnType := some .boolean }, accessFlags := 9, code := some k1c1 }
/-- com/example/tallysort/tallysort/cli/RoundsJdkRunsInPinLaw -/
def k1 : Class := { plain "com/example/tallysort/tallysort/cli/RoundsJdkRunsInPinLaw" (some 0) with
  accessFlags := 49
  interfaces := #[]
  cf := some (fileOf pool1 25 #[] #[{ accessFlags := 1, nameIndex := 5, descriptorIndex := 6, attributes := #[] }, { accessFlags := 9, nameIndex := 29, descriptorIndex := 30, attributes := #[] }] 49 2 #[] #[])
  fields := #[]
  methods := #[k1m0, k1m1]
  instanceTypes := #[]
  staticTypes := #[]
  resolved := Array.replicate 38 none
  statics := none }

def pool2 : Array CpInfo := pool [(1, .class_ 2), (0, u "java/lang/Math"), (1, .class_ 6), (1, u "java/lang/Object"), (0, u "<init>"), (0, u "()V"), (89, .class_ 100), (1, u "java/lang/Math$RandomNumberGeneratorHolder"), (71, u "negativeZeroFloatBits"), (0, u "J"), (2, u "negativeZeroDoubleBits"), (21, u "max"), (46, u "$assertionsDisabled"), (0, u "Z"), (88, u "(II)I"), (2, u "twoToTheDoubleScaleDown"), (0, u "D"), (4, u "twoToTheDoubleScaleUp"), (9, u "E"), (3, u "PI"), (2, u "TAU"), (2, u "DEGREES_TO_RADIANS"), (0, u "RADIANS_TO_DEGREES")] 94

def k2m0 : Method := { name := "<init>", desc := "()V", sig := { parameters := [], returnType := none }, accessFlags := 2, code := none }
def k2c1 : Code := { maxStack := 2, maxLocals := 2, code := jdk_29_method_65_code, exceptionTable := #[], attributes := #[] }
def k2m1 : Method := { name := "max", desc := "(II)I", sig := { parameters := [.int, .int], returnType := some .int }, accessFlags := 9, code := some k2c1 }
/-- java/lang/Math -/
def k2 : Class := { plain "java/lang/Math" (some 0) with
  accessFlags := 49
  interfaces := #[]
  cf := some (fileOf pool2 1 #[.nestMembers #[98]] #[{ accessFlags := 2, nameIndex := 7, descriptorIndex := 8, attributes := #[] }, { accessFlags := 9, nameIndex := 198, descriptorIndex := 335, attributes := #[] }] 49 4 #[] #[{ accessFlags := 25, nameIndex := 354, descriptorIndex := 339, attributes := #[] }, { accessFlags := 25, nameIndex := 358, descriptorIndex := 339, attributes := #[] }, { accessFlags := 25, nameIndex := 361, descriptorIndex := 339, attributes := #[] }, { accessFlags := 26, nameIndex := 364, descriptorIndex := 339, attributes := #[] }, { accessFlags := 26, nameIndex := 365, descriptorIndex := 339, attributes := #[] }, { accessFlags := 26, nameIndex := 172, descriptorIndex := 173, attributes := #[] }, { accessFlags := 26, nameIndex := 176, descriptorIndex := 173, attributes := #[] }, { accessFlags := 8, nameIndex := 344, descriptorIndex := 339, attributes := #[] }, { accessFlags := 8, nameIndex := 338, descriptorIndex := 339, attributes := #[] }, { accessFlags := 4120, nameIndex := 245, descriptorIndex := 246, attributes := #[] }])
  fields := #[{ name := "E", type := .double, accessFlags := 25, slot := 0, constantValue := 0 }, { name := "PI", type := .double, accessFlags := 25, slot := 1, constantValue := 0 }, { name := "TAU", type := .double, accessFlags := 25, slot := 2, constantValue := 0 }, { name := "DEGREES_TO_RADIANS", type := .double, accessFlags := 26, slot := 3, constantValue := 0 }, { name := "RADIANS_TO_DEGREES", type := .double, accessFlags := 26, slot := 4, constantValue := 0 }, { name := "negativeZeroFloatBits", type := .long, accessFlags := 26, slot := 5, constantValue := 0 }, { name := "negativeZeroDoubleBits", type := .long, accessFlags := 26, slot := 6, constantValue := 0 }, { name := "twoToTheDoubleScaleUp", type := .double, accessFlags := 8, slot := 7, constantValue := 0 }, { name := "twoToTheDoubleScaleDown", type := .double, accessFlags := 8, slot := 8, constantValue := 0 }, { name := "$assertionsDisabled", type := .boolean, accessFlags := 4120, slot := 9, constantValue := 0 }]
  methods := #[k2m0, k2m1]
  instanceTypes := #[]
  staticTypes := #[.double, .double, .double, .double, .double, .long, .long, .double, .double, .boolean]
  resolved := Array.replicate 460 none
  statics := none }

def pool3 : Array CpInfo := pool [(1, .methodref 2 3), (0, .class_ 4), (0, .nameAndType 5 6), (0, u "java/lang/Object"), (0, u "<init>"), (0, u "()V"), (0, .class_ 8), (0, u "java/lang/Record")] 13

def k3c0 : Code := { maxStack := 1, maxLocals := 1, code := jdk_30_method_1_code, exceptionTable := #[], attributes := #[] }
def k3m0 : Method := { name := "<init>", desc := "()V", sig := { parameters := [], returnType := none }, accessFlags := 4, code := some k3c0 }
/-- java/lang/Record -/
def k3 : Class := { plain "java/lang/Record" (some 0) with
  accessFlags := 1057
  interfaces := #[]
  cf := some (fileOf pool3 7 #[] #[{ accessFlags := 4, nameIndex := 5, descriptorIndex := 6, attributes := #[] }] 1057 2 #[] #[])
  fields := #[]
  methods := #[k3m0]
  instanceTypes := #[]
  staticTypes := #[]
  resolved := Array.replicate 22 none
  statics := none }

def pool4 : Array CpInfo := pool [(2, .class_ 4), (1, u "com/example/tallysort/tallysort/cli/Bench$Rounds"), (0, u "<init>"), (0, u "(III)V"), (0, .methodref 8 9), (0, .class_ 10), (0, .nameAndType 5 11), (0, u "java/lang/Record"), (0, u "()V"), (9, .fieldref 2 22), (0, .nameAndType 23 24), (0, u "warmup"), (0, u "I"), (0, .fieldref 2 26), (0, .nameAndType 27 24), (0, u "measured"), (0, .fieldref 2 29), (0, .nameAndType 30 24), (0, u "jdkMeasured"), (17, u "jdkRunsIn"), (0, u "(J)Z"), (6, .class_ 57), (0, u "com/example/tallysort/tallysort/cli/Bench")] 29

def k4c0 : Code := { maxStack := 5, maxLocals := 4, code := prog_76_method_2_code, exceptionTable := #[], attributes := #[] }
def k4m0 : Method := { name := "<init>", desc := "(III)V", sig := { parameters := [.int, .int, .int], returnType := none }, accessFlags := 0, code := some k4c0 }
def k4c1 : Code := { maxStack := 4, maxLocals := 5, code := prog_76_method_3_code, exceptionTable := #[], attributes := #[] }
def k4m1 : Method := { name := "jdkRunsIn", desc := "(J)Z", sig := { parameters := [.long], returnType := some .boolean }, accessFlags := 0, code := some k4c1 }
/-- com/example/tallysort/tallysort/cli/Bench$Rounds -/
def k4 : Class := { plain "com/example/tallysort/tallysort/cli/Bench$Rounds" (some 3) with
  accessFlags := 48
  interfaces := #[]
  cf := some (fileOf pool4 2 #[.nestHost 56] #[{ accessFlags := 0, nameIndex := 5, descriptorIndex := 6, attributes := #[] }, { accessFlags := 0, nameIndex := 48, descriptorIndex := 49, attributes := #[] }] 48 8 #[] #[{ accessFlags := 18, nameIndex := 23, descriptorIndex := 24, attributes := #[] }, { accessFlags := 18, nameIndex := 27, descriptorIndex := 24, attributes := #[] }, { accessFlags := 18, nameIndex := 30, descriptorIndex := 24, attributes := #[] }])
  fields := #[{ name := "warmup", type := .int, accessFlags := 18, slot := 0, constantValue := 0 }, { name := "measured", type := .int, accessFlags := 18, slot := 1, constantValue := 0 }, { name := "jdkMeasured", type := .int, accessFlags := 18, slot := 2, constantValue := 0 }]
  methods := #[k4m0, k4m1]
  instanceTypes := #[.int, .int, .int]
  staticTypes := #[]
  resolved := Array.replicate 87 none
  statics := none }

def pool5 : Array CpInfo := pool [(1, u "java/lang/Cloneable"), (0, .class_ 1), (0, u "java/lang/Object"), (0, .class_ 3)] 3

/-- java/lang/Cloneable -/
def k5 : Class := { plain "java/lang/Cloneable" (some 0) with
  accessFlags := 1537
  interfaces := #[]
  cf := some (fileOf pool5 2 #[] #[] 1537 4 #[] #[])
  fields := #[]
  methods := #[]
  instanceTypes := #[]
  staticTypes := #[]
  resolved := Array.replicate 8 none
  statics := none }

def pool6 : Array CpInfo := pool [(1, u "java/io/Serializable"), (0, .class_ 1), (0, u "java/lang/Object"), (0, .class_ 3)] 3

/-- java/io/Serializable -/
def k6 : Class := { plain "java/io/Serializable" (some 0) with
  accessFlags := 1537
  interfaces := #[]
  cf := some (fileOf pool6 2 #[] #[] 1537 4 #[] #[])
  fields := #[]
  methods := #[]
  instanceTypes := #[]
  staticTypes := #[]
  resolved := Array.replicate 8 none
  statics := none }

/-- the primitive byte -/
def k7 : Class := { plain "byte" none with kind := .primitive 'B', accessFlags := 0x411 }
/-- [B -/
def k8 : Class := { plain "[B" (some 0) with kind := .array 7 .byte, interfaces := #[5, 6], accessFlags := 1041 }

/-- the primitive int -/
def k9 : Class := { plain "int" none with kind := .primitive 'I', accessFlags := 0x411 }
/-- [I -/
def k10 : Class := { plain "[I" (some 0) with kind := .array 9 .int, interfaces := #[5, 6], accessFlags := 1041 }

def heap : Heap := #[]
def classes : Array Class := #[k0, k1, k2, k3, k4, k5, k6, k7, k8, k9, k10]
def interned : List (Array UInt16 × Addr) := []
def slotsUsed : Nat := 0
def theMethod : MethodId := ⟨1, 1⟩
def args0 : Array Value := #[.int 5, .int 6, .int 7, .int 8, .int 9]
def aboutOver (below : List Frame) : State where
  vm := { classes := classes, interned := interned.toArray }
  heap := heap
  slotsUsed := slotsUsed
  threads := #[{ frames := .invoking theMethod args0 :: below }]
def below0 : List Frame := [.native { method := ⟨0, 0⟩, args := #[] }]
def about1 : State := aboutOver below0
def p0 : Program := .bare "" "" ""
def e0 : Env := launch0.env 0 0 0
theorem w_frames : about1.frames = Frame.invoking theMethod args0 :: below0 := rfl
set_option maxRecDepth 65536 in
theorem w_args : argsFit about1.vm theMethod args0 = true := by decide +kernel
set_option maxRecDepth 65536 in
theorem w_heap : heapFits about1 = true := by decide +kernel
set_option maxRecDepth 65536 in
theorem w_runnable : about1.curStatus? = some .runnable := by decide +kernel
set_option maxRecDepth 65536 in
theorem w_alone : about1.alone = true := by decide +kernel
set_option maxRecDepth 65536 in
theorem w_named : about1.methodNamed? x = some theMethod := by decide +kernel
set_option maxRecDepth 65536 in
theorem w_hears : about1.hears theMethod below0 = true := by decide +kernel
set_option maxRecDepth 65536 in
theorem w_ripe : about1.ripe theMethod args0 below0 = true := by decide +kernel
theorem w_running : about1.status = .running := rfl
set_option maxRecDepth 65536 in
theorem w_room : about1.hasRoom e0.platform room_1 = true :=
  launch0.hasRoom_least _ room_1 (by decide +kernel) (by decide +kernel) (by decide +kernel) (by decide +kernel) (by decide +kernel) (by decide +kernel)
theorem allAtoms_all (ts : List Jvm.Cond) (a : Array Jvm.Value) (st : Jvm.State) : (allAtoms ts).before a st = ts.all (fun c => c.before a st) := by
  induction ts with
  | nil => rfl
  | cons c t ih =>
    show (Jvm.Cond.and c (allAtoms t)).before a st = _
    rw [Jvm.Cond.before_and, ih, List.all_cons]
def words1 : List Jvm.Cond := Jvm.Cond.code x code maxLocals ret :: tables_1
/-- a 'code' word, met by the world's own term for the bytes: nothing is compared byte by byte -/
theorem code_word {y : MethodName} {bytes : ByteArray} {mx : Nat} {rt : Option FieldType} {a : Array Value} {s : State} {m : MethodId} {meth : Method} {c : Code} (h1 : s.methodNamed? y = some m) (h2 : s.vm.method? m = some meth) (h3 : meth.code = some c) (h4 : c.code = bytes)
    (h5 : (c.maxLocals == mx && c.exceptionTable.isEmpty && decide (c.maxStack ≤ mostOperands) && decide (meth.sig.returnType = rt) && !meth.locks && decide (parseMethodDescriptor y.desc = some meth.sig)) = true) : (Jvm.Cond.code y bytes mx rt).before a s = true := by
  simp only [Bool.and_eq_true, beq_iff_eq, Bool.not_eq_true', decide_eq_true_eq] at h5
  obtain ⟨⟨⟨⟨⟨g1, g2⟩, g3⟩, g4⟩, g5⟩, g6⟩ := h5
  simp [Cond.before, Cond.holds, Cond.value, h1, h2, h3, h4, g1, g2, g3, g4, g5, g6]
def isCode : Jvm.Cond → Bool
  | .code _ _ _ _ => true
  | _ => false
theorem all_split {L : List Jvm.Cond} {P : Jvm.Cond → Bool} (h1 : L.all (fun c => isCode c || P c) = true) (h2 : ∀ c ∈ L.filter isCode, P c = true) : L.all P = true := by
  refine List.all_eq_true.mpr fun c hc => ?_
  have h := List.all_eq_true.mp h1 c hc
  rcases Bool.eq_false_or_eq_true (isCode c) with hi | hi
  · exact h2 c (List.mem_filter.mpr ⟨hc, hi⟩)
  · simpa [hi] using h
set_option maxRecDepth 65536 in
theorem w_c0 : (Jvm.Cond.code x code maxLocals ret).before args0 about1 = true := code_word (m := ⟨1, 1⟩) (meth := k1m1) (c := k1c1) (by decide +kernel) rfl rfl rfl (by decide +kernel)
set_option maxRecDepth 65536 in
theorem w_c1 : (Jvm.Cond.code ({ cls := "java/lang/Math", name := "max", desc := "(II)I" } : Jvm.MethodName) jdk_29_method_65_code (2 : Nat) (Option.some Jvm.ClassFile.FieldType.int)).before args0 about1 = true := code_word (m := ⟨2, 1⟩) (meth := k2m1) (c := k2c1) (by decide +kernel) rfl rfl rfl (by decide +kernel)
set_option maxRecDepth 65536 in
theorem w_c2 : (Jvm.Cond.code ({ cls := "com/example/tallysort/tallysort/cli/Bench$Rounds", name := "<init>", desc := "(III)V" } : Jvm.MethodName) prog_76_method_2_code (4 : Nat) (Option.none : Option Jvm.ClassFile.FieldType)).before args0 about1 = true := code_word (m := ⟨4, 0⟩) (meth := k4m0) (c := k4c0) (by decide +kernel) rfl rfl rfl (by decide +kernel)
set_option maxRecDepth 65536 in
theorem w_c3 : (Jvm.Cond.code ({ cls := "java/lang/Record", name := "<init>", desc := "()V" } : Jvm.MethodName) jdk_30_method_1_code (1 : Nat) (Option.none : Option Jvm.ClassFile.FieldType)).before args0 about1 = true := code_word (m := ⟨3, 0⟩) (meth := k3m0) (c := k3c0) (by decide +kernel) rfl rfl rfl (by decide +kernel)
set_option maxRecDepth 65536 in
theorem w_c4 : (Jvm.Cond.code ({ cls := "java/lang/Object", name := "<init>", desc := "()V" } : Jvm.MethodName) object_method_1_code (1 : Nat) (Option.none : Option Jvm.ClassFile.FieldType)).before args0 about1 = true := code_word (m := ⟨0, 0⟩) (meth := k0m0) (c := k0c0) (by decide +kernel) rfl rfl rfl (by decide +kernel)
set_option maxRecDepth 65536 in
theorem w_c5 : (Jvm.Cond.code ({ cls := "com/example/tallysort/tallysort/cli/Bench$Rounds", name := "jdkRunsIn", desc := "(J)Z" } : Jvm.MethodName) prog_76_method_3_code (5 : Nat) (Option.some Jvm.ClassFile.FieldType.boolean)).before args0 about1 = true := code_word (m := ⟨4, 1⟩) (meth := k4m1) (c := k4c1) (by decide +kernel) rfl rfl rfl (by decide +kernel)
def codes1 : List Jvm.Cond := [Jvm.Cond.code x code maxLocals ret, Jvm.Cond.code ({ cls := "java/lang/Math", name := "max", desc := "(II)I" } : Jvm.MethodName) jdk_29_method_65_code (2 : Nat) (Option.some Jvm.ClassFile.FieldType.int), Jvm.Cond.code ({ cls := "com/example/tallysort/tallysort/cli/Bench$Rounds", name := "<init>", desc := "(III)V" } : Jvm.MethodName) prog_76_method_2_code (4 : Nat) (Option.none : Option Jvm.ClassFile.FieldType), Jvm.Cond.code ({ cls := "java/lang/Record", name := "<init>", desc := "()V" } : Jvm.MethodName) jdk_30_method_1_code (1 : Nat) (Option.none : Option Jvm.ClassFile.FieldType), Jvm.Cond.code ({ cls := "java/lang/Object", name := "<init>", desc := "()V" } : Jvm.MethodName) object_method_1_code (1 : Nat) (Option.none : Option Jvm.ClassFile.FieldType), Jvm.Cond.code ({ cls := "com/example/tallysort/tallysort/cli/Bench$Rounds", name := "jdkRunsIn", desc := "(J)Z" } : Jvm.MethodName) prog_76_method_3_code (5 : Nat) (Option.some Jvm.ClassFile.FieldType.boolean)]
set_option maxRecDepth 65536 in
theorem codes_eq : words1.filter isCode = codes1 := rfl
theorem w_codes : ∀ c ∈ words1.filter isCode, c.before args0 about1 = true := by
  rw [codes_eq]
  intro c hc
  simp only [codes1, List.mem_cons, List.not_mem_nil, or_false] at hc
  rcases hc with rfl | rfl | rfl | rfl | rfl | rfl
  · exact w_c0
  · exact w_c1
  · exact w_c2
  · exact w_c3
  · exact w_c4
  · exact w_c5
set_option maxRecDepth 65536 in
theorem w_t1 : (words1.take 24).all (fun c => isCode c || c.before args0 about1) = true := by decide +kernel
set_option maxRecDepth 65536 in
theorem w_t2 : (words1.drop 24).all (fun c => isCode c || c.before args0 about1) = true := by decide +kernel
theorem w_tables : (allAtoms (Jvm.Cond.code x code maxLocals ret :: tables_1)).before args0 about1 = true := by
  rw [allAtoms_all]
  show words1.all (fun c => c.before args0 about1) = true
  refine all_split ?_ w_codes
  rw [← List.take_append_drop 24 words1, List.all_append, w_t1, w_t2]
  rfl
set_option maxRecDepth 65536 in
theorem w_case : (Jvm.Cond.and given_1 narrow_1).before args0 about1 = true := by decide +kernel
theorem w_applies : (headSpec (Jvm.Cond.code x code maxLocals ret :: tables_1) room_1).applies x e0.platform about1 = true :=
  (Spec.applies_iff w_frames).mpr ⟨w_running, w_runnable, w_alone, w_named, w_hears, w_ripe, w_room, w_tables⟩
theorem atStart : AtStart classFile x code maxLocals ret World_1 tables_1 room_1 Calls_1 rest_1 Pre_1 launch0 p0 e0 about1 theMethod args0 below0 :=
  ⟨lists_1, trivial, launch0.admits_env _ _ _, launch0.least_env, fairChoices_fair.cas, fairChoices_fair.clock, w_frames, w_args, w_heap, w_applies, trivial, trivial, w_case⟩
end start1
theorem witness_1 : WitnessClaimed_1 := ⟨start1.p0, start1.e0, start1.about1, start1.theMethod, start1.args0, start1.below0, start1.atStart⟩
end Jvm.Pilot.@@N@@
