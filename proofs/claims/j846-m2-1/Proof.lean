import JvmDerived
import JvmDerived.Pilot.@@N@@Statement
import JvmDerived.Pilot.@@N@@Code
set_option linter.unusedVariables false
set_option linter.unusedSimpArgs false
@@BLOCK:NumsL.lean.txt@@
namespace Jvm.Pilot.@@N@@
open Jvm Jvm.ClassFile Sem Op Lib Jvm.Free Jvm.Stand Jvm.LawKit Jvm.RoadKit Bundle Jvm.Pilot.@@N@@.Jvm.D
/-! ### own layer 1: plain steps by evaluation over a list of decoded instructions -/
def own_iushr (x y : Int32) : Int32 := (x.toUInt32 >>> (y &&& 31).toUInt32).toInt32
def own_ishl (x y : Int32) : Int32 := x <<< (y &&& 31)
def own_ishr (x y : Int32) : Int32 := x >>> (y &&& 31)
def own_irem (x y : Int32) : Int32 := x - (x / y) * y
def own_lrem (x y : Int64) : Int64 := x - (x / y) * y
def own_lushr (x : Int64) (y : Int32) : Int64 := (x.toUInt64 >>> (y &&& 0x3f).toInt64.toUInt64).toInt64
def own_lshl (x : Int64) (y : Int32) : Int64 := x <<< (y &&& 0x3f).toInt64
def own_lshr (x : Int64) (y : Int32) : Int64 := x >>> (y &&& 0x3f).toInt64
def own_i2b (x : Int32) : Int32 := x.toInt8.toInt32

abbrev own_R : Type := Option (Array Slot × List Value)
def own_i2 (f : Int32 → Int32 → Int32) (ls : Array Slot) : List Value → own_R
  | .int y :: .int x :: r => some (ls, .int (f x y) :: r)
  | _ => none
def own_i1 (f : Int32 → Value) (ls : Array Slot) : List Value → own_R
  | .int x :: r => some (ls, f x :: r)
  | _ => none
def own_l2 (f : Int64 → Int64 → Int64) (ls : Array Slot) : List Value → own_R
  | .long y :: .long x :: r => some (ls, .long (f x y) :: r)
  | _ => none
def own_lS (f : Int64 → Int32 → Int64) (ls : Array Slot) : List Value → own_R
  | .int y :: .long x :: r => some (ls, .long (f x y) :: r)
  | _ => none
def own_l1 (f : Int64 → Value) (ls : Array Slot) : List Value → own_R
  | .long x :: r => some (ls, f x :: r)
  | _ => none
def own_li (ls : Array Slot) (k : Nat) (st : List Value) : own_R :=
  match ls[k]? with
  | some (.val (.int v)) => some (ls, .int v :: st)
  | _ => none
def own_ll (ls : Array Slot) (k : Nat) (st : List Value) : own_R :=
  match ls[k]? with
  | some (.val (.long v)) => some (ls, .long v :: st)
  | _ => none
def own_la (ls : Array Slot) (k : Nat) (st : List Value) : own_R :=
  match ls[k]? with
  | some (.val (.ref v)) => some (ls, .ref v :: st)
  | some (.val .null) => some (ls, .null :: st)
  | _ => none
def own_sv (ls : Array Slot) (k : Nat) (v : Value) (r : List Value) : own_R :=
  match storeLocals ls k v with
  | some l' => some (l', r)
  | none => none
def own_si (ls : Array Slot) (k : Nat) : List Value → own_R
  | .int x :: r => own_sv ls k (.int x) r
  | _ => none
def own_sl (ls : Array Slot) (k : Nat) : List Value → own_R
  | .long x :: r => own_sv ls k (.long x) r
  | _ => none
def own_sa (ls : Array Slot) (k : Nat) : List Value → own_R
  | .ref x :: r => own_sv ls k (.ref x) r
  | .null :: r => own_sv ls k .null r
  | _ => none
def own_inc (ls : Array Slot) (k : Nat) (d : Int) (st : List Value) : own_R :=
  match ls[k]? with
  | some (.val (.int v)) => own_sv ls k (.int (v + Int32.ofInt d)) st
  | _ => none
def own_dup (ls : Array Slot) : List Value → own_R
  | .int x :: r => some (ls, .int x :: .int x :: r)
  | .ref x :: r => some (ls, .ref x :: .ref x :: r)
  | _ => none
def own_dupX (ls : Array Slot) : List Value → own_R
  | .int x :: .ref y :: r => some (ls, .int x :: .ref y :: .int x :: r)
  | _ => none
def own_pop (ls : Array Slot) : List Value → own_R
  | .int _ :: r => some (ls, r)
  | .ref _ :: r => some (ls, r)
  | _ => none

def own_p (i : Instr) (n : Nat) (ls : Array Slot) (st : List Value) : own_R :=
  match i, n with
  | .iconst k, 1 => some (ls, .int (Int32.ofInt k) :: st)
  | .bipush k, 2 => some (ls, .int (Int8.ofInt k).toInt32 :: st)
  | .sipush k, 3 => some (ls, .int (Int16.ofInt k).toInt32 :: st)
  | .lconst k, 1 => some (ls, .long (Int64.ofNat k) :: st)
  | .aconst_null, 1 => some (ls, .null :: st)
  | .iload_n k, 1 => own_li ls k.val st
  | .iload k, 2 => own_li ls k st
  | .lload_n k, 1 => own_ll ls k.val st
  | .lload k, 2 => own_ll ls k st
  | .aload_n k, 1 => own_la ls k.val st
  | .aload k, 2 => own_la ls k st
  | .istore_n k, 1 => own_si ls k.val st
  | .istore k, 2 => own_si ls k st
  | .lstore_n k, 1 => own_sl ls k.val st
  | .lstore k, 2 => own_sl ls k st
  | .astore_n k, 1 => own_sa ls k.val st
  | .astore k, 2 => own_sa ls k st
  | .iinc k d, 3 => own_inc ls k d st
  | .iadd, 1 => own_i2 (· + ·) ls st
  | .isub, 1 => own_i2 (· - ·) ls st
  | .imul, 1 => own_i2 (· * ·) ls st
  | .iand, 1 => own_i2 (· &&& ·) ls st
  | .ior, 1 => own_i2 (· ||| ·) ls st
  | .ixor, 1 => own_i2 (· ^^^ ·) ls st
  | .ishl, 1 => own_i2 own_ishl ls st
  | .ishr, 1 => own_i2 own_ishr ls st
  | .iushr, 1 => own_i2 own_iushr ls st
  | .ladd, 1 => own_l2 (· + ·) ls st
  | .lsub, 1 => own_l2 (· - ·) ls st
  | .lmul, 1 => own_l2 (· * ·) ls st
  | .land, 1 => own_l2 (· &&& ·) ls st
  | .lor, 1 => own_l2 (· ||| ·) ls st
  | .lxor, 1 => own_l2 (· ^^^ ·) ls st
  | .lshl, 1 => own_lS own_lshl ls st
  | .lshr, 1 => own_lS own_lshr ls st
  | .lushr, 1 => own_lS own_lushr ls st
  | .i2b, 1 => own_i1 (fun x => .int (own_i2b x)) ls st
  | .i2l, 1 => own_i1 (fun x => .long x.toInt64) ls st
  | .l2i, 1 => own_l1 (fun x => .int x.toInt32) ls st
  | .dup, 1 => own_dup ls st
  | .dup_x1, 1 => own_dupX ls st
  | .pop, 1 => own_pop ls st
  | _, _ => none

section Inv
variable {ls ls' : Array Slot} {st st' : List Value}
theorem own_i2_inv {f : Int32 → Int32 → Int32} (h : own_i2 f ls st = some (ls', st')) : ∃ x y r, st = .int y :: .int x :: r ∧ ls' = ls ∧ st' = .int (f x y) :: r := by
  unfold own_i2 at h; split at h
  · cases h; exact ⟨_, _, _, rfl, rfl, rfl⟩
  · cases h
theorem own_i1_inv {f : Int32 → Value} (h : own_i1 f ls st = some (ls', st')) : ∃ x r, st = .int x :: r ∧ ls' = ls ∧ st' = f x :: r := by
  unfold own_i1 at h; split at h
  · cases h; exact ⟨_, _, rfl, rfl, rfl⟩
  · cases h
theorem own_l2_inv {f : Int64 → Int64 → Int64} (h : own_l2 f ls st = some (ls', st')) : ∃ x y r, st = .long y :: .long x :: r ∧ ls' = ls ∧ st' = .long (f x y) :: r := by
  unfold own_l2 at h; split at h
  · cases h; exact ⟨_, _, _, rfl, rfl, rfl⟩
  · cases h
theorem own_lS_inv {f : Int64 → Int32 → Int64} (h : own_lS f ls st = some (ls', st')) : ∃ x y r, st = .int y :: .long x :: r ∧ ls' = ls ∧ st' = .long (f x y) :: r := by
  unfold own_lS at h; split at h
  · cases h; exact ⟨_, _, _, rfl, rfl, rfl⟩
  · cases h
theorem own_l1_inv {f : Int64 → Value} (h : own_l1 f ls st = some (ls', st')) : ∃ x r, st = .long x :: r ∧ ls' = ls ∧ st' = f x :: r := by
  unfold own_l1 at h; split at h
  · cases h; exact ⟨_, _, rfl, rfl, rfl⟩
  · cases h
theorem own_li_inv {k : Nat} (h : own_li ls k st = some (ls', st')) : ∃ v, ls[k]? = some (.val (.int v)) ∧ ls' = ls ∧ st' = .int v :: st := by
  unfold own_li at h; split at h
  · rename_i q; cases h; exact ⟨_, q, rfl, rfl⟩
  · cases h
theorem own_ll_inv {k : Nat} (h : own_ll ls k st = some (ls', st')) : ∃ v, ls[k]? = some (.val (.long v)) ∧ ls' = ls ∧ st' = .long v :: st := by
  unfold own_ll at h; split at h
  · rename_i q; cases h; exact ⟨_, q, rfl, rfl⟩
  · cases h
theorem own_la_inv {k : Nat} (h : own_la ls k st = some (ls', st')) : ∃ v : Value, v.isRef = true ∧ ls[k]? = some (.val v) ∧ ls' = ls ∧ st' = v :: st := by
  unfold own_la at h; split at h
  · rename_i q; cases h; exact ⟨_, rfl, q, rfl, rfl⟩
  · rename_i q; cases h; exact ⟨_, rfl, q, rfl, rfl⟩
  · cases h
theorem own_sv_inv {k : Nat} {v : Value} {r : List Value} (h : own_sv ls k v r = some (ls', st')) : storeLocals ls k v = some ls' ∧ st' = r := by
  unfold own_sv at h; split at h
  · rename_i q; cases h; exact ⟨q, rfl⟩
  · cases h
theorem own_si_inv {k : Nat} (h : own_si ls k st = some (ls', st')) : ∃ x, st = .int x :: st' ∧ storeLocals ls k (.int x) = some ls' := by
  unfold own_si at h; split at h
  · obtain ⟨h1, h2⟩ := own_sv_inv h; subst h2; exact ⟨_, rfl, h1⟩
  · cases h
theorem own_sl_inv {k : Nat} (h : own_sl ls k st = some (ls', st')) : ∃ x, st = .long x :: st' ∧ storeLocals ls k (.long x) = some ls' := by
  unfold own_sl at h; split at h
  · obtain ⟨h1, h2⟩ := own_sv_inv h; subst h2; exact ⟨_, rfl, h1⟩
  · cases h
theorem own_sa_inv {k : Nat} (h : own_sa ls k st = some (ls', st')) : ∃ x : Value, x.isRef = true ∧ st = x :: st' ∧ storeLocals ls k x = some ls' := by
  unfold own_sa at h; split at h
  · obtain ⟨h1, h2⟩ := own_sv_inv h; subst h2; exact ⟨_, rfl, rfl, h1⟩
  · obtain ⟨h1, h2⟩ := own_sv_inv h; subst h2; exact ⟨_, rfl, rfl, h1⟩
  · cases h
theorem own_inc_inv {k : Nat} {d : Int} (h : own_inc ls k d st = some (ls', st')) : ∃ x, ls[k]? = some (.val (.int x)) ∧ storeLocals ls k (.int (x + Int32.ofInt d)) = some ls' ∧ st' = st := by
  unfold own_inc at h; split at h
  · rename_i q; obtain ⟨h1, h2⟩ := own_sv_inv h; exact ⟨_, q, h1, h2⟩
  · cases h
theorem own_dup_inv (h : own_dup ls st = some (ls', st')) : ∃ (x : Value) (r : List Value), st = x :: r ∧ x.category = 1 ∧ ls' = ls ∧ st' = x :: x :: r := by
  unfold own_dup at h; split at h
  · cases h; exact ⟨_, _, rfl, rfl, rfl, rfl⟩
  · cases h; exact ⟨_, _, rfl, rfl, rfl, rfl⟩
  · cases h
theorem own_dupX_inv (h : own_dupX ls st = some (ls', st')) : ∃ (x y : Value) (r : List Value), st = x :: y :: r ∧ x.category = 1 ∧ y.category = 1 ∧ ls' = ls ∧ st' = x :: y :: x :: r := by
  unfold own_dupX at h; split at h
  · cases h; exact ⟨_, _, _, rfl, rfl, rfl, rfl, rfl⟩
  · cases h
theorem own_pop_inv (h : own_pop ls st = some (ls', st')) : ∃ (x : Value), st = x :: st' ∧ x.category = 1 ∧ ls' = ls := by
  unfold own_pop at h; split at h
  · cases h; exact ⟨_, rfl, rfl, rfl⟩
  · cases h; exact ⟨_, rfl, rfl, rfl⟩
  · cases h
end Inv

set_option maxHeartbeats 4000000 in
theorem own_p_ok {tb : Tables} [Ours tb] {e : Env} {below : List Frame} {T t : State} {m : MethodId} {c : Code} (h : At T m c below) (hx : tb.exec = Jvm.exec) {i : Instr} {n pc : Nat} {ls ls' : Array Slot} {st st' : List Value}
    (hd : decode c.code pc = .ok (i, n)) (hp : own_p i n ls st = some (ls', st')) (hr : Steps tb e below (T.setTop (mkF m (pc + n) ls' st')) t) : Steps tb e below (T.setTop (mkF m pc ls st)) t := by
  unfold own_p at hp
  split at hp
  · cases hp; exact XS.iconst h hx rfl hd hr
  · cases hp; exact XS.bipush h hx rfl hd hr
  · cases hp; exact XS.sipush h hx rfl hd hr
  · cases hp; exact XS.lconst h hx rfl hd hr
  · cases hp; exact XS.aconstNull h hx rfl hd hr
  · obtain ⟨v, q, rfl, rfl⟩ := own_li_inv hp; exact XS.iloadN h hx rfl hd q hr
  · obtain ⟨v, q, rfl, rfl⟩ := own_li_inv hp; exact XS.iload h hx rfl hd q hr
  · obtain ⟨v, q, rfl, rfl⟩ := own_ll_inv hp; exact XS.lloadN h hx rfl hd q hr
  · obtain ⟨v, q, rfl, rfl⟩ := own_ll_inv hp; exact XS.lload h hx rfl hd q hr
  · obtain ⟨v, q0, q, rfl, rfl⟩ := own_la_inv hp; exact XS.aloadN h hx rfl hd q q0 hr
  · obtain ⟨v, q0, q, rfl, rfl⟩ := own_la_inv hp; exact XS.aload h hx rfl hd q q0 hr
  · obtain ⟨x, rfl, q⟩ := own_si_inv hp; exact XS.istoreN h hx rfl hd rfl q hr
  · obtain ⟨x, rfl, q⟩ := own_si_inv hp; exact XS.istore h hx rfl hd rfl q hr
  · obtain ⟨x, rfl, q⟩ := own_sl_inv hp; exact XS.lstoreN h hx rfl hd rfl q hr
  · obtain ⟨x, rfl, q⟩ := own_sl_inv hp; exact XS.lstore h hx rfl hd rfl q hr
  · obtain ⟨x, q0, rfl, q⟩ := own_sa_inv hp; exact XS.astoreN h hx rfl hd rfl q0 q hr
  · obtain ⟨x, q0, rfl, q⟩ := own_sa_inv hp; exact XS.astore h hx rfl hd rfl q0 q hr
  · obtain ⟨x, q1, q2, rfl⟩ := own_inc_inv hp; exact XS.iinc h hx rfl hd q1 q2 hr
  · obtain ⟨x, y, r, rfl, rfl, rfl⟩ := own_i2_inv hp; exact XS.iadd h hx rfl hd rfl hr
  · obtain ⟨x, y, r, rfl, rfl, rfl⟩ := own_i2_inv hp; exact XS.isub h hx rfl hd rfl hr
  · obtain ⟨x, y, r, rfl, rfl, rfl⟩ := own_i2_inv hp; exact XS.imul h hx rfl hd rfl hr
  · obtain ⟨x, y, r, rfl, rfl, rfl⟩ := own_i2_inv hp; exact XS.iand h hx rfl hd rfl hr
  · obtain ⟨x, y, r, rfl, rfl, rfl⟩ := own_i2_inv hp; exact XS.ior h hx rfl hd rfl hr
  · obtain ⟨x, y, r, rfl, rfl, rfl⟩ := own_i2_inv hp; exact XS.ixor h hx rfl hd rfl hr
  · obtain ⟨x, y, r, rfl, rfl, rfl⟩ := own_i2_inv hp; exact XS.ishl h hx rfl hd rfl hr
  · obtain ⟨x, y, r, rfl, rfl, rfl⟩ := own_i2_inv hp; exact XS.ishr h hx rfl hd rfl hr
  · obtain ⟨x, y, r, rfl, rfl, rfl⟩ := own_i2_inv hp; exact XS.iushr h hx rfl hd rfl hr
  · obtain ⟨x, y, r, rfl, rfl, rfl⟩ := own_l2_inv hp; exact XS.ladd h hx rfl hd rfl hr
  · obtain ⟨x, y, r, rfl, rfl, rfl⟩ := own_l2_inv hp; exact XS.lsub h hx rfl hd rfl hr
  · obtain ⟨x, y, r, rfl, rfl, rfl⟩ := own_l2_inv hp; exact XS.lmul h hx rfl hd rfl hr
  · obtain ⟨x, y, r, rfl, rfl, rfl⟩ := own_l2_inv hp; exact XS.land h hx rfl hd rfl hr
  · obtain ⟨x, y, r, rfl, rfl, rfl⟩ := own_l2_inv hp; exact XS.lor h hx rfl hd rfl hr
  · obtain ⟨x, y, r, rfl, rfl, rfl⟩ := own_l2_inv hp; exact XS.lxor h hx rfl hd rfl hr
  · obtain ⟨x, y, r, rfl, rfl, rfl⟩ := own_lS_inv hp; exact XS.lshl h hx rfl hd rfl hr
  · obtain ⟨x, y, r, rfl, rfl, rfl⟩ := own_lS_inv hp; exact XS.lshr h hx rfl hd rfl hr
  · obtain ⟨x, y, r, rfl, rfl, rfl⟩ := own_lS_inv hp; exact XS.lushr h hx rfl hd rfl hr
  · obtain ⟨x, r, rfl, rfl, rfl⟩ := own_i1_inv hp; exact XS.i2b h hx rfl hd rfl hr
  · obtain ⟨x, r, rfl, rfl, rfl⟩ := own_i1_inv hp; exact XS.i2l h hx rfl hd rfl hr
  · obtain ⟨x, r, rfl, rfl, rfl⟩ := own_l1_inv hp; exact XS.l2i h hx rfl hd rfl hr
  · obtain ⟨x, r, rfl, q, rfl, rfl⟩ := own_dup_inv hp; exact XS.dup h hx rfl hd rfl q hr
  · obtain ⟨x, y, r, rfl, q1, q2, rfl, rfl⟩ := own_dupX_inv hp; exact XS.dupX1 h hx rfl hd rfl q1 q2 hr
  · obtain ⟨x, rfl, q, rfl⟩ := own_pop_inv hp; exact XS.pop h hx rfl hd rfl q hr
  · cases hp

/-- the list lies in the code from pc on, up to pc' -/
def own_d (code : ByteArray) : Nat → List (Instr × Nat) → Nat → Bool
  | pc, [], pc' => pc == pc'
  | pc, (i, n) :: L, pc' => decide (decode code pc = .ok (i, n)) && own_d code (pc + n) L pc'
def own_x : List (Instr × Nat) → Array Slot → List Value → own_R
  | [], ls, st => some (ls, st)
  | (i, n) :: L, ls, st => match own_p i n ls st with
    | some (ls', st') => own_x L ls' st'
    | none => none
theorem own_x_ok {tb : Tables} [Ours tb] {e : Env} {below : List Frame} {T t : State} {m : MethodId} {c : Code} (h : At T m c below) (hx : tb.exec = Jvm.exec) : ∀ (L : List (Instr × Nat)) {pc pc' : Nat} {ls ls' : Array Slot} {st st' : List Value},
    own_d c.code pc L pc' = true → own_x L ls st = some (ls', st') → Steps tb e below (T.setTop (mkF m pc' ls' st')) t → Steps tb e below (T.setTop (mkF m pc ls st)) t
  | [], pc, pc', ls, ls', st, st', hd, hr, k => by
    have e1 : pc = pc' := by simpa [own_d] using hd
    subst e1
    cases hr
    exact k
  | (i, n) :: L, pc, pc', ls, ls', st, st', hd, hr, k => by
    simp only [own_d, Bool.and_eq_true, decide_eq_true_eq] at hd
    simp only [own_x] at hr
    cases hq : own_p i n ls st with
    | none => rw [hq] at hr; cases hr
    | some q =>
      obtain ⟨l1, s1⟩ := q
      rw [hq] at hr
      exact own_p_ok h hx hd.1 hq (own_x_ok h hx L hd.2 hr k)

/-! ### own layer 2: where a walk stands, and that it comes to its end -/
def own_G (p : Program) (e : Env) (below : List Frame) (A : State) (Q : Outcome → State → Prop) : Prop :=
  ∃ s₂ o, Steps p.tables e below A s₂ ∧ s₂.status = .running ∧ Ended s₂ below o ∧ Q o s₂
theorem own_st {p : Program} {e : Env} {below : List Frame} {A A' : State} {Q : Outcome → State → Prop} (st : ∀ t, Steps p.tables e below A' t → Steps p.tables e below A t) (g : own_G p e below A' Q) : own_G p e below A Q := by
  obtain ⟨s2, o, h1, h2⟩ := g
  exact ⟨s2, o, st _ h1, h2⟩
def own_E (s : State) (n0 : Nat) (P : Option Value → Heap → Prop) (C S : Nat) (o : Outcome) (U : State) : Prop := ∃ v L, o = .returned v ∧ (Fr n0 L ∧ P v U.heap) ∧ FrameEnd s o U L C S
def own_X (p : Program) (l : Launch) (e : Env) (R : Room) (s : State) (m : MethodId) (args : Array Value) (below : List Frame) (meth : Method) (c : Code) (Z : State) (bytes : ByteArray) (maxL : Nat) (ret : Option FieldType) (y : MethodName) (n0 : Nat) (h : Heap) (T : State) (k n : Nat) : Prop :=
  (p.tables.exec = Jvm.exec ∧ c.code = bytes ∧ c.maxLocals = maxL ∧ s.vm.findClass y.cls = some m.cls ∧ meth.name = y.name ∧ meth.sig.returnType = ret ∧ Z.Warmed39 s.vm ∧ meth.locks = false) ∧
    n0 ≤ h.size ∧ T.heap = h ∧ ∃ locs, Stand p l e R s m args below meth c T locs k n ∧ Fr n0 locs
/-- a body's contract: from these arguments and this heap it returns, and P says what, and what heap it leaves -/
def own_C (l : Launch) (Z : State) (y : MethodName) (bytes : ByteArray) (maxL : Nat) (ret : Option FieldType) (rm : Room) (as : Array Value) (h0 : Heap) (n0 : Nat) (P : Option Value → Heap → Prop) : Prop :=
  ∀ ws : List Jvm.Cond, MetFree l y (head1 (Jvm.Cond.code y bytes maxL ret :: ws) rm) (fun a U => a = as ∧ Z.Warmed39 U.vm ∧ U.heap = h0) (fun _ _ _ _ _ => True)
    (fun _ U o U' => ∃ v L, o = .returned v ∧ (Fr n0 L ∧ P v U'.heap) ∧ FrameEnd U o U' L rm.cells rm.slots)
theorem own_body {l : Launch} {Z : State} {y : MethodName} {bytes : ByteArray} {maxL : Nat} {ret : Option FieldType} {rm : Room} {as : Array Value} {h0 : Heap} {n0 : Nat} {P : Option Value → Heap → Prop} (hpl : plainFor y = true) (h0n : n0 ≤ h0.size) {ls : Array Slot} (hef : ∀ m, entryFrame m as maxL = mkF m 0 ls [])
    (k : ∀ p e s m below meth c T, own_X p l e rm s m as below meth c Z bytes maxL ret y n0 h0 T 0 0 → own_G p e below (T.setTop (mkF m 0 ls [])) (own_E s n0 P rm.cells rm.slots)) : own_C l Z y bytes maxL ret rm as h0 n0 P := by
  intro ws
  refine MetFree.of_bodySF hpl hisR ?_
  intro p e s m args below meth c s₁ Bd hml0 hP hK
  obtain ⟨rfl, hZ, hh⟩ := hP
  have e0 : s₁.heap = h0 := by rw [← hh, Bd.state]; rfl
  have X0 : Stand p l e rm s m args below meth c s₁ [] 0 0 := Stand.of_body Bd
  have g := k p e s m below meth c s₁ ⟨⟨Bd.exec, Bd.bytes, hml0, findClass_of_methodNamed Bd.named, (name_of_methodNamed Bd.named Bd.method).1, Bd.returns, hZ, Bd.notSynchronized⟩, h0n, e0, [], X0, Fr.nil n0⟩
  rw [← hef m] at g
  exact g

section Walk
variable {p : Program} {l : Launch} {e : Env} {R : Room} {s : State} {m : MethodId} {args : Array Value} {below : List Frame} {meth : Method} {c : Code} {Z : State} {bytes : ByteArray} {maxL : Nat} {ret : Option FieldType} {y : MethodName} {n0 : Nat} {h : Heap} {T : State} {k n : Nat} {Q : Outcome → State → Prop} {pc pc' : Nat} {ls ls' : Array Slot} {st st' : List Value} {a0 : Array Value}
theorem own_blk (X : own_X p l e R s m args below meth c Z bytes maxL ret y n0 h T k n) (L : List (Instr × Nat)) (hd : own_d bytes pc L pc' = true) (hr : own_x L ls st = some (ls', st')) (g : own_G p e below (T.setTop (mkF m pc' ls' st')) Q) : own_G p e below (T.setTop (mkF m pc ls st)) Q := by
  obtain ⟨⟨hx, hby, -⟩, -, -, locs, X, -⟩ := X
  subst hby
  exact own_st (fun t q => own_x_ok X.here hx L hd hr q) g
/-! branches -/
def own_tg (pc : Nat) (o : Int) (pc' : Nat) : Bool := decide (0 ≤ (pc : Int) + o) && decide (((pc : Int) + o).toNat = pc')
def own_cI : ClassFile.Cond → Int → Int → Prop
  | .eq, x, y => x = y
  | .ne, x, y => ¬ x = y
  | .lt, x, y => x < y
  | .ge, x, y => y ≤ x
  | .gt, x, y => y < x
  | .le, x, y => x ≤ y
theorem own_icmp_iff (cd : ClassFile.Cond) (x y : Int32) : if_icmp.holds cd x y = true ↔ own_cI cd x.toInt y.toInt := by
  cases cd <;> simp [if_icmp.holds, own_cI, Int32.lt_iff_toInt_lt, Int32.le_iff_toInt_le, Int32.toInt_inj]
theorem own_if_iff (cd : ClassFile.Cond) (x : Int32) : ifCond.holds cd x = true ↔ own_cI cd x.toInt 0 := by
  rw [if0]; exact own_icmp_iff cd x 0
theorem own_l_iff (cd : ClassFile.Cond) (x y : Int64) : ifCond.holds cd (if x > y then 1 else if x = y then 0 else -1) = true ↔ own_cI cd x.toInt y.toInt := by
  rw [own_if_iff]
  have e1 : (x > y) = (y.toInt < x.toInt) := by rw [gt_iff_lt, Int64.lt_iff_toInt_lt]
  have e2 : (x = y) = (x.toInt = y.toInt) := by rw [Int64.toInt_inj]
  simp only [e1, e2]
  by_cases q1 : y.toInt < x.toInt
  · simp only [q1, if_true]
    have e3 : (1 : Int32).toInt = 1 := rfl
    cases cd <;> simp only [own_cI, e3] <;> omega
  · by_cases q2 : x.toInt = y.toInt
    · simp only [q1, q2, if_true, if_false]
      have e3 : (0 : Int32).toInt = 0 := rfl
      cases cd <;> simp [own_cI]
    · simp only [q1, q2, if_false]
      have e3 : (-1 : Int32).toInt = -1 := rfl
      cases cd <;> simp only [own_cI, e3] <;> omega
theorem own_tg_s {o : Int} (hp : own_tg pc o pc' = true) : 0 ≤ (pc : Int) + o ∧ ((pc : Int) + o).toNat = pc' := by
  simpa [own_tg] using hp
theorem own_goto (X : own_X p l e R s m args below meth c Z bytes maxL ret y n0 h T k n) {o : Int} (hd : decode bytes pc = .ok (.goto o, 3)) (hp : own_tg pc o pc' = true) (g : own_G p e below (T.setTop (mkF m pc' ls st)) Q) : own_G p e below (T.setTop (mkF m pc ls st)) Q := by
  obtain ⟨⟨hx, hby, -⟩, -, -, locs, X, -⟩ := X
  subst hby
  exact own_st (fun t q => XS.goto X.here hx rfl rfl hd (own_tg_s hp).1 (own_tg_s hp).2 q) g
theorem own_icmp (X : own_X p l e R s m args below meth c Z bytes maxL ret y n0 h T k n) {cd : ClassFile.Cond} {o : Int} {v w : Int32} (hd : decode bytes pc = .ok (.if_icmp cd o, 3)) (hp : own_tg pc o pc' = true) (gT : own_cI cd v.toInt w.toInt → own_G p e below (T.setTop (mkF m pc' ls st)) Q) (gF : ¬ own_cI cd v.toInt w.toInt → own_G p e below (T.setTop (mkF m (pc + 3) ls st)) Q) :
    own_G p e below (T.setTop (mkF m pc ls (.int w :: .int v :: st))) Q := by
  obtain ⟨⟨hx, hby, -⟩, -, -, locs, X, -⟩ := X
  subst hby
  cases hc : if_icmp.holds cd v w with
  | true => exact own_st (fun t q => XS.icmpYes X.here hx rfl rfl hd rfl hc (own_tg_s hp).1 (own_tg_s hp).2 q) (gT ((own_icmp_iff cd v w).mp hc))
  | false => exact own_st (fun t q => XS.icmpNo X.here hx rfl hd rfl hc q) (gF fun q => by rw [(own_icmp_iff cd v w).mpr q] at hc; cases hc)
theorem own_if (X : own_X p l e R s m args below meth c Z bytes maxL ret y n0 h T k n) {cd : ClassFile.Cond} {o : Int} {v : Int32} (hd : decode bytes pc = .ok (.ifCond cd o, 3)) (hp : own_tg pc o pc' = true) (gT : own_cI cd v.toInt 0 → own_G p e below (T.setTop (mkF m pc' ls st)) Q) (gF : ¬ own_cI cd v.toInt 0 → own_G p e below (T.setTop (mkF m (pc + 3) ls st)) Q) :
    own_G p e below (T.setTop (mkF m pc ls (.int v :: st))) Q := by
  obtain ⟨⟨hx, hby, -⟩, -, -, locs, X, -⟩ := X
  subst hby
  cases hc : ifCond.holds cd v with
  | true => exact own_st (fun t q => XS.ifYes X.here hx rfl rfl hd rfl hc (own_tg_s hp).1 (own_tg_s hp).2 q) (gT ((own_if_iff cd v).mp hc))
  | false => exact own_st (fun t q => XS.ifNo X.here hx rfl hd rfl hc q) (gF fun q => by rw [(own_if_iff cd v).mpr q] at hc; cases hc)
theorem own_lif (X : own_X p l e R s m args below meth c Z bytes maxL ret y n0 h T k n) {cd : ClassFile.Cond} {o : Int} {v w : Int64} (hd1 : decode bytes pc = .ok (.lcmp, 1)) (hd : decode bytes (pc + 1) = .ok (.ifCond cd o, 3)) (hp : own_tg (pc + 1) o pc' = true) (gT : own_cI cd v.toInt w.toInt → own_G p e below (T.setTop (mkF m pc' ls st)) Q) (gF : ¬ own_cI cd v.toInt w.toInt → own_G p e below (T.setTop (mkF m (pc + 4) ls st)) Q) :
    own_G p e below (T.setTop (mkF m pc ls (.long w :: .long v :: st))) Q := by
  obtain ⟨⟨hx, hby, -⟩, -, -, locs, X, -⟩ := X
  subst hby
  refine own_st (fun t q => XS.lcmp X.here hx rfl hd1 rfl q) ?_
  show own_G p e below (T.setTop (mkF m (pc + 1) ls (.int (if v > w then 1 else if v = w then 0 else -1) :: st))) Q
  cases hc : ifCond.holds cd (if v > w then 1 else if v = w then 0 else -1) with
  | true => exact own_st (fun t q => XS.ifYes X.here hx rfl rfl hd rfl hc (own_tg_s hp).1 (own_tg_s hp).2 q) (gT ((own_l_iff cd v w).mp hc))
  | false => exact own_st (fun t q => XS.ifNo X.here hx rfl hd rfl hc q) (gF fun q => by rw [(own_l_iff cd v w).mpr q] at hc; cases hc)
/-! division -/
theorem own_idiv (X : own_X p l e R s m args below meth c Z bytes maxL ret y n0 h T k n) {v w : Int32} (hd : decode bytes pc = .ok (.idiv, 1)) (hw : w ≠ 0) (g : own_G p e below (T.setTop (mkF m (pc + 1) ls (.int (v / w) :: st))) Q) : own_G p e below (T.setTop (mkF m pc ls (.int w :: .int v :: st))) Q := by
  obtain ⟨⟨hx, hby, -⟩, -, -, locs, X, -⟩ := X
  subst hby
  exact own_st (fun t q => XS.idiv X.here hx rfl hd rfl hw q) g
theorem own_iremS (X : own_X p l e R s m args below meth c Z bytes maxL ret y n0 h T k n) {v w : Int32} (hd : decode bytes pc = .ok (.irem, 1)) (hw : w ≠ 0) (g : own_G p e below (T.setTop (mkF m (pc + 1) ls (.int (own_irem v w) :: st))) Q) : own_G p e below (T.setTop (mkF m pc ls (.int w :: .int v :: st))) Q := by
  obtain ⟨⟨hx, hby, -⟩, -, -, locs, X, -⟩ := X
  subst hby
  exact own_st (fun t q => XS.irem X.here hx rfl hd rfl hw q) g
theorem own_ldiv (X : own_X p l e R s m args below meth c Z bytes maxL ret y n0 h T k n) {v w : Int64} (hd : decode bytes pc = .ok (.ldiv, 1)) (hw : w ≠ 0) (g : own_G p e below (T.setTop (mkF m (pc + 1) ls (.long (v / w) :: st))) Q) : own_G p e below (T.setTop (mkF m pc ls (.long w :: .long v :: st))) Q := by
  obtain ⟨⟨hx, hby, -⟩, -, -, locs, X, -⟩ := X
  subst hby
  exact own_st (fun t q => XS.ldiv X.here hx rfl hd rfl hw q) g
theorem own_lremS (X : own_X p l e R s m args below meth c Z bytes maxL ret y n0 h T k n) {v w : Int64} (hd : decode bytes pc = .ok (.lrem, 1)) (hw : w ≠ 0) (g : own_G p e below (T.setTop (mkF m (pc + 1) ls (.long (own_lrem v w) :: st))) Q) : own_G p e below (T.setTop (mkF m pc ls (.long w :: .long v :: st))) Q := by
  obtain ⟨⟨hx, hby, -⟩, -, -, locs, X, -⟩ := X
  subst hby
  exact own_st (fun t q => XS.lrem X.here hx rfl hd rfl hw q) g
/-! constants of the pool -/
theorem own_ldc (X : own_X p l e R s m args below meth c Z bytes maxL ret y n0 h T k n) {i : Nat} {v : Int32} (w : (Jvm.Cond.constant y.cls i v).before a0 Z = true) (hd : decode bytes pc = .ok (.ldc i, 2)) (g : own_G p e below (T.setTop (mkF m (pc + 2) ls (.int v :: st))) Q) : own_G p e below (T.setTop (mkF m pc ls st)) Q := by
  obtain ⟨⟨hx, hby, hml, hown, hnm, hret, hZ, hlk⟩, -, -, locs, X, -⟩ := X
  subst hby
  exact own_st (fun t q => X.ldcInt hx hown (mvT hZ w) (g := mkF m pc ls st) rfl hd t q) g
theorem own_ldc2 (X : own_X p l e R s m args below meth c Z bytes maxL ret y n0 h T k n) {i : Nat} {v : Int64} (w : (Jvm.Cond.constantLong y.cls i v).before a0 Z = true) (hd : decode bytes pc = .ok (.ldc2_w i, 3)) (g : own_G p e below (T.setTop (mkF m (pc + 3) ls (.long v :: st))) Q) : own_G p e below (T.setTop (mkF m pc ls st)) Q := by
  obtain ⟨⟨hx, hby, hml, hown, hnm, hret, hZ, hlk⟩, -, -, locs, X, -⟩ := X
  subst hby
  exact own_st (fun t q => X.ldc2Long hx hown (mvT hZ w) (g := mkF m pc ls st) rfl hd t q) g
/-! returns -/
variable {P : Option Value → Heap → Prop} {C S : Nat}
theorem own_retI (X : own_X p l e R s m args below meth c Z bytes maxL (some .int) y n0 h T k n) (hd : decode bytes pc = .ok (.ireturn, 1)) {v : Int32} (hk : k ≤ C) (hn : n ≤ S) (hP : P (some (.int v)) h) : own_G p e below (T.setTop (mkF m pc ls (.int v :: st))) (own_E s n0 P C S) := by
  obtain ⟨⟨hx, hby, hml, hown, hnm, hret, hZ, hlk⟩, -, eT, locs, X, N⟩ := X
  subst hby
  obtain ⟨fs, hr, hrun, hended, hW, hsame⟩ := X.leave (v := some (.int v)) (fun q => by rw [hret] at q; cases q)
  refine ⟨_, _, ?_, hrun, hended, _, _, rfl, ⟨N, by show P _ T.heap; rw [eT]; exact hP⟩, ⟨_, rfl⟩, hW, hsame.mono hk hn⟩
  have hm' : T.vm.method? m = some meth := X.method'
  have hnn : narrow .int (.int v) = .int v := rfl
  show Steps p.tables e below (T.setTop { method := m, pc := pc, locals := ls, stack := _ :: st, locked := none }) _
  jvm_step X.here [X.here.top, hx, hd, hm', hret, hnn]
  first | (intro acts; rw [hr _ acts rfl rfl rfl]) | rw [hr _ _ rfl rfl rfl]
  exact Steps.refl _
theorem own_retN {t : FieldType} (X : own_X p l e R s m args below meth c Z bytes maxL (some t) y n0 h T k n) (ht : t = .boolean ∨ t = .byte ∨ t = .char ∨ t = .short) (hd : decode bytes pc = .ok (.ireturn, 1)) {v v' : Int32} (hv : nar t v = v') (hk : k ≤ C) (hn : n ≤ S) (hP : P (some (.int v')) h) : own_G p e below (T.setTop (mkF m pc ls (.int v :: st))) (own_E s n0 P C S) := by
  obtain ⟨⟨hx, hby, hml, hown, hnm, hret, hZ, hlk⟩, -, eT, locs, X, N⟩ := X
  subst hby hv
  obtain ⟨fs, hr, hrun, hended, hW, hsame⟩ := X.leave (v := some (.int (nar t v))) (fun q => by rw [hret] at q; cases q)
  exact ⟨_, _, retN X hx hret ht hd hr, hrun, hended, _, _, rfl, ⟨N, by show P _ T.heap; rw [eT]; exact hP⟩, ⟨_, rfl⟩, hW, hsame.mono hk hn⟩
theorem own_retL (X : own_X p l e R s m args below meth c Z bytes maxL (some .long) y n0 h T k n) (hd : decode bytes pc = .ok (.lreturn, 1)) {v : Int64} (hk : k ≤ C) (hn : n ≤ S) (hP : P (some (.long v)) h) : own_G p e below (T.setTop (mkF m pc ls [.long v])) (own_E s n0 P C S) := by
  obtain ⟨⟨hx, hby, hml, hown, hnm, hret, hZ, hlk⟩, -, eT, locs, X, N⟩ := X
  subst hby
  obtain ⟨fs, hr, hrun, hended, hW, hsame⟩ := X.leave (v := some (.long v)) (fun q => by rw [hret] at q; cases q)
  exact ⟨_, _, X.lreturnOut hx hret hd hr, hrun, hended, _, _, rfl, ⟨N, by show P _ T.heap; rw [eT]; exact hP⟩, ⟨_, rfl⟩, hW, hsame.mono hk hn⟩
theorem own_retA {t : FieldType} (X : own_X p l e R s m args below meth c Z bytes maxL (some t) y n0 h T k n) (ht : t.isReference = true) (hd : decode bytes pc = .ok (.areturn, 1)) {v : Addr} (hk : k ≤ C) (hn : n ≤ S) (hP : P (some (.ref v)) h) : own_G p e below (T.setTop (mkF m pc ls [.ref v])) (own_E s n0 P C S) := by
  obtain ⟨⟨hx, hby, hml, hown, hnm, hret, hZ, hlk⟩, -, eT, locs, X, N⟩ := X
  subst hby
  obtain ⟨fs, hr, hrun, hended, hW, hsame⟩ := X.leave (v := some (.ref v)) (fun q => by rw [hret] at q; cases q)
  exact ⟨_, _, X.areturnOut hx rfl hret ht hd hr, hrun, hended, _, _, rfl, ⟨N, by show P _ T.heap; rw [eT]; exact hP⟩, ⟨_, rfl⟩, hW, hsame.mono hk hn⟩
theorem own_retV (X : own_X p l e R s m args below meth c Z bytes maxL none y n0 h T k n) (hd : decode bytes pc = .ok (.return_, 1)) (hk : k ≤ C) (hn : n ≤ S) (hP : P none h) : own_G p e below (T.setTop (mkF m pc ls [])) (own_E s n0 P C S) := by
  obtain ⟨⟨hx, hby, hml, hown, hnm, hret, hZ, hlk⟩, -, eT, locs, X, N⟩ := X
  subst hby
  obtain ⟨fs, hr, hrun, hended, hW, hsame⟩ := X.leave (v := none) (fun _ => rfl)
  exact ⟨_, _, X.returnOut hx hret hd hr, hrun, hended, _, _, rfl, ⟨N, by show P _ T.heap; rw [eT]; exact hP⟩, ⟨_, rfl⟩, hW, hsame.mono hk hn⟩
/-! calls -/
theorem own_callS (X : own_X p l e R s m args below meth c Z bytes maxL ret y n0 h T k n) {i : Nat} {z : MethodName} {zb : ByteArray} {zl : Nat} {zr : Option FieldType} {rm : Room} {as : Array Value} {P : Option Value → Heap → Prop}
    (w1 : (Jvm.Cond.methodLink y.cls i z).before a0 Z = true) (w2 : (Jvm.Cond.static z).before a0 Z = true) (w3 : (Jvm.Cond.initialized z.cls).before a0 Z = true) (w4 : (Jvm.Cond.code z zb zl zr).before a0 Z = true) (hy : z.cls ≠ "java/lang/invoke/MethodHandle" ∧ z.cls ≠ "java/lang/invoke/VarHandle")
    (K : own_C l Z z zb zl zr rm as h n0 P) (hd : decode bytes pc = .ok (.invokestatic i, 3)) (argsL rest : List Value) (hst : st = argsL.reverse ++ rest) (has : argsL.toArray = as) {ps : List FieldType} {pr : Option FieldType} (hsg : parseMethodDescriptor z.desc = some ⟨ps, pr⟩) (hlen : argsL.length = ps.length) (hsz : ls.size = maxL)
    (hf : rm.frames + 1 ≤ R.frames) (hl : (rest.map fun v => v.category).sum + (zl + 11) + rm.locals ≤ R.locals) (hc : k + rm.cells ≤ R.cells) (hs : n + rm.slots ≤ R.slots) (hn : ∀ v h', P v h' → n0 ≤ h'.size)
    (g : ∀ v h' T', own_X p l e R s m args below meth c Z bytes maxL ret y n0 h' T' (k + rm.cells) (n + rm.slots) → P v h' → own_G p e below (T'.setTop (mkF m (pc + 3) ls (v.toList ++ rest))) Q) : own_G p e below (T.setTop (mkF m pc ls st)) Q := by
  obtain ⟨M, hn0, eT, locs, X, N⟩ := X
  have M' := M
  obtain ⟨hx, hby, hml, hown, hnm, hret, hZ, hlk⟩ := M'
  subst hby hst has
  obtain ⟨v, vm₁, B, -, X', ⟨L, hq, l1, l2, l3⟩, stp⟩ := Jvm.LawKit.callS X hx (y := z) hown (mvT hZ w1) (mvT hZ w2) (mvT hZ w3) (mvT hZ w4) hy (backOf (W := (rest.map fun v => v.category).sum) (Q := fun v h' L => Fr n0 L ∧ P v h') (K []) hZ w4 w3 hf hl) (g := mkF m pc ls (argsL.reverse ++ rest)) rfl (hsz.trans hml.symm) (argsL := argsL) (rest := rest)
    (lenOf hsg hlen) rfl (Nat.le_of_eq (Nat.zero_add _)) hd (fun _ _ => ⟨rfl, eT, hc, hs⟩)
  obtain ⟨U, Lc, k', n'⟩ := B
  dsimp only [Pt.U, Pt.locs, Pt.cells, Pt.slots] at X' hq l1 l2 l3 stp
  subst l1 l2 l3
  exact own_st stp (g v U.heap U ⟨M, hn v _ hq.2, rfl, _, X', Fr.app N hq.1⟩ hq.2)
theorem own_callP (X : own_X p l e R s m args below meth c Z bytes maxL ret y n0 h T k n) {i : Nat} {z : MethodName} {zb : ByteArray} {zl : Nat} {zr : Option FieldType} {rm : Room} {as : Array Value} {v : Option Value}
    (w1 : (Jvm.Cond.methodLink y.cls i z).before a0 Z = true) (w2 : (Jvm.Cond.static z).before a0 Z = true) (w3 : (Jvm.Cond.initialized z.cls).before a0 Z = true) (w4 : (Jvm.Cond.code z zb zl zr).before a0 Z = true) (hy : z.cls ≠ "java/lang/invoke/MethodHandle" ∧ z.cls ≠ "java/lang/invoke/VarHandle")
    (K : own_C l Z z zb zl zr rm as h n0 (fun v' h' => v' = v ∧ h' = h)) (hd : decode bytes pc = .ok (.invokestatic i, 3)) (argsL rest : List Value) (hst : st = argsL.reverse ++ rest) (has : argsL.toArray = as) {ps : List FieldType} {pr : Option FieldType} (hsg : parseMethodDescriptor z.desc = some ⟨ps, pr⟩) (hlen : argsL.length = ps.length) (hsz : ls.size = maxL)
    (hf : rm.frames + 1 ≤ R.frames) (hl : (rest.map fun v => v.category).sum + (zl + 11) + rm.locals ≤ R.locals) (hc : k + rm.cells ≤ R.cells) (hs : n + rm.slots ≤ R.slots)
    (g : ∀ T', own_X p l e R s m args below meth c Z bytes maxL ret y n0 h T' (k + rm.cells) (n + rm.slots) → own_G p e below (T'.setTop (mkF m (pc + 3) ls (v.toList ++ rest))) Q) : own_G p e below (T.setTop (mkF m pc ls st)) Q :=
  own_callS X w1 w2 w3 w4 hy K hd argsL rest hst has hsg hlen hsz hf hl hc hs (fun v h' q => by rw [q.2]; exact X.2.1) (fun v' h' T' X' q => by obtain ⟨q1, q2⟩ := q; subst q1; rw [q2] at X'; exact g T' X')
theorem own_callN (X : own_X p l e R s m args below meth c Z bytes maxL ret y n0 h T k n) {i : Nat} {z : MethodName} {zb : ByteArray} {zl : Nat} {rm : Room} {as : Array Value} {P : Option Value → Heap → Prop} (hz : z.name = "<init>")
    (w1 : (Jvm.Cond.methodLink y.cls i z).before a0 Z = true) (w2 : (Jvm.Cond.instanceMethod z).before a0 Z = true) (w3 : (Jvm.Cond.initialized z.cls).before a0 Z = true) (w4 : (Jvm.Cond.code z zb zl none).before a0 Z = true) (hy : z.cls ≠ "java/lang/invoke/MethodHandle" ∧ z.cls ≠ "java/lang/invoke/VarHandle")
    (K : own_C l Z z zb zl none rm as h n0 P) (hd : decode bytes pc = .ok (.invokespecial i, 3)) {a : Addr} (argsL rest : List Value) (hst : st = argsL.reverse ++ .ref a :: rest) (has : (.ref a :: argsL).toArray = as) {ps : List FieldType} {pr : Option FieldType} (hsg : parseMethodDescriptor z.desc = some ⟨ps, pr⟩) (hlen : argsL.length = ps.length) (hsz : ls.size = maxL)
    (hf : rm.frames + 1 ≤ R.frames) (hl : (rest.map fun v => v.category).sum + (zl + 11) + rm.locals ≤ R.locals) (hc : k + rm.cells ≤ R.cells) (hs : n + rm.slots ≤ R.slots) (hn : ∀ v h', P v h' → n0 ≤ h'.size)
    (g : ∀ v h' T', own_X p l e R s m args below meth c Z bytes maxL ret y n0 h' T' (k + rm.cells) (n + rm.slots) → P v h' → own_G p e below (T'.setTop (mkF m (pc + 3) ls (v.toList ++ rest))) Q) : own_G p e below (T.setTop (mkF m pc ls st)) Q := by
  obtain ⟨M, hn0, eT, locs, X, N⟩ := X
  have M' := M
  obtain ⟨hx, hby, hml, hown, hnm, hret, hZ, hlk⟩ := M'
  subst hby hst has
  obtain ⟨v, vm₁, B, -, X', ⟨L, hq, l1, l2, l3⟩, stp⟩ := X.specialBack hx (y := z) hz hown (mvT hZ w1) (mvT hZ w2) (mvT hZ w4) hy (backOf (W := (rest.map fun v => v.category).sum) (Q := fun v h' L => Fr n0 L ∧ P v h') (K []) hZ w4 w3 hf hl) (g := mkF m pc ls (argsL.reverse ++ .ref a :: rest)) rfl (hsz.trans hml.symm) (Steps.refl _) (a := a) (argsL := argsL) (rest := rest)
    (lenOf hsg hlen) rfl (Nat.le_of_eq (Nat.zero_add _)) hd (fun _ _ => ⟨rfl, eT, hc, hs⟩)
  obtain ⟨U, Lc, k', n'⟩ := B
  dsimp only [Pt.U, Pt.locs, Pt.cells, Pt.slots] at X' hq l1 l2 l3 stp
  subst l1 l2 l3
  exact own_st (fun t q => stp.trans q) (g v U.heap U ⟨M, hn v _ hq.2, rfl, _, X', Fr.app N hq.1⟩ hq.2)
theorem own_callV (X : own_X p l e R s m args below meth c Z bytes maxL ret y n0 h T k n) {i : Nat} {z : MethodName} {zb : ByteArray} {zl : Nat} {zr : Option FieldType} {rm : Room} {as : Array Value} {P : Option Value → Heap → Prop}
    (w1 : (Jvm.Cond.methodLink y.cls i z).before a0 Z = true) (w2 : (Jvm.Cond.declares z).before a0 Z = true) (w5 : (Jvm.Cond.selects z.cls z z).before a0 Z = true) (w6 : (Jvm.Cond.instanceMethod z).before a0 Z = true) (w3 : (Jvm.Cond.initialized z.cls).before a0 Z = true) (w4 : (Jvm.Cond.code z zb zl zr).before a0 Z = true) (hy : z.cls ≠ "java/lang/invoke/MethodHandle" ∧ z.cls ≠ "java/lang/invoke/VarHandle")
    {a : Addr} (E : Exa Z h a z.cls) (K : own_C l Z z zb zl zr rm as h n0 P) (hd : decode bytes pc = .ok (.invokevirtual i, 3)) (argsL rest : List Value) (hst : st = argsL.reverse ++ .ref a :: rest) (has : (.ref a :: argsL).toArray = as) {ps : List FieldType} {pr : Option FieldType} (hsg : parseMethodDescriptor z.desc = some ⟨ps, pr⟩) (hlen : argsL.length = ps.length) (hsz : ls.size = maxL)
    (hf : rm.frames + 1 ≤ R.frames) (hl : (rest.map fun v => v.category).sum + (zl + 11) + rm.locals ≤ R.locals) (hc : k + rm.cells ≤ R.cells) (hs : n + rm.slots ≤ R.slots) (hn : ∀ v h', P v h' → n0 ≤ h'.size)
    (g : ∀ v h' T', own_X p l e R s m args below meth c Z bytes maxL ret y n0 h' T' (k + rm.cells) (n + rm.slots) → P v h' → own_G p e below (T'.setTop (mkF m (pc + 3) ls (v.toList ++ rest))) Q) : own_G p e below (T.setTop (mkF m pc ls st)) Q := by
  obtain ⟨M, hn0, eT, locs, X, N⟩ := X
  have M' := M
  obtain ⟨hx, hby, hml, hown, hnm, hret, hZ, hlk⟩ := M'
  subst hby hst has
  obtain ⟨cq, kq, qa, qb, qc⟩ := isOf hZ eT E
  obtain ⟨v, vm₁, B, -, X', ⟨L, hq, l1, l2, l3⟩, stp⟩ := X.virtualBack hx (y := z) (z := z) hown (mvT hZ w1) (mvT hZ w2) (notFace_of_selects (args := #[]) (mvT hZ w5)) (mvT hZ w5) (mvT hZ w6) hy (backOf (W := (rest.map fun v => v.category).sum) (Q := fun v h' L => Fr n0 L ∧ P v h') (K []) hZ w4 w3 hf hl) qa qc (g := mkF m pc ls (argsL.reverse ++ .ref a :: rest)) rfl (hsz.trans hml.symm) (Steps.refl _) (argsL := argsL) (rest := rest)
    (lenOf hsg hlen) rfl (Nat.le_of_eq (Nat.zero_add _)) hd (fun _ _ => ⟨rfl, eT, hc, hs⟩)
  obtain ⟨U, Lc, k', n'⟩ := B
  dsimp only [Pt.U, Pt.locs, Pt.cells, Pt.slots] at X' hq l1 l2 l3 stp
  subst l1 l2 l3
  exact own_st (fun t q => stp.trans q) (g v U.heap U ⟨M, hn v _ hq.2, rfl, _, X', Fr.app N hq.1⟩ hq.2)
/-! fields -/
theorem own_getF (X : own_X p l e R s m args below meth c Z bytes maxL ret y n0 h T k n) {i : Nat} {O f d : String} (w : (Jvm.Cond.fieldLink y.cls i O f d).before a0 Z = true) {a : Addr} {v : Value} (F : Fld Z h a O f d v) (hd : decode bytes pc = .ok (.getfield i, 3))
    (g : ∀ T', own_X p l e R s m args below meth c Z bytes maxL ret y n0 h T' k n → own_G p e below (T'.setTop (mkF m (pc + 3) ls (v :: st))) Q) : own_G p e below (T.setTop (mkF m pc ls (.ref a :: st))) Q := by
  obtain ⟨M, hn0, eT, locs, X, N⟩ := X
  have M' := M
  obtain ⟨hx, hby, hml, hown, hnm, hret, hZ, hlk⟩ := M'
  subst hby
  obtain ⟨T', X', e', stp⟩ := getF X hx hZ hown (host := "") (Or.inl w) Via.refl eT F (g := mkF m pc ls (.ref a :: st)) rfl rfl hd
  exact own_st stp (g T' ⟨M, hn0, e', _, X', N⟩)
theorem own_putF (X : own_X p l e R s m args below meth c Z bytes maxL ret y n0 h T k n) {i kk : Nat} {O f d K : String} {ty : FieldType} (w : (Jvm.Cond.fieldLink y.cls i O f d).before a0 Z = true) {a : Addr} {v old : Value} (F : Fld Z h a O f d old) (E : Exa Z h a K) (L : (Jvm.Cond.lays K O f d).before a0 Z = true ∨ ((Jvm.Cond.laysFinal K O f d).before a0 Z = true ∧ y.cls = O ∧ y.name = "<init>")) (wi : (Jvm.Cond.instantiable K kk).before a0 Z = true)
    (hty : parseFieldDescriptor d = some ty) (hn : narrow ty v = v) (hf : fits ty v = true) (ha : n0 ≤ a) (hd : decode bytes pc = .ok (.putfield i, 3))
    (g : ∀ h' T', own_X p l e R s m args below meth c Z bytes maxL ret y n0 h' T' k n → Wr h h' a (Jvm.RoadKit.slotOf Z O f d) v → own_G p e below (T'.setTop (mkF m (pc + 3) ls st)) Q) : own_G p e below (T.setTop (mkF m pc ls (v :: .ref a :: st))) Q := by
  obtain ⟨M, hn0, eT, locs, X, N⟩ := X
  have M' := M
  obtain ⟨hx, hby, hml, hown, hnm, hret, hZ, hlk⟩ := M'
  subst hby
  obtain ⟨T', h', X', e', W', stp⟩ := putF X hx hZ hown (host := "") (Or.inl w) Via.refl eT F E (L.imp id fun q => ⟨q.1, q.2.1, hnm.trans q.2.2⟩) wi hty hn hf (g := mkF m pc ls (v :: .ref a :: st)) rfl rfl hd
  exact own_st stp (g h' T' ⟨M, by rw [W'.size]; exact hn0, e', _, X', Fr.snoc X' N ha⟩ W')
/-! new -/
theorem own_newO (X : own_X p l e R s m args below meth c Z bytes maxL ret y n0 h T k n) {i nn : Nat} {K : String} (w : (Jvm.Cond.classLink y.cls i K).before a0 Z = true) (wi : (Jvm.Cond.instantiable K nn).before a0 Z = true) (wz : (Jvm.Cond.initialized K).before a0 Z = true) (hd : decode bytes pc = .ok (.new i, 3)) (hc : k + 1 ≤ R.cells) (hs : n + nn ≤ R.slots)
    (g : ∀ h' T', own_X p l e R s m args below meth c Z bytes maxL ret y n0 h' T' (k + 1) (n + nn) → Ext h h' → Exa Z h' h.size K → (∀ {O nm d : String} {ty : FieldType}, Laid Z a0 K O nm d → parseFieldDescriptor d = some ty → Fld Z h' h.size O nm d (defaultValue ty)) → own_G p e below (T'.setTop (mkF m (pc + 3) ls (.ref h.size :: st))) Q) : own_G p e below (T.setTop (mkF m pc ls st)) Q := by
  obtain ⟨M, hn0, eT, locs, X, N⟩ := X
  have M' := M
  obtain ⟨hx, hby, hml, hown, hnm, hret, hZ, hlk⟩ := M'
  subst hby
  obtain ⟨T', h', X', e', E', A', D', -, stp⟩ := newO X hx hZ hown w wi wz eT (g := mkF m pc ls st) rfl hd hc hs
  exact own_st stp (g h' T' ⟨M, Nat.le_trans hn0 E'.1, e', _, X', N⟩ E' A' D')
end Walk
/-! ### own layer 3: arrays: the array at a has n places, place j holds f j -/
def own_A (Z : State) (h : Heap) (a : Addr) (ty : FieldType) (n : Nat) (f : Int → Value) : Prop := n < 2147483648 ∧ ∃ c : Cell, Arr Z h a c ty ∧ c.slots.size = n ∧ ∀ j : Nat, j < n → c.slots[j]? = some (f (j : Int))
def own_u {α : Type} (f : Int → α) (i : Int) (x : α) : Int → α := fun j => if j = i then x else f j
section Arrs
variable {Z : State} {h h' : Heap} {a b : Addr} {ty : FieldType} {n : Nat} {f : Int → Value}
theorem own_A_lt (A : own_A Z h a ty n f) : a < h.size := by obtain ⟨-, c, A, -⟩ := A; exact A.lt
theorem own_A_ext (A : own_A Z h a ty n f) (E : Ext h h') : own_A Z h' a ty n f := by obtain ⟨q, c, A, r⟩ := A; exact ⟨q, c, A.ext E, r⟩
theorem own_A_other (A : own_A Z h b ty n f) {sl : Nat} {v : Value} (W : Wr h h' a sl v) (q : b ≠ a) : own_A Z h' b ty n f := by obtain ⟨q1, c, A, r⟩ := A; exact ⟨q1, c, A.other W q, r⟩
theorem own_A_keep (A : own_A Z h a ty n f) {ws : List Addr} (K : Keep h h' ws) (q : a ∉ ws) : own_A Z h' a ty n f := by obtain ⟨q1, c, A, r⟩ := A; exact ⟨q1, c, ⟨K.2.1 a c A.1 q, A.2⟩, r⟩
theorem own_A_new {k : ClassId} {z : Int32} (A : Arr Z h a (newA k ty z) ty) (q : 0 ≤ z.toInt) : own_A Z h a ty z.toInt.toNat (fun _ => defaultValue ty) := by
  have := Int32.toInt_lt z
  refine ⟨by omega, _, A, by rw [sz_new]; rfl, fun j hj => ?_⟩
  have hj' : j < z.toNatClampNeg := hj
  simp [newA, hj']
theorem own_A_set {sl : Nat} {v : Value} (A : own_A Z h a ty n f) (W : Wr h h' a sl v) (i : Int) (hi : i = (sl : Int)) : own_A Z h' a ty n (own_u f i v) := by
  obtain ⟨q, c, A, S, H⟩ := A
  have W0 := W
  obtain ⟨c2, g1, -, g3, -⟩ := W0
  cases g1.symm.trans A.1
  refine ⟨q, _, A.same W, by rw [sz_set]; exact S, fun j hj => ?_⟩
  subst hi
  by_cases u : j = sl
  · subst u; simp [Cell.setSlot, own_u, g3]
  · have e1 : ¬ ((j : Int) = (sl : Int)) := by omega
    simp only [own_u, e1, if_false, Cell.setSlot]
    rw [Array.getElem?_setIfInBounds_ne (fun q => u q.symm)]
    exact H j hj
theorem own_A_eq {g : Int → Value} (A : own_A Z h a ty n f) (q : ∀ j : Int, 0 ≤ j → j < n → g j = f j) : own_A Z h a ty n g := by
  obtain ⟨q1, c, A, S, H⟩ := A
  exact ⟨q1, c, A, S, fun j hj => by rw [H j hj, q j (by omega) (by omega)]⟩
theorem own_tnc (j : Int32) : j.toNatClampNeg = j.toInt.toNat := rfl
theorem own_z32 : (0 : Int32).toInt = 0 := rfl
theorem own_idx {j : Int32} (h0 : 0 ≤ j.toInt) : ¬ j < 0 := by rw [Int32.lt_iff_toInt_lt, own_z32]; omega
theorem own_inb {j : Int32} {cl : Cell} (S : cl.slots.size = n) (h0 : 0 ≤ j.toInt) (h1 : j.toInt < n) : ¬ (j < 0 ∨ cl.slots.size ≤ j.toNatClampNeg) := by
  rw [Int32.lt_iff_toInt_lt, S, own_z32, own_tnc]; omega
theorem own_nat {j : Int32} (h0 : 0 ≤ j.toInt) : j.toInt = (j.toNatClampNeg : Int) := by rw [own_tnc]; omega
end Arrs
/-- the same, of ints -/
def own_I (Z : State) (h : Heap) (a : Addr) (ty : FieldType) (n : Nat) (g : Int → Int32) : Prop := own_A Z h a ty n (fun j => .int (g j))
theorem own_I_ext {Z : State} {h h' : Heap} {a : Addr} {ty : FieldType} {n : Nat} {g : Int → Int32} (A : own_I Z h a ty n g) (E : Ext h h') : own_I Z h' a ty n g := own_A_ext A E
theorem own_I_other {Z : State} {h h' : Heap} {a b : Addr} {ty : FieldType} {n : Nat} {g : Int → Int32} (A : own_I Z h b ty n g) {sl : Nat} {v : Value} (W : Wr h h' a sl v) (q : b ≠ a) : own_I Z h' b ty n g := own_A_other A W q
theorem own_I_keep {Z : State} {h h' : Heap} {a : Addr} {ty : FieldType} {n : Nat} {g : Int → Int32} (A : own_I Z h a ty n g) {ws : List Addr} (K : Keep h h' ws) (q : a ∉ ws) : own_I Z h' a ty n g := own_A_keep A K q
theorem own_I_eq {Z : State} {h : Heap} {a : Addr} {ty : FieldType} {n : Nat} {f g : Int → Int32} (A : own_I Z h a ty n f) (q : ∀ j : Int, 0 ≤ j → j < n → g j = f j) : own_I Z h a ty n g := own_A_eq A (fun j h0 h1 => by rw [q j h0 h1])
theorem own_I_set {Z : State} {h h' : Heap} {a : Addr} {ty : FieldType} {n : Nat} {g : Int → Int32} {sl : Nat} {x : Int32} (A : own_I Z h a ty n g) (W : Wr h h' a sl (.int x)) (i : Int) (hi : i = (sl : Int)) : own_I Z h' a ty n (own_u g i x) :=
  own_A_eq (own_A_set A W i hi) (fun j _ _ => by simp only [own_u]; split <;> rfl)
theorem own_u_ne {α : Type} {g : Int → α} {i j : Int} {x : α} (h : j ≠ i) : own_u g i x j = g j := if_neg h
theorem own_u_eq {α : Type} {g : Int → α} {i j : Int} {x : α} (h : j = i) : own_u g i x j = x := if_pos h
section Arrs2
variable {p : Program} {l : Launch} {e : Env} {R : Room} {s : State} {m : MethodId} {args : Array Value} {below : List Frame} {meth : Method} {c : Code} {Z : State} {bytes : ByteArray} {maxL : Nat} {ret : Option FieldType} {y : MethodName} {n0 : Nat} {h : Heap} {T : State} {k n : Nat} {Q : Outcome → State → Prop} {pc pc' : Nat} {ls ls' : Array Slot} {st st' : List Value} {a0 : Array Value} {a : Addr} {nn : Nat} {f : Int → Value} {gg : Int → Int32}
theorem own_len (X : own_X p l e R s m args below meth c Z bytes maxL ret y n0 h T k n) {ty : FieldType} (A : own_A Z h a ty nn f) (hd : decode bytes pc = .ok (.arraylength, 1)) (g : own_G p e below (T.setTop (mkF m (pc + 1) ls (.int (Int32.ofNat nn) :: st))) Q) : own_G p e below (T.setTop (mkF m pc ls (.ref a :: st))) Q := by
  obtain ⟨⟨hx, hby, hml, hown, hnm, hret, hZ, hlk⟩, hn0, eT, locs, X, N⟩ := X
  obtain ⟨q, cl, A, S, H⟩ := A
  subst hby
  refine own_st (fun t q => X.arraylength hx (by rw [eT]; exact A.1) (State.isArrayOf_alike hZ.alike A.2.1) (g := mkF m pc ls (.ref a :: st)) rfl rfl hd t q) ?_
  show own_G p e below (T.setTop (mkF m (pc + 1) ls (.int cl.slots.size.toInt32 :: st))) Q
  rw [S]
  exact g
theorem own_iald (X : own_X p l e R s m args below meth c Z bytes maxL ret y n0 h T k n) (A : own_I Z h a .int nn gg) (hd : decode bytes pc = .ok (.iaload, 1)) {j : Int32} (h0 : 0 ≤ j.toInt) (h1 : j.toInt < nn) (g : own_G p e below (T.setTop (mkF m (pc + 1) ls (.int (gg j.toInt) :: st))) Q) : own_G p e below (T.setTop (mkF m pc ls (.int j :: .ref a :: st))) Q := by
  obtain ⟨⟨hx, hby, hml, hown, hnm, hret, hZ, hlk⟩, hn0, eT, locs, X, N⟩ := X
  obtain ⟨q, cl, A, S, H⟩ := A
  subst hby
  have e1 := own_nat h0
  refine own_st (fun t q => X.iaload hx (by rw [eT]; exact A.1) (State.isArrayOf_alike hZ.alike A.2.1) A.2.2 (own_inb S h0 h1) (H _ (by omega)) (g := mkF m pc ls (.int j :: .ref a :: st)) rfl rfl hd t q) ?_
  show own_G p e below (T.setTop (mkF m (pc + 1) ls (.int (gg (j.toNatClampNeg : Int)) :: st))) Q
  rw [← e1]
  exact g
theorem own_bald (X : own_X p l e R s m args below meth c Z bytes maxL ret y n0 h T k n) (A : own_I Z h a .byte nn gg) (hd : decode bytes pc = .ok (.baload, 1)) {j : Int32} (h0 : 0 ≤ j.toInt) (h1 : j.toInt < nn) (g : own_G p e below (T.setTop (mkF m (pc + 1) ls (.int (gg j.toInt) :: st))) Q) : own_G p e below (T.setTop (mkF m pc ls (.int j :: .ref a :: st))) Q := by
  obtain ⟨⟨hx, hby, hml, hown, hnm, hret, hZ, hlk⟩, hn0, eT, locs, X, N⟩ := X
  obtain ⟨q, cl, A, S, H⟩ := A
  subst hby
  have e1 := own_nat h0
  refine own_st (fun t q => X.baloadBytes hx (by rw [eT]; exact A.1) (State.isArrayOf_alike hZ.alike A.2.1) A.2.2 (own_inb S h0 h1) (H _ (by omega)) (g := mkF m pc ls (.int j :: .ref a :: st)) rfl rfl hd t q) ?_
  show own_G p e below (T.setTop (mkF m (pc + 1) ls (.int (gg (j.toNatClampNeg : Int)) :: st))) Q
  rw [← e1]
  exact g
theorem own_zald (X : own_X p l e R s m args below meth c Z bytes maxL ret y n0 h T k n) (A : own_I Z h a .boolean nn gg) (hd : decode bytes pc = .ok (.baload, 1)) {j : Int32} (h0 : 0 ≤ j.toInt) (h1 : j.toInt < nn) (g : own_G p e below (T.setTop (mkF m (pc + 1) ls (.int (gg j.toInt) :: st))) Q) : own_G p e below (T.setTop (mkF m pc ls (.int j :: .ref a :: st))) Q := by
  obtain ⟨⟨hx, hby, hml, hown, hnm, hret, hZ, hlk⟩, hn0, eT, locs, X, N⟩ := X
  obtain ⟨q, cl, A, S, H⟩ := A
  subst hby
  have e1 := own_nat h0
  refine own_st (fun t q => X.baloadBooleans hx (by rw [eT]; exact A.1) (State.isArrayOf_alike hZ.alike A.2.1) A.2.2 (own_inb S h0 h1) (H _ (by omega)) (g := mkF m pc ls (.int j :: .ref a :: st)) rfl rfl hd t q) ?_
  show own_G p e below (T.setTop (mkF m (pc + 1) ls (.int (gg (j.toNatClampNeg : Int)) :: st))) Q
  rw [← e1]
  exact g
theorem own_iast (X : own_X p l e R s m args below meth c Z bytes maxL ret y n0 h T k n) (A : own_I Z h a .int nn gg) (ha : n0 ≤ a) (hd : decode bytes pc = .ok (.iastore, 1)) {j x : Int32} (h0 : 0 ≤ j.toInt) (h1 : j.toInt < nn)
    (g : ∀ h' T', own_X p l e R s m args below meth c Z bytes maxL ret y n0 h' T' k n → own_I Z h' a .int nn (own_u gg j.toInt x) → Wr h h' a j.toNatClampNeg (.int x) → own_G p e below (T'.setTop (mkF m (pc + 1) ls st)) Q) : own_G p e below (T.setTop (mkF m pc ls (.int x :: .int j :: .ref a :: st))) Q := by
  obtain ⟨M, hn0, eT, locs, X, N⟩ := X
  have M' := M
  obtain ⟨hx, hby, hml, hown, hnm, hret, hZ, hlk⟩ := M'
  have AA := A
  obtain ⟨q, cl, A, S, H⟩ := A
  subst hby
  obtain ⟨T', h', X', e', W', stp⟩ := stI X hx hZ eT A (own_inb S h0 h1) (g := mkF m pc ls (.int x :: .int j :: .ref a :: st)) rfl rfl hd
  exact own_st stp (g h' T' ⟨M, by rw [W'.size]; exact hn0, e', _, X', Fr.snoc X' N ha⟩ (own_I_set AA W' _ (own_nat h0)) W')
theorem own_bast (X : own_X p l e R s m args below meth c Z bytes maxL ret y n0 h T k n) (A : own_I Z h a .byte nn gg) (ha : n0 ≤ a) (hd : decode bytes pc = .ok (.bastore, 1)) {j x : Int32} (h0 : 0 ≤ j.toInt) (h1 : j.toInt < nn) (hx8 : x.toInt8.toInt32 = x)
    (g : ∀ h' T', own_X p l e R s m args below meth c Z bytes maxL ret y n0 h' T' k n → own_I Z h' a .byte nn (own_u gg j.toInt x) → Wr h h' a j.toNatClampNeg (.int x) → own_G p e below (T'.setTop (mkF m (pc + 1) ls st)) Q) : own_G p e below (T.setTop (mkF m pc ls (.int x :: .int j :: .ref a :: st))) Q := by
  obtain ⟨M, hn0, eT, locs, X, N⟩ := X
  have M' := M
  obtain ⟨hx, hby, hml, hown, hnm, hret, hZ, hlk⟩ := M'
  have AA := A
  obtain ⟨q, cl, A, S, H⟩ := A
  subst hby
  obtain ⟨T', h', X', e', W', stp⟩ := stB X hx hZ eT A (own_inb S h0 h1) (g := mkF m pc ls (.int x :: .int j :: .ref a :: st)) rfl rfl hd
  have W2 : Wr h h' a j.toNatClampNeg (.int x) := by have q := W'; simp only [nar, hx8] at q; exact q
  exact own_st stp (g h' T' ⟨M, by rw [W'.size]; exact hn0, e', _, X', Fr.snoc X' N ha⟩ (own_I_set AA W2 _ (own_nat h0)) W2)
theorem own_zast (X : own_X p l e R s m args below meth c Z bytes maxL ret y n0 h T k n) (A : own_I Z h a .boolean nn gg) (ha : n0 ≤ a) (hd : decode bytes pc = .ok (.bastore, 1)) {j x : Int32} (h0 : 0 ≤ j.toInt) (h1 : j.toInt < nn) (hx1 : x &&& 1 = x)
    (g : ∀ h' T', own_X p l e R s m args below meth c Z bytes maxL ret y n0 h' T' k n → own_I Z h' a .boolean nn (own_u gg j.toInt x) → Wr h h' a j.toNatClampNeg (.int x) → own_G p e below (T'.setTop (mkF m (pc + 1) ls st)) Q) : own_G p e below (T.setTop (mkF m pc ls (.int x :: .int j :: .ref a :: st))) Q := by
  obtain ⟨M, hn0, eT, locs, X, N⟩ := X
  have M' := M
  obtain ⟨hx, hby, hml, hown, hnm, hret, hZ, hlk⟩ := M'
  have AA := A
  obtain ⟨q, cl, A, S, H⟩ := A
  subst hby
  obtain ⟨T', h', X', e', W', stp⟩ := stZ X hx hZ eT A (own_inb S h0 h1) (g := mkF m pc ls (.int x :: .int j :: .ref a :: st)) rfl rfl hd
  have W2 : Wr h h' a j.toNatClampNeg (.int x) := by have q := W'; simp only [nar, hx1] at q; exact q
  exact own_st stp (g h' T' ⟨M, by rw [W'.size]; exact hn0, e', _, X', Fr.snoc X' N ha⟩ (own_I_set AA W2 _ (own_nat h0)) W2)
theorem own_jast (X : own_X p l e R s m args below meth c Z bytes maxL ret y n0 h T k n) (A : own_A Z h a .long nn f) (ha : n0 ≤ a) (hd : decode bytes pc = .ok (.lastore, 1)) {j : Int32} {x : Int64} (h0 : 0 ≤ j.toInt) (h1 : j.toInt < nn)
    (g : ∀ h' T', own_X p l e R s m args below meth c Z bytes maxL ret y n0 h' T' k n → own_A Z h' a .long nn (own_u f j.toInt (.long x)) → Wr h h' a j.toNatClampNeg (.long x) → own_G p e below (T'.setTop (mkF m (pc + 1) ls st)) Q) : own_G p e below (T.setTop (mkF m pc ls (.long x :: .int j :: .ref a :: st))) Q := by
  obtain ⟨M, hn0, eT, locs, X, N⟩ := X
  have M' := M
  obtain ⟨hx, hby, hml, hown, hnm, hret, hZ, hlk⟩ := M'
  have AA := A
  obtain ⟨q, cl, A, S, H⟩ := A
  subst hby
  obtain ⟨T', h', X', e', W', stp⟩ := stJ X hx hZ eT A (own_inb S h0 h1) (g := mkF m pc ls (.long x :: .int j :: .ref a :: st)) rfl rfl hd
  exact own_st stp (g h' T' ⟨M, by rw [W'.size]; exact hn0, e', _, X', Fr.snoc X' N ha⟩ (own_A_set AA W' _ (own_nat h0)) W')
theorem own_newP (X : own_X p l e R s m args below meth c Z bytes maxL ret y n0 h T k n) {aty : ArrayType} (w : (Jvm.Cond.arrayClass (newarray.typeOf aty)).before a0 Z = true) (hd : decode bytes pc = .ok (.newarray aty, 2)) {v : Int32} (h0 : 0 ≤ v.toInt) (cap : Nat) (hcap : v.toInt ≤ cap) (hb : cap * 8 ≤ 536870912) (hc : k + 1 ≤ R.cells) (hs : n + cap ≤ R.slots)
    (g : ∀ h' T', own_X p l e R s m args below meth c Z bytes maxL ret y n0 h' T' (k + 1) (n + cap) → Ext h h' → own_A Z h' h.size (newarray.typeOf aty) v.toInt.toNat (fun _ => defaultValue (newarray.typeOf aty)) → own_G p e below (T'.setTop (mkF m (pc + 2) ls (.ref h.size :: st))) Q) : own_G p e below (T.setTop (mkF m pc ls (.int v :: st))) Q := by
  obtain ⟨M, hn0, eT, locs, X, N⟩ := X
  have M' := M
  obtain ⟨hx, hby, hml, hown, hnm, hret, hZ, hlk⟩ := M'
  subst hby
  have e1 := own_nat h0
  obtain ⟨T', h', cA, X', e', E', A', stp⟩ := newP X hx hZ w eT (g := mkF m pc ls (.int v :: st)) rfl hd rfl (own_idx h0) (cap := cap) (by omega) hb hc hs
  exact own_st stp (g h' T' ⟨M, Nat.le_trans hn0 E'.1, e', _, X', N⟩ E' (own_A_new A' h0))
theorem own_newI (X : own_X p l e R s m args below meth c Z bytes maxL ret y n0 h T k n) {aty : ArrayType} (w : (Jvm.Cond.arrayClass (newarray.typeOf aty)).before a0 Z = true) (hdf : defaultValue (newarray.typeOf aty) = .int 0) (hd : decode bytes pc = .ok (.newarray aty, 2)) {v : Int32} (h0 : 0 ≤ v.toInt) (cap : Nat) (hcap : v.toInt ≤ cap) (hb : cap * 8 ≤ 536870912) (hc : k + 1 ≤ R.cells) (hs : n + cap ≤ R.slots)
    (g : ∀ h' T', own_X p l e R s m args below meth c Z bytes maxL ret y n0 h' T' (k + 1) (n + cap) → Ext h h' → own_I Z h' h.size (newarray.typeOf aty) v.toInt.toNat (fun _ => 0) → own_G p e below (T'.setTop (mkF m (pc + 2) ls (.ref h.size :: st))) Q) : own_G p e below (T.setTop (mkF m pc ls (.int v :: st))) Q :=
  own_newP X w hd h0 cap hcap hb hc hs (fun h' T' X' E A => g h' T' X' E (own_A_eq A fun _ _ _ => hdf.symm))
end Arrs2
/-! ### own numbers -/
theorem own_addc {x k : Int32} {d : Int} (hk : k.toInt = d) (h1 : -2147483648 ≤ x.toInt + d) (h2 : x.toInt + d < 2147483648) : (x + k).toInt = x.toInt + d := by
  subst hk; exact Jvm.Kit.i32_add (by omega) (by omega)
theorem own_subc {x k : Int32} {d : Int} (hk : k.toInt = d) (h1 : -2147483648 ≤ x.toInt - d) (h2 : x.toInt - d < 2147483648) : (x - k).toInt = x.toInt - d := by
  subst hk; exact Jvm.Kit.i32_sub (by omega) (by omega)
theorem own_mulc {x k : Int32} {d : Int} (hk : k.toInt = d) (h1 : -2147483648 ≤ x.toInt * d) (h2 : x.toInt * d < 2147483648) : (x * k).toInt = x.toInt * d := by
  subst hk; exact Jvm.Kit.i32_mul (by omega) (by omega)
theorem own_i2b_int (x : Int32) : (own_i2b x).toInt = x.toInt.bmod 256 := by
  simp [own_i2b, Int8.toInt_toInt32, Int32.toInt_toInt8]
theorem own_i2b_b (x : Int32) : -128 ≤ (own_i2b x).toInt ∧ (own_i2b x).toInt < 128 ∧ (own_i2b x).toInt % 256 = x.toInt % 256 := by
  rw [own_i2b_int]
  have h1 := Int.bmod_emod (x := x.toInt) (m := 256)
  have h2 := Int.le_bmod (x := x.toInt) (m := 256) (by decide)
  have h3 := Int.bmod_lt (x := x.toInt) (m := 256) (by decide)
  omega
theorem own_i2b_fix (x : Int32) : (own_i2b x).toInt8.toInt32 = own_i2b x := by
  simp [own_i2b]
theorem own_i2b_id {x : Int32} (h1 : -128 ≤ x.toInt) (h2 : x.toInt < 128) : own_i2b x = x := by
  apply Int32.toInt_inj.mp
  have := own_i2b_b x
  omega
theorem own_irem_int (x y : Int32) : (own_irem x y).toInt = x.toInt.tmod y.toInt := by
  have a := (x % y).toInt_lt; have b := (x % y).le_toInt
  rw [Int32.toInt_mod] at a b
  rw [own_irem, Int32.toInt_sub, Int32.toInt_mul, Int32.toInt_div, Int.bmod_mul_bmod, Int.sub_bmod_bmod, Int.mul_comm, ← Int.tmod_def]
  exact Jvm.Kit.bmod32 b a
theorem own_irem_pos {x y : Int32} (h : 0 ≤ x.toInt) : (own_irem x y).toInt = x.toInt % y.toInt := by rw [own_irem_int, Int.tmod_eq_emod_of_nonneg h]
theorem own_idiv_pos {x y : Int32} (h : 0 ≤ x.toInt) : (x / y).toInt = x.toInt / y.toInt := by
  have a := x.toInt_lt
  rw [Jvm.Kit.i32_div (by omega), Int.tdiv_eq_ediv_of_nonneg h]
theorem own_lrem_pos {x y : Int64} (h : 0 ≤ x.toInt) : (own_lrem x y).toInt = x.toInt % y.toInt := by rw [own_lrem]; exact Jvm.Kit.i64_rem_nonneg h
theorem own_ldiv_pos {x y : Int64} (h : 0 ≤ x.toInt) : (x / y).toInt = x.toInt / y.toInt := by
  have a := x.toInt_lt
  rw [Jvm.Kit.i64_div (by omega), Int.tdiv_eq_ediv_of_nonneg h]
/-! bits -/
theorem own_lushr_bv (x : Int64) (y : Int32) (k : Nat) (hk : ((y &&& 0x3f).toInt64.toBitVec % 64).toNat = k) : (own_lushr x y).toBitVec = x.toBitVec >>> k := by
  simp only [own_lushr, UInt64.toBitVec_toInt64, UInt64.toBitVec_shiftRight, Int64.toBitVec_toUInt64, BitVec.ushiftRight_eq', hk]
theorem own_lshl_bv (x : Int64) (y : Int32) (k : Nat) (hk : ((y &&& 0x3f).toInt64.toBitVec.smod 64#64).toNat = k) : (own_lshl x y).toBitVec = x.toBitVec <<< k := by
  have e : (own_lshl x y).toBitVec = x.toBitVec <<< ((y &&& 0x3f).toInt64.toBitVec.smod 64#64) := rfl
  rw [e, BitVec.shiftLeft_eq', hk]
theorem own_iushr_bv (x : Int32) (y : Int32) (k : Nat) (hk : ((y &&& 31).toBitVec % 32).toNat = k) : (own_iushr x y).toBitVec = x.toBitVec >>> k := by
  simp only [own_iushr, UInt32.toBitVec_toInt32, UInt32.toBitVec_shiftRight, Int32.toBitVec_toUInt32, BitVec.ushiftRight_eq', hk]
theorem own_iushr_int (x y : Int32) (k : Nat) (hk : ((y &&& 31).toBitVec % 32).toNat = k) (h : 0 ≤ x.toInt) : (own_iushr x y).toInt = x.toInt / 2 ^ k := by
  have e : (own_iushr x y).toInt = (own_iushr x y).toBitVec.toInt := rfl
  have e1 : x.toInt = x.toBitVec.toInt := rfl
  rw [e, own_iushr_bv x y k hk, e1]
  rw [e1] at h
  have h2 : x.toBitVec.toInt = (x.toBitVec.toNat : Int) := by
    rw [BitVec.toInt_eq_toNat_cond] at h ⊢
    split at h
    · rw [if_pos (by assumption)]
    · have := x.toBitVec.isLt; omega
  have h3 : 2 * x.toBitVec.toNat < 2 ^ 32 := by
    have := BitVec.toInt_lt (x := x.toBitVec); omega
  rw [BitVec.toInt_eq_toNat_cond, BitVec.toNat_ushiftRight, Nat.shiftRight_eq_div_pow]
  have h4 : x.toBitVec.toNat / 2 ^ k ≤ x.toBitVec.toNat := Nat.div_le_self _ _
  rw [if_pos (by omega), h2, Int.natCast_ediv, Int.natCast_pow]
  rfl
theorem own_pos_nat {x : Int32} (h : 0 ≤ x.toInt) : x.toInt = (x.toBitVec.toNat : Int) := by
  have e : x.toInt = x.toBitVec.toInt := rfl
  rw [e] at h ⊢
  rw [BitVec.toInt_eq_toNat_cond] at h ⊢
  have := x.toBitVec.isLt
  split at h
  · rw [if_pos (by assumption)]
  · omega
theorem own_nat_pos {x : Int32} {n : Nat} (h : x.toBitVec.toNat = n) (hn : n < 2147483648) : x.toInt = (n : Int) := by
  have e : x.toInt = x.toBitVec.toInt := rfl
  rw [e, BitVec.toInt_eq_toNat_cond, h, if_pos (by omega)]
/-- an or of a multiple of 2^k and what lies below 2^k is their sum -/
theorem own_or {x y : Int32} (k : Nat) (hx : 0 ≤ x.toInt) (hx2 : x.toInt % 2 ^ k = 0) (hy : 0 ≤ y.toInt) (hy2 : y.toInt < 2 ^ k) : (x ||| y).toInt = x.toInt + y.toInt := by
  have e1 := own_pos_nat hx
  have e2 := own_pos_nat hy
  have b1 := Int32.toInt_lt x
  have b2 := Int32.toInt_lt y
  have hm : x.toBitVec.toNat % 2 ^ k = 0 := by
    rw [e1] at hx2
    have : ((x.toBitVec.toNat % 2 ^ k : Nat) : Int) = 0 := by rw [Int.natCast_emod, Int.natCast_pow]; exact hx2
    omega
  have hl : y.toBitVec.toNat < 2 ^ k := by
    rw [e2] at hy2
    have : (y.toBitVec.toNat : Int) < ((2 ^ k : Nat) : Int) := by rw [Int.natCast_pow]; exact hy2
    omega
  have hd : x.toBitVec.toNat = 2 ^ k * (x.toBitVec.toNat / 2 ^ k) := by
    have := Nat.div_add_mod x.toBitVec.toNat (2 ^ k); omega
  have e3 : (x ||| y).toBitVec.toNat = x.toBitVec.toNat + y.toBitVec.toNat := by
    rw [Int32.toBitVec_or, BitVec.toNat_or]
    generalize y.toBitVec.toNat = b at *
    rw [hd, ← Nat.two_pow_add_eq_or_of_lt hl]
  have hlt : (x ||| y).toBitVec.toNat < 2147483648 := by
    rw [Int32.toBitVec_or, BitVec.toNat_or]
    exact Nat.or_lt_two_pow (n := 31) (by omega) (by omega)
  rw [own_nat_pos e3 (by omega)]
  omega
theorem own_mask (x m : Int32) (k : Nat) (hk : k < 32) (hm : m.toBitVec.toNat = 2 ^ k - 1) : (x &&& m).toInt = x.toInt % 2 ^ k := Jvm.Kit.i32_mask x m hk hm
/-! the high bits of a byte -/
theorem own_fin256 {x : Int32} (h0 : 0 ≤ x.toInt) (h1 : x.toInt < 256) : ∃ n : Fin 256, x = Int32.ofNat n.val ∧ x.toInt = (n.val : Int) := by
  refine ⟨⟨x.toInt.toNat, by omega⟩, ?_, by show x.toInt = (x.toInt.toNat : Int); omega⟩
  apply Int32.toInt_inj.mp
  rw [Int32.toInt_ofNat_of_lt (by show x.toInt.toNat < _; omega)]
  show x.toInt = (x.toInt.toNat : Int); omega
theorem own_f192 : ∀ n : Fin 256, (Int32.ofNat n.val &&& 192).toInt = (n.val : Int) - (n.val : Int) % 64 := by decide +kernel
theorem own_f224 : ∀ n : Fin 256, (Int32.ofNat n.val &&& 224).toInt = (n.val : Int) - (n.val : Int) % 32 := by decide +kernel
theorem own_f240 : ∀ n : Fin 256, (Int32.ofNat n.val &&& 240).toInt = (n.val : Int) - (n.val : Int) % 16 := by decide +kernel
theorem own_f248 : ∀ n : Fin 256, (Int32.ofNat n.val &&& 248).toInt = (n.val : Int) - (n.val : Int) % 8 := by decide +kernel
theorem own_h192 {x : Int32} (h0 : 0 ≤ x.toInt) (h1 : x.toInt < 256) : (x &&& 192).toInt = x.toInt - x.toInt % 64 := by
  obtain ⟨n, e1, e2⟩ := own_fin256 h0 h1; rw [e2, e1]; exact own_f192 n
theorem own_h224 {x : Int32} (h0 : 0 ≤ x.toInt) (h1 : x.toInt < 256) : (x &&& 224).toInt = x.toInt - x.toInt % 32 := by
  obtain ⟨n, e1, e2⟩ := own_fin256 h0 h1; rw [e2, e1]; exact own_f224 n
theorem own_h240 {x : Int32} (h0 : 0 ≤ x.toInt) (h1 : x.toInt < 256) : (x &&& 240).toInt = x.toInt - x.toInt % 16 := by
  obtain ⟨n, e1, e2⟩ := own_fin256 h0 h1; rw [e2, e1]; exact own_f240 n
theorem own_h248 {x : Int32} (h0 : 0 ≤ x.toInt) (h1 : x.toInt < 256) : (x &&& 248).toInt = x.toInt - x.toInt % 8 := by
  obtain ⟨n, e1, e2⟩ := own_fin256 h0 h1; rw [e2, e1]; exact own_f248 n
theorem own_m255 (x : Int32) : (x &&& 255).toInt = x.toInt % 256 := Jvm.Kit.i32_mask x 255 (k := 8) (by decide) (by decide)
theorem own_m63 (x : Int32) : (x &&& 63).toInt = x.toInt % 64 := Jvm.Kit.i32_mask x 63 (k := 6) (by decide) (by decide)
theorem own_l192 (x : Int32) : (x &&& 192).toInt = x.toInt % 256 - x.toInt % 64 := by
  have e : x &&& 192 = (x &&& 255) &&& 192 := by rw [Int32.and_assoc]; rfl
  have h := own_m255 x
  rw [e, own_h192 (by omega) (by omega), h]; omega
theorem own_shr (x y : Int32) (k : Nat) (hk : ((y &&& 31).toBitVec.smod 32).toNat = k) : (own_ishr x y).toInt = x.toInt / 2 ^ k := Jvm.Kit.i32_shr x _ hk
theorem own_shl (x y : Int32) (k : Nat) (hk : ((y &&& 31).toBitVec.smod 32).toNat = k) (h1 : -2147483648 ≤ x.toInt * 2 ^ k) (h2 : x.toInt * 2 ^ k < 2147483648) : (own_ishl x y).toInt = x.toInt * 2 ^ k := Jvm.Kit.i32_shl x _ hk (by omega) (by omega)
/-- an or with a constant that is a multiple of 2^k -/
theorem own_orc {x y : Int32} {d : Int} (k : Nat) (hx : x.toInt = d) (h0 : 0 ≤ d) (h1 : d % 2 ^ k = 0) (hy : 0 ≤ y.toInt) (hy2 : y.toInt < 2 ^ k) : (x ||| y).toInt = d + y.toInt := by
  subst hx; exact own_or k h0 h1 hy hy2
theorem own_b255 (x : Int32) : (own_i2b x &&& 255).toInt = x.toInt % 256 := by
  have h1 := own_m255 (own_i2b x)
  have h2 := own_i2b_b x
  omega
theorem own_ofNat {n : Nat} (h : n < 2147483648) : (Int32.ofNat n).toInt = (n : Int) := Int32.toInt_ofNat_of_lt (by omega)
abbrev own_y1 : MethodName := ⟨"com/example/tallysort/tallysort/KeyIndexedCounting", "startBuckets", "([I[II[I)V"⟩
theorem pl1 : plainFor own_y1 = true := plainFor_of_name (by first | (simp [plainName, overriddenIn]; done) | decide +kernel)
def B1_0_8 : List (Instr × Nat) := [(.iload_n 2, 1), (.istore 4, 2), (.aload_n 1, 1), (.astore 5, 2), (.aload 5, 2)]
theorem B1_0_8d : own_d prog_12_method_5_code 0 B1_0_8 8 = true := by decide +kernel
theorem d1_8 : decode prog_12_method_5_code 8 = .ok (.arraylength, 1) := by decide +kernel
def B1_9_18 : List (Instr × Nat) := [(.istore 6, 2), (.iconst 0, 1), (.istore 7, 2), (.iload 7, 2), (.iload 6, 2)]
theorem B1_9_18d : own_d prog_12_method_5_code 9 B1_9_18 18 = true := by decide +kernel
theorem d1_18 : decode prog_12_method_5_code 18 = .ok (.if_icmp .ge 31, 3) := by decide +kernel
theorem d1_49 : decode prog_12_method_5_code 49 = .ok (.return_, 1) := by decide +kernel
set_option maxRecDepth 65536 in
set_option maxHeartbeats 40000000 in
theorem c_sb0 (l : Launch) (Z : State) (a0 : Array Value) (hw : ∀ d ∈ tables_1, d.before a0 Z = true) (ca oa : Addr) (at0 : Int32) (sa : Addr) (gc go gs : Int → Int32) (h0 : Heap) (n0 : Nat) (Z0 : n0 ≤ h0.size) (Ac : own_I Z h0 ca .int 4 gc) (Ao : own_I Z h0 oa .int 0 go) (As : own_I Z h0 sa .int 4 gs) (n_sa : n0 ≤ sa) (ne_ca_sa : ca ≠ sa) (ne_oa_sa : oa ≠ sa) :
    own_C l Z own_y1 prog_12_method_5_code 9 none ({ frames := 0, cells := 0, slots := 0, locals := 0 } : Room) #[(.ref ca), (.ref oa), (.int at0), (.ref sa)] h0 n0 (fun v h => v = none ∧ Keep h0 h [sa] ∧ own_I Z h sa .int 4 gs) := by
  refine own_body pl1 Z0 (ls := #[.val (.ref ca), .val (.ref oa), .val (.int at0), .val (.ref sa), .unset, .unset, .unset, .unset, .unset]) (fun m => by first | (simp [entryFrame, mkF, argsToLocals, Value.category]; done) | rfl) ?_
  intro p e s m below meth c T0 X0
  have K0 : Keep h0 h0 [sa] := Keep.refl _ _
  refine own_blk X0 B1_0_8 B1_0_8d (ls' := #[.val (.ref ca), .val (.ref oa), .val (.int at0), .val (.ref sa), .val (.int at0), .val (.ref oa), .unset, .unset, .unset]) (st' := [(.ref oa)]) rfl ?_
  refine own_len X0 Ao d1_8 ?_
  show own_G p e below (T0.setTop (mkF m 9 #[.val (.ref ca), .val (.ref oa), .val (.int at0), .val (.ref sa), .val (.int at0), .val (.ref oa), .unset, .unset, .unset] [(.int (0 : Int32))])) _
  refine own_blk X0 B1_9_18 B1_9_18d (ls' := #[.val (.ref ca), .val (.ref oa), .val (.int at0), .val (.ref sa), .val (.int at0), .val (.ref oa), .val (.int (0 : Int32)), .val (.int (0 : Int32)), .unset]) (st' := [(.int (0 : Int32)), (.int (0 : Int32))]) rfl ?_
  refine own_icmp X0 d1_18 (pc' := 49) (by decide) (fun c18 => ?_) (fun (c18 : ¬ (0 ≤ (0 : Int))) => by exfalso; omega)
  have c18 : 0 ≤ (0 : Int) := c18
  exact own_retV X0 d1_49 (by decide) (by decide) (⟨rfl, K0, As⟩)
def B1_21_25 : List (Instr × Nat) := [(.aload 5, 2), (.iload 7, 2)]
theorem B1_21_25d : own_d prog_12_method_5_code 21 B1_21_25 25 = true := by decide +kernel
theorem d1_25 : decode prog_12_method_5_code 25 = .ok (.iaload, 1) := by decide +kernel
def B1_26_33 : List (Instr × Nat) := [(.istore 8, 2), (.aload_n 3, 1), (.iload 8, 2), (.iload 4, 2)]
theorem B1_26_33d : own_d prog_12_method_5_code 26 B1_26_33 33 = true := by decide +kernel
theorem d1_33 : decode prog_12_method_5_code 33 = .ok (.iastore, 1) := by decide +kernel
def B1_34_39 : List (Instr × Nat) := [(.iload 4, 2), (.aload_n 0, 1), (.iload 8, 2)]
theorem B1_34_39d : own_d prog_12_method_5_code 34 B1_34_39 39 = true := by decide +kernel
theorem d1_39 : decode prog_12_method_5_code 39 = .ok (.iaload, 1) := by decide +kernel
def B1_40_46 : List (Instr × Nat) := [(.iadd, 1), (.istore 4, 2), (.iinc 7 1, 3)]
theorem B1_40_46d : own_d prog_12_method_5_code 40 B1_40_46 46 = true := by decide +kernel
theorem d1_46 : decode prog_12_method_5_code 46 = .ok (.goto (-32), 3) := by decide +kernel
def B1_14_18 : List (Instr × Nat) := [(.iload 7, 2), (.iload 6, 2)]
theorem B1_14_18d : own_d prog_12_method_5_code 14 B1_14_18 18 = true := by decide +kernel
set_option maxRecDepth 65536 in
set_option maxHeartbeats 40000000 in
theorem c_sb1 (l : Launch) (Z : State) (a0 : Array Value) (hw : ∀ d ∈ tables_1, d.before a0 Z = true) (ca oa : Addr) (at0 : Int32) (sa : Addr) (gc go gs : Int → Int32) (h0 : Heap) (n0 : Nat) (Z0 : n0 ≤ h0.size) (Ac : own_I Z h0 ca .int 4 gc) (Ao : own_I Z h0 oa .int 1 go) (As : own_I Z h0 sa .int 4 gs) (n_sa : n0 ≤ sa) (ne_ca_sa : ca ≠ sa) (ne_oa_sa : oa ≠ sa) (r0 : 0 ≤ (go 0).toInt ∧ (go 0).toInt ≤ 3) :
    own_C l Z own_y1 prog_12_method_5_code 9 none ({ frames := 0, cells := 0, slots := 0, locals := 0 } : Room) #[(.ref ca), (.ref oa), (.int at0), (.ref sa)] h0 n0 (fun v h => v = none ∧ Keep h0 h [sa] ∧ own_I Z h sa .int 4 (own_u gs (go 0).toInt at0)) := by
  refine own_body pl1 Z0 (ls := #[.val (.ref ca), .val (.ref oa), .val (.int at0), .val (.ref sa), .unset, .unset, .unset, .unset, .unset]) (fun m => by first | (simp [entryFrame, mkF, argsToLocals, Value.category]; done) | rfl) ?_
  intro p e s m below meth c T0 X0
  have K0 : Keep h0 h0 [sa] := Keep.refl _ _
  refine own_blk X0 B1_0_8 B1_0_8d (ls' := #[.val (.ref ca), .val (.ref oa), .val (.int at0), .val (.ref sa), .val (.int at0), .val (.ref oa), .unset, .unset, .unset]) (st' := [(.ref oa)]) rfl ?_
  refine own_len X0 Ao d1_8 ?_
  show own_G p e below (T0.setTop (mkF m 9 #[.val (.ref ca), .val (.ref oa), .val (.int at0), .val (.ref sa), .val (.int at0), .val (.ref oa), .unset, .unset, .unset] [(.int (1 : Int32))])) _
  refine own_blk X0 B1_9_18 B1_9_18d (ls' := #[.val (.ref ca), .val (.ref oa), .val (.int at0), .val (.ref sa), .val (.int at0), .val (.ref oa), .val (.int (1 : Int32)), .val (.int (0 : Int32)), .unset]) (st' := [(.int (1 : Int32)), (.int (0 : Int32))]) rfl ?_
  refine own_icmp X0 d1_18 (pc' := 49) (by decide) (fun (c18 : 1 ≤ (0 : Int)) => by exfalso; omega) (fun c18 => ?_)
  have c18 : ¬ (1 ≤ (0 : Int)) := c18
  refine own_blk X0 B1_21_25 B1_21_25d (ls' := #[.val (.ref ca), .val (.ref oa), .val (.int at0), .val (.ref sa), .val (.int at0), .val (.ref oa), .val (.int (1 : Int32)), .val (.int (0 : Int32)), .unset]) (st' := [(.int (0 : Int32)), (.ref oa)]) rfl ?_
  refine own_iald X0 Ao d1_25 (by decide) (by decide) ?_
  show own_G p e below (T0.setTop (mkF m 26 #[.val (.ref ca), .val (.ref oa), .val (.int at0), .val (.ref sa), .val (.int at0), .val (.ref oa), .val (.int (1 : Int32)), .val (.int (0 : Int32)), .unset] [(.int (go 0))])) _
  refine own_blk X0 B1_26_33 B1_26_33d (ls' := #[.val (.ref ca), .val (.ref oa), .val (.int at0), .val (.ref sa), .val (.int at0), .val (.ref oa), .val (.int (1 : Int32)), .val (.int (0 : Int32)), .val (.int (go 0))]) (st' := [(.int at0), (.int (go 0)), (.ref sa)]) rfl ?_
  refine own_iast X0 As n_sa d1_33 (by omega) (by omega)  (fun h1 T1 X1 A1 W1 => ?_)
  have A1 : own_I Z h1 sa .int 4 (own_u gs ((go 0).toInt) at0) := A1
  generalize eg1 : own_u gs ((go 0).toInt) at0 = g1 at A1
  have K1 := K0.wr W1 (Or.inl (by simp))
  have A1_ca := own_I_other Ac W1 (by first | exact ne_ca_sa | exact fun q => ne_sa_ca q.symm)
  have A1_oa := own_I_other Ao W1 (by first | exact ne_oa_sa | exact fun q => ne_sa_oa q.symm)
  refine own_blk X1 B1_34_39 B1_34_39d (ls' := #[.val (.ref ca), .val (.ref oa), .val (.int at0), .val (.ref sa), .val (.int at0), .val (.ref oa), .val (.int (1 : Int32)), .val (.int (0 : Int32)), .val (.int (go 0))]) (st' := [(.int (go 0)), (.ref ca), (.int at0)]) rfl ?_
  refine own_iald X1 A1_ca d1_39 (by omega) (by omega) ?_
  show own_G p e below (T1.setTop (mkF m 40 #[.val (.ref ca), .val (.ref oa), .val (.int at0), .val (.ref sa), .val (.int at0), .val (.ref oa), .val (.int (1 : Int32)), .val (.int (0 : Int32)), .val (.int (go 0))] [(.int (gc (go 0).toInt)), (.int at0)])) _
  refine own_blk X1 B1_40_46 B1_40_46d (ls' := #[.val (.ref ca), .val (.ref oa), .val (.int at0), .val (.ref sa), .val (.int (at0 + (gc (go 0).toInt))), .val (.ref oa), .val (.int (1 : Int32)), .val (.int (1 : Int32)), .val (.int (go 0))]) (st' := []) rfl ?_
  refine own_goto X1 d1_46 (pc' := 14) (by decide) ?_
  refine own_blk X1 B1_14_18 B1_14_18d (ls' := #[.val (.ref ca), .val (.ref oa), .val (.int at0), .val (.ref sa), .val (.int (at0 + (gc (go 0).toInt))), .val (.ref oa), .val (.int (1 : Int32)), .val (.int (1 : Int32)), .val (.int (go 0))]) (st' := [(.int (1 : Int32)), (.int (1 : Int32))]) rfl ?_
  refine own_icmp X1 d1_18 (pc' := 49) (by decide) (fun c18 => ?_) (fun (c18 : ¬ (1 ≤ (1 : Int))) => by exfalso; omega)
  have c18 : 1 ≤ (1 : Int) := c18
  exact own_retV X1 d1_49 (by decide) (by decide) (⟨rfl, K1, by subst eg1; exact A1⟩)
set_option maxRecDepth 65536 in
set_option maxHeartbeats 40000000 in
theorem c_sb2 (l : Launch) (Z : State) (a0 : Array Value) (hw : ∀ d ∈ tables_1, d.before a0 Z = true) (ca oa : Addr) (at0 : Int32) (sa : Addr) (gc go gs : Int → Int32) (h0 : Heap) (n0 : Nat) (Z0 : n0 ≤ h0.size) (Ac : own_I Z h0 ca .int 4 gc) (Ao : own_I Z h0 oa .int 2 go) (As : own_I Z h0 sa .int 4 gs) (n_sa : n0 ≤ sa) (ne_ca_sa : ca ≠ sa) (ne_oa_sa : oa ≠ sa) (r0 : 0 ≤ (go 0).toInt ∧ (go 0).toInt ≤ 3) (r1 : 0 ≤ (go 1).toInt ∧ (go 1).toInt ≤ 3) :
    own_C l Z own_y1 prog_12_method_5_code 9 none ({ frames := 0, cells := 0, slots := 0, locals := 0 } : Room) #[(.ref ca), (.ref oa), (.int at0), (.ref sa)] h0 n0 (fun v h => v = none ∧ Keep h0 h [sa] ∧ own_I Z h sa .int 4 (own_u (own_u gs (go 0).toInt at0) (go 1).toInt (at0 + (gc (go 0).toInt)))) := by
  refine own_body pl1 Z0 (ls := #[.val (.ref ca), .val (.ref oa), .val (.int at0), .val (.ref sa), .unset, .unset, .unset, .unset, .unset]) (fun m => by first | (simp [entryFrame, mkF, argsToLocals, Value.category]; done) | rfl) ?_
  intro p e s m below meth c T0 X0
  have K0 : Keep h0 h0 [sa] := Keep.refl _ _
  refine own_blk X0 B1_0_8 B1_0_8d (ls' := #[.val (.ref ca), .val (.ref oa), .val (.int at0), .val (.ref sa), .val (.int at0), .val (.ref oa), .unset, .unset, .unset]) (st' := [(.ref oa)]) rfl ?_
  refine own_len X0 Ao d1_8 ?_
  show own_G p e below (T0.setTop (mkF m 9 #[.val (.ref ca), .val (.ref oa), .val (.int at0), .val (.ref sa), .val (.int at0), .val (.ref oa), .unset, .unset, .unset] [(.int (2 : Int32))])) _
  refine own_blk X0 B1_9_18 B1_9_18d (ls' := #[.val (.ref ca), .val (.ref oa), .val (.int at0), .val (.ref sa), .val (.int at0), .val (.ref oa), .val (.int (2 : Int32)), .val (.int (0 : Int32)), .unset]) (st' := [(.int (2 : Int32)), (.int (0 : Int32))]) rfl ?_
  refine own_icmp X0 d1_18 (pc' := 49) (by decide) (fun (c18 : 2 ≤ (0 : Int)) => by exfalso; omega) (fun c18 => ?_)
  have c18 : ¬ (2 ≤ (0 : Int)) := c18
  refine own_blk X0 B1_21_25 B1_21_25d (ls' := #[.val (.ref ca), .val (.ref oa), .val (.int at0), .val (.ref sa), .val (.int at0), .val (.ref oa), .val (.int (2 : Int32)), .val (.int (0 : Int32)), .unset]) (st' := [(.int (0 : Int32)), (.ref oa)]) rfl ?_
  refine own_iald X0 Ao d1_25 (by decide) (by decide) ?_
  show own_G p e below (T0.setTop (mkF m 26 #[.val (.ref ca), .val (.ref oa), .val (.int at0), .val (.ref sa), .val (.int at0), .val (.ref oa), .val (.int (2 : Int32)), .val (.int (0 : Int32)), .unset] [(.int (go 0))])) _
  refine own_blk X0 B1_26_33 B1_26_33d (ls' := #[.val (.ref ca), .val (.ref oa), .val (.int at0), .val (.ref sa), .val (.int at0), .val (.ref oa), .val (.int (2 : Int32)), .val (.int (0 : Int32)), .val (.int (go 0))]) (st' := [(.int at0), (.int (go 0)), (.ref sa)]) rfl ?_
  refine own_iast X0 As n_sa d1_33 (by omega) (by omega)  (fun h1 T1 X1 A1 W1 => ?_)
  have A1 : own_I Z h1 sa .int 4 (own_u gs ((go 0).toInt) at0) := A1
  generalize eg1 : own_u gs ((go 0).toInt) at0 = g1 at A1
  have K1 := K0.wr W1 (Or.inl (by simp))
  have A1_ca := own_I_other Ac W1 (by first | exact ne_ca_sa | exact fun q => ne_sa_ca q.symm)
  have A1_oa := own_I_other Ao W1 (by first | exact ne_oa_sa | exact fun q => ne_sa_oa q.symm)
  refine own_blk X1 B1_34_39 B1_34_39d (ls' := #[.val (.ref ca), .val (.ref oa), .val (.int at0), .val (.ref sa), .val (.int at0), .val (.ref oa), .val (.int (2 : Int32)), .val (.int (0 : Int32)), .val (.int (go 0))]) (st' := [(.int (go 0)), (.ref ca), (.int at0)]) rfl ?_
  refine own_iald X1 A1_ca d1_39 (by omega) (by omega) ?_
  show own_G p e below (T1.setTop (mkF m 40 #[.val (.ref ca), .val (.ref oa), .val (.int at0), .val (.ref sa), .val (.int at0), .val (.ref oa), .val (.int (2 : Int32)), .val (.int (0 : Int32)), .val (.int (go 0))] [(.int (gc (go 0).toInt)), (.int at0)])) _
  refine own_blk X1 B1_40_46 B1_40_46d (ls' := #[.val (.ref ca), .val (.ref oa), .val (.int at0), .val (.ref sa), .val (.int (at0 + (gc (go 0).toInt))), .val (.ref oa), .val (.int (2 : Int32)), .val (.int (1 : Int32)), .val (.int (go 0))]) (st' := []) rfl ?_
  refine own_goto X1 d1_46 (pc' := 14) (by decide) ?_
  refine own_blk X1 B1_14_18 B1_14_18d (ls' := #[.val (.ref ca), .val (.ref oa), .val (.int at0), .val (.ref sa), .val (.int (at0 + (gc (go 0).toInt))), .val (.ref oa), .val (.int (2 : Int32)), .val (.int (1 : Int32)), .val (.int (go 0))]) (st' := [(.int (2 : Int32)), (.int (1 : Int32))]) rfl ?_
  refine own_icmp X1 d1_18 (pc' := 49) (by decide) (fun (c18 : 2 ≤ (1 : Int)) => by exfalso; omega) (fun c18 => ?_)
  have c18 : ¬ (2 ≤ (1 : Int)) := c18
  refine own_blk X1 B1_21_25 B1_21_25d (ls' := #[.val (.ref ca), .val (.ref oa), .val (.int at0), .val (.ref sa), .val (.int (at0 + (gc (go 0).toInt))), .val (.ref oa), .val (.int (2 : Int32)), .val (.int (1 : Int32)), .val (.int (go 0))]) (st' := [(.int (1 : Int32)), (.ref oa)]) rfl ?_
  refine own_iald X1 A1_oa d1_25 (by decide) (by decide) ?_
  show own_G p e below (T1.setTop (mkF m 26 #[.val (.ref ca), .val (.ref oa), .val (.int at0), .val (.ref sa), .val (.int (at0 + (gc (go 0).toInt))), .val (.ref oa), .val (.int (2 : Int32)), .val (.int (1 : Int32)), .val (.int (go 0))] [(.int (go 1))])) _
  refine own_blk X1 B1_26_33 B1_26_33d (ls' := #[.val (.ref ca), .val (.ref oa), .val (.int at0), .val (.ref sa), .val (.int (at0 + (gc (go 0).toInt))), .val (.ref oa), .val (.int (2 : Int32)), .val (.int (1 : Int32)), .val (.int (go 1))]) (st' := [(.int (at0 + (gc (go 0).toInt))), (.int (go 1)), (.ref sa)]) rfl ?_
  refine own_iast X1 A1 n_sa d1_33 (by omega) (by omega)  (fun h2 T2 X2 A2 W2 => ?_)
  have A2 : own_I Z h2 sa .int 4 (own_u g1 ((go 1).toInt) (at0 + (gc (go 0).toInt))) := A2
  generalize eg2 : own_u g1 ((go 1).toInt) (at0 + (gc (go 0).toInt)) = g2 at A2
  have K2 := K1.wr W2 (Or.inl (by simp))
  have A2_ca := own_I_other A1_ca W2 (by first | exact ne_ca_sa | exact fun q => ne_sa_ca q.symm)
  have A2_oa := own_I_other A1_oa W2 (by first | exact ne_oa_sa | exact fun q => ne_sa_oa q.symm)
  refine own_blk X2 B1_34_39 B1_34_39d (ls' := #[.val (.ref ca), .val (.ref oa), .val (.int at0), .val (.ref sa), .val (.int (at0 + (gc (go 0).toInt))), .val (.ref oa), .val (.int (2 : Int32)), .val (.int (1 : Int32)), .val (.int (go 1))]) (st' := [(.int (go 1)), (.ref ca), (.int (at0 + (gc (go 0).toInt)))]) rfl ?_
  refine own_iald X2 A2_ca d1_39 (by omega) (by omega) ?_
  show own_G p e below (T2.setTop (mkF m 40 #[.val (.ref ca), .val (.ref oa), .val (.int at0), .val (.ref sa), .val (.int (at0 + (gc (go 0).toInt))), .val (.ref oa), .val (.int (2 : Int32)), .val (.int (1 : Int32)), .val (.int (go 1))] [(.int (gc (go 1).toInt)), (.int (at0 + (gc (go 0).toInt)))])) _
  refine own_blk X2 B1_40_46 B1_40_46d (ls' := #[.val (.ref ca), .val (.ref oa), .val (.int at0), .val (.ref sa), .val (.int ((at0 + (gc (go 0).toInt)) + (gc (go 1).toInt))), .val (.ref oa), .val (.int (2 : Int32)), .val (.int (2 : Int32)), .val (.int (go 1))]) (st' := []) rfl ?_
  refine own_goto X2 d1_46 (pc' := 14) (by decide) ?_
  refine own_blk X2 B1_14_18 B1_14_18d (ls' := #[.val (.ref ca), .val (.ref oa), .val (.int at0), .val (.ref sa), .val (.int ((at0 + (gc (go 0).toInt)) + (gc (go 1).toInt))), .val (.ref oa), .val (.int (2 : Int32)), .val (.int (2 : Int32)), .val (.int (go 1))]) (st' := [(.int (2 : Int32)), (.int (2 : Int32))]) rfl ?_
  refine own_icmp X2 d1_18 (pc' := 49) (by decide) (fun c18 => ?_) (fun (c18 : ¬ (2 ≤ (2 : Int))) => by exfalso; omega)
  have c18 : 2 ≤ (2 : Int) := c18
  exact own_retV X2 d1_49 (by decide) (by decide) (⟨rfl, K2, by subst eg1; subst eg2; exact A2⟩)
set_option maxRecDepth 65536 in
set_option maxHeartbeats 40000000 in
theorem c_sb3 (l : Launch) (Z : State) (a0 : Array Value) (hw : ∀ d ∈ tables_1, d.before a0 Z = true) (ca oa : Addr) (at0 : Int32) (sa : Addr) (gc go gs : Int → Int32) (h0 : Heap) (n0 : Nat) (Z0 : n0 ≤ h0.size) (Ac : own_I Z h0 ca .int 4 gc) (Ao : own_I Z h0 oa .int 3 go) (As : own_I Z h0 sa .int 4 gs) (n_sa : n0 ≤ sa) (ne_ca_sa : ca ≠ sa) (ne_oa_sa : oa ≠ sa) (r0 : 0 ≤ (go 0).toInt ∧ (go 0).toInt ≤ 3) (r1 : 0 ≤ (go 1).toInt ∧ (go 1).toInt ≤ 3) (r2 : 0 ≤ (go 2).toInt ∧ (go 2).toInt ≤ 3) :
    own_C l Z own_y1 prog_12_method_5_code 9 none ({ frames := 0, cells := 0, slots := 0, locals := 0 } : Room) #[(.ref ca), (.ref oa), (.int at0), (.ref sa)] h0 n0 (fun v h => v = none ∧ Keep h0 h [sa] ∧ own_I Z h sa .int 4 (own_u (own_u (own_u gs (go 0).toInt at0) (go 1).toInt (at0 + (gc (go 0).toInt))) (go 2).toInt ((at0 + (gc (go 0).toInt)) + (gc (go 1).toInt)))) := by
  refine own_body pl1 Z0 (ls := #[.val (.ref ca), .val (.ref oa), .val (.int at0), .val (.ref sa), .unset, .unset, .unset, .unset, .unset]) (fun m => by first | (simp [entryFrame, mkF, argsToLocals, Value.category]; done) | rfl) ?_
  intro p e s m below meth c T0 X0
  have K0 : Keep h0 h0 [sa] := Keep.refl _ _
  refine own_blk X0 B1_0_8 B1_0_8d (ls' := #[.val (.ref ca), .val (.ref oa), .val (.int at0), .val (.ref sa), .val (.int at0), .val (.ref oa), .unset, .unset, .unset]) (st' := [(.ref oa)]) rfl ?_
  refine own_len X0 Ao d1_8 ?_
  show own_G p e below (T0.setTop (mkF m 9 #[.val (.ref ca), .val (.ref oa), .val (.int at0), .val (.ref sa), .val (.int at0), .val (.ref oa), .unset, .unset, .unset] [(.int (3 : Int32))])) _
  refine own_blk X0 B1_9_18 B1_9_18d (ls' := #[.val (.ref ca), .val (.ref oa), .val (.int at0), .val (.ref sa), .val (.int at0), .val (.ref oa), .val (.int (3 : Int32)), .val (.int (0 : Int32)), .unset]) (st' := [(.int (3 : Int32)), (.int (0 : Int32))]) rfl ?_
  refine own_icmp X0 d1_18 (pc' := 49) (by decide) (fun (c18 : 3 ≤ (0 : Int)) => by exfalso; omega) (fun c18 => ?_)
  have c18 : ¬ (3 ≤ (0 : Int)) := c18
  refine own_blk X0 B1_21_25 B1_21_25d (ls' := #[.val (.ref ca), .val (.ref oa), .val (.int at0), .val (.ref sa), .val (.int at0), .val (.ref oa), .val (.int (3 : Int32)), .val (.int (0 : Int32)), .unset]) (st' := [(.int (0 : Int32)), (.ref oa)]) rfl ?_
  refine own_iald X0 Ao d1_25 (by decide) (by decide) ?_
  show own_G p e below (T0.setTop (mkF m 26 #[.val (.ref ca), .val (.ref oa), .val (.int at0), .val (.ref sa), .val (.int at0), .val (.ref oa), .val (.int (3 : Int32)), .val (.int (0 : Int32)), .unset] [(.int (go 0))])) _
  refine own_blk X0 B1_26_33 B1_26_33d (ls' := #[.val (.ref ca), .val (.ref oa), .val (.int at0), .val (.ref sa), .val (.int at0), .val (.ref oa), .val (.int (3 : Int32)), .val (.int (0 : Int32)), .val (.int (go 0))]) (st' := [(.int at0), (.int (go 0)), (.ref sa)]) rfl ?_
  refine own_iast X0 As n_sa d1_33 (by omega) (by omega)  (fun h1 T1 X1 A1 W1 => ?_)
  have A1 : own_I Z h1 sa .int 4 (own_u gs ((go 0).toInt) at0) := A1
  generalize eg1 : own_u gs ((go 0).toInt) at0 = g1 at A1
  have K1 := K0.wr W1 (Or.inl (by simp))
  have A1_ca := own_I_other Ac W1 (by first | exact ne_ca_sa | exact fun q => ne_sa_ca q.symm)
  have A1_oa := own_I_other Ao W1 (by first | exact ne_oa_sa | exact fun q => ne_sa_oa q.symm)
  refine own_blk X1 B1_34_39 B1_34_39d (ls' := #[.val (.ref ca), .val (.ref oa), .val (.int at0), .val (.ref sa), .val (.int at0), .val (.ref oa), .val (.int (3 : Int32)), .val (.int (0 : Int32)), .val (.int (go 0))]) (st' := [(.int (go 0)), (.ref ca), (.int at0)]) rfl ?_
  refine own_iald X1 A1_ca d1_39 (by omega) (by omega) ?_
  show own_G p e below (T1.setTop (mkF m 40 #[.val (.ref ca), .val (.ref oa), .val (.int at0), .val (.ref sa), .val (.int at0), .val (.ref oa), .val (.int (3 : Int32)), .val (.int (0 : Int32)), .val (.int (go 0))] [(.int (gc (go 0).toInt)), (.int at0)])) _
  refine own_blk X1 B1_40_46 B1_40_46d (ls' := #[.val (.ref ca), .val (.ref oa), .val (.int at0), .val (.ref sa), .val (.int (at0 + (gc (go 0).toInt))), .val (.ref oa), .val (.int (3 : Int32)), .val (.int (1 : Int32)), .val (.int (go 0))]) (st' := []) rfl ?_
  refine own_goto X1 d1_46 (pc' := 14) (by decide) ?_
  refine own_blk X1 B1_14_18 B1_14_18d (ls' := #[.val (.ref ca), .val (.ref oa), .val (.int at0), .val (.ref sa), .val (.int (at0 + (gc (go 0).toInt))), .val (.ref oa), .val (.int (3 : Int32)), .val (.int (1 : Int32)), .val (.int (go 0))]) (st' := [(.int (3 : Int32)), (.int (1 : Int32))]) rfl ?_
  refine own_icmp X1 d1_18 (pc' := 49) (by decide) (fun (c18 : 3 ≤ (1 : Int)) => by exfalso; omega) (fun c18 => ?_)
  have c18 : ¬ (3 ≤ (1 : Int)) := c18
  refine own_blk X1 B1_21_25 B1_21_25d (ls' := #[.val (.ref ca), .val (.ref oa), .val (.int at0), .val (.ref sa), .val (.int (at0 + (gc (go 0).toInt))), .val (.ref oa), .val (.int (3 : Int32)), .val (.int (1 : Int32)), .val (.int (go 0))]) (st' := [(.int (1 : Int32)), (.ref oa)]) rfl ?_
  refine own_iald X1 A1_oa d1_25 (by decide) (by decide) ?_
  show own_G p e below (T1.setTop (mkF m 26 #[.val (.ref ca), .val (.ref oa), .val (.int at0), .val (.ref sa), .val (.int (at0 + (gc (go 0).toInt))), .val (.ref oa), .val (.int (3 : Int32)), .val (.int (1 : Int32)), .val (.int (go 0))] [(.int (go 1))])) _
  refine own_blk X1 B1_26_33 B1_26_33d (ls' := #[.val (.ref ca), .val (.ref oa), .val (.int at0), .val (.ref sa), .val (.int (at0 + (gc (go 0).toInt))), .val (.ref oa), .val (.int (3 : Int32)), .val (.int (1 : Int32)), .val (.int (go 1))]) (st' := [(.int (at0 + (gc (go 0).toInt))), (.int (go 1)), (.ref sa)]) rfl ?_
  refine own_iast X1 A1 n_sa d1_33 (by omega) (by omega)  (fun h2 T2 X2 A2 W2 => ?_)
  have A2 : own_I Z h2 sa .int 4 (own_u g1 ((go 1).toInt) (at0 + (gc (go 0).toInt))) := A2
  generalize eg2 : own_u g1 ((go 1).toInt) (at0 + (gc (go 0).toInt)) = g2 at A2
  have K2 := K1.wr W2 (Or.inl (by simp))
  have A2_ca := own_I_other A1_ca W2 (by first | exact ne_ca_sa | exact fun q => ne_sa_ca q.symm)
  have A2_oa := own_I_other A1_oa W2 (by first | exact ne_oa_sa | exact fun q => ne_sa_oa q.symm)
  refine own_blk X2 B1_34_39 B1_34_39d (ls' := #[.val (.ref ca), .val (.ref oa), .val (.int at0), .val (.ref sa), .val (.int (at0 + (gc (go 0).toInt))), .val (.ref oa), .val (.int (3 : Int32)), .val (.int (1 : Int32)), .val (.int (go 1))]) (st' := [(.int (go 1)), (.ref ca), (.int (at0 + (gc (go 0).toInt)))]) rfl ?_
  refine own_iald X2 A2_ca d1_39 (by omega) (by omega) ?_
  show own_G p e below (T2.setTop (mkF m 40 #[.val (.ref ca), .val (.ref oa), .val (.int at0), .val (.ref sa), .val (.int (at0 + (gc (go 0).toInt))), .val (.ref oa), .val (.int (3 : Int32)), .val (.int (1 : Int32)), .val (.int (go 1))] [(.int (gc (go 1).toInt)), (.int (at0 + (gc (go 0).toInt)))])) _
  refine own_blk X2 B1_40_46 B1_40_46d (ls' := #[.val (.ref ca), .val (.ref oa), .val (.int at0), .val (.ref sa), .val (.int ((at0 + (gc (go 0).toInt)) + (gc (go 1).toInt))), .val (.ref oa), .val (.int (3 : Int32)), .val (.int (2 : Int32)), .val (.int (go 1))]) (st' := []) rfl ?_
  refine own_goto X2 d1_46 (pc' := 14) (by decide) ?_
  refine own_blk X2 B1_14_18 B1_14_18d (ls' := #[.val (.ref ca), .val (.ref oa), .val (.int at0), .val (.ref sa), .val (.int ((at0 + (gc (go 0).toInt)) + (gc (go 1).toInt))), .val (.ref oa), .val (.int (3 : Int32)), .val (.int (2 : Int32)), .val (.int (go 1))]) (st' := [(.int (3 : Int32)), (.int (2 : Int32))]) rfl ?_
  refine own_icmp X2 d1_18 (pc' := 49) (by decide) (fun (c18 : 3 ≤ (2 : Int)) => by exfalso; omega) (fun c18 => ?_)
  have c18 : ¬ (3 ≤ (2 : Int)) := c18
  refine own_blk X2 B1_21_25 B1_21_25d (ls' := #[.val (.ref ca), .val (.ref oa), .val (.int at0), .val (.ref sa), .val (.int ((at0 + (gc (go 0).toInt)) + (gc (go 1).toInt))), .val (.ref oa), .val (.int (3 : Int32)), .val (.int (2 : Int32)), .val (.int (go 1))]) (st' := [(.int (2 : Int32)), (.ref oa)]) rfl ?_
  refine own_iald X2 A2_oa d1_25 (by decide) (by decide) ?_
  show own_G p e below (T2.setTop (mkF m 26 #[.val (.ref ca), .val (.ref oa), .val (.int at0), .val (.ref sa), .val (.int ((at0 + (gc (go 0).toInt)) + (gc (go 1).toInt))), .val (.ref oa), .val (.int (3 : Int32)), .val (.int (2 : Int32)), .val (.int (go 1))] [(.int (go 2))])) _
  refine own_blk X2 B1_26_33 B1_26_33d (ls' := #[.val (.ref ca), .val (.ref oa), .val (.int at0), .val (.ref sa), .val (.int ((at0 + (gc (go 0).toInt)) + (gc (go 1).toInt))), .val (.ref oa), .val (.int (3 : Int32)), .val (.int (2 : Int32)), .val (.int (go 2))]) (st' := [(.int ((at0 + (gc (go 0).toInt)) + (gc (go 1).toInt))), (.int (go 2)), (.ref sa)]) rfl ?_
  refine own_iast X2 A2 n_sa d1_33 (by omega) (by omega)  (fun h3 T3 X3 A3 W3 => ?_)
  have A3 : own_I Z h3 sa .int 4 (own_u g2 ((go 2).toInt) ((at0 + (gc (go 0).toInt)) + (gc (go 1).toInt))) := A3
  generalize eg3 : own_u g2 ((go 2).toInt) ((at0 + (gc (go 0).toInt)) + (gc (go 1).toInt)) = g3 at A3
  have K3 := K2.wr W3 (Or.inl (by simp))
  have A3_ca := own_I_other A2_ca W3 (by first | exact ne_ca_sa | exact fun q => ne_sa_ca q.symm)
  have A3_oa := own_I_other A2_oa W3 (by first | exact ne_oa_sa | exact fun q => ne_sa_oa q.symm)
  refine own_blk X3 B1_34_39 B1_34_39d (ls' := #[.val (.ref ca), .val (.ref oa), .val (.int at0), .val (.ref sa), .val (.int ((at0 + (gc (go 0).toInt)) + (gc (go 1).toInt))), .val (.ref oa), .val (.int (3 : Int32)), .val (.int (2 : Int32)), .val (.int (go 2))]) (st' := [(.int (go 2)), (.ref ca), (.int ((at0 + (gc (go 0).toInt)) + (gc (go 1).toInt)))]) rfl ?_
  refine own_iald X3 A3_ca d1_39 (by omega) (by omega) ?_
  show own_G p e below (T3.setTop (mkF m 40 #[.val (.ref ca), .val (.ref oa), .val (.int at0), .val (.ref sa), .val (.int ((at0 + (gc (go 0).toInt)) + (gc (go 1).toInt))), .val (.ref oa), .val (.int (3 : Int32)), .val (.int (2 : Int32)), .val (.int (go 2))] [(.int (gc (go 2).toInt)), (.int ((at0 + (gc (go 0).toInt)) + (gc (go 1).toInt)))])) _
  refine own_blk X3 B1_40_46 B1_40_46d (ls' := #[.val (.ref ca), .val (.ref oa), .val (.int at0), .val (.ref sa), .val (.int (((at0 + (gc (go 0).toInt)) + (gc (go 1).toInt)) + (gc (go 2).toInt))), .val (.ref oa), .val (.int (3 : Int32)), .val (.int (3 : Int32)), .val (.int (go 2))]) (st' := []) rfl ?_
  refine own_goto X3 d1_46 (pc' := 14) (by decide) ?_
  refine own_blk X3 B1_14_18 B1_14_18d (ls' := #[.val (.ref ca), .val (.ref oa), .val (.int at0), .val (.ref sa), .val (.int (((at0 + (gc (go 0).toInt)) + (gc (go 1).toInt)) + (gc (go 2).toInt))), .val (.ref oa), .val (.int (3 : Int32)), .val (.int (3 : Int32)), .val (.int (go 2))]) (st' := [(.int (3 : Int32)), (.int (3 : Int32))]) rfl ?_
  refine own_icmp X3 d1_18 (pc' := 49) (by decide) (fun c18 => ?_) (fun (c18 : ¬ (3 ≤ (3 : Int))) => by exfalso; omega)
  have c18 : 3 ≤ (3 : Int) := c18
  exact own_retV X3 d1_49 (by decide) (by decide) (⟨rfl, K3, by subst eg1; subst eg2; subst eg3; exact A3⟩)
set_option maxRecDepth 65536 in
set_option maxHeartbeats 40000000 in
theorem c_sb4 (l : Launch) (Z : State) (a0 : Array Value) (hw : ∀ d ∈ tables_1, d.before a0 Z = true) (ca oa : Addr) (at0 : Int32) (sa : Addr) (gc go gs : Int → Int32) (h0 : Heap) (n0 : Nat) (Z0 : n0 ≤ h0.size) (Ac : own_I Z h0 ca .int 4 gc) (Ao : own_I Z h0 oa .int 4 go) (As : own_I Z h0 sa .int 4 gs) (n_sa : n0 ≤ sa) (ne_ca_sa : ca ≠ sa) (ne_oa_sa : oa ≠ sa) (r0 : 0 ≤ (go 0).toInt ∧ (go 0).toInt ≤ 3) (r1 : 0 ≤ (go 1).toInt ∧ (go 1).toInt ≤ 3) (r2 : 0 ≤ (go 2).toInt ∧ (go 2).toInt ≤ 3) (r3 : 0 ≤ (go 3).toInt ∧ (go 3).toInt ≤ 3) :
    own_C l Z own_y1 prog_12_method_5_code 9 none ({ frames := 0, cells := 0, slots := 0, locals := 0 } : Room) #[(.ref ca), (.ref oa), (.int at0), (.ref sa)] h0 n0 (fun v h => v = none ∧ Keep h0 h [sa] ∧ own_I Z h sa .int 4 (own_u (own_u (own_u (own_u gs (go 0).toInt at0) (go 1).toInt (at0 + (gc (go 0).toInt))) (go 2).toInt ((at0 + (gc (go 0).toInt)) + (gc (go 1).toInt))) (go 3).toInt (((at0 + (gc (go 0).toInt)) + (gc (go 1).toInt)) + (gc (go 2).toInt)))) := by
  refine own_body pl1 Z0 (ls := #[.val (.ref ca), .val (.ref oa), .val (.int at0), .val (.ref sa), .unset, .unset, .unset, .unset, .unset]) (fun m => by first | (simp [entryFrame, mkF, argsToLocals, Value.category]; done) | rfl) ?_
  intro p e s m below meth c T0 X0
  have K0 : Keep h0 h0 [sa] := Keep.refl _ _
  refine own_blk X0 B1_0_8 B1_0_8d (ls' := #[.val (.ref ca), .val (.ref oa), .val (.int at0), .val (.ref sa), .val (.int at0), .val (.ref oa), .unset, .unset, .unset]) (st' := [(.ref oa)]) rfl ?_
  refine own_len X0 Ao d1_8 ?_
  show own_G p e below (T0.setTop (mkF m 9 #[.val (.ref ca), .val (.ref oa), .val (.int at0), .val (.ref sa), .val (.int at0), .val (.ref oa), .unset, .unset, .unset] [(.int (4 : Int32))])) _
  refine own_blk X0 B1_9_18 B1_9_18d (ls' := #[.val (.ref ca), .val (.ref oa), .val (.int at0), .val (.ref sa), .val (.int at0), .val (.ref oa), .val (.int (4 : Int32)), .val (.int (0 : Int32)), .unset]) (st' := [(.int (4 : Int32)), (.int (0 : Int32))]) rfl ?_
  refine own_icmp X0 d1_18 (pc' := 49) (by decide) (fun (c18 : 4 ≤ (0 : Int)) => by exfalso; omega) (fun c18 => ?_)
  have c18 : ¬ (4 ≤ (0 : Int)) := c18
  refine own_blk X0 B1_21_25 B1_21_25d (ls' := #[.val (.ref ca), .val (.ref oa), .val (.int at0), .val (.ref sa), .val (.int at0), .val (.ref oa), .val (.int (4 : Int32)), .val (.int (0 : Int32)), .unset]) (st' := [(.int (0 : Int32)), (.ref oa)]) rfl ?_
  refine own_iald X0 Ao d1_25 (by decide) (by decide) ?_
  show own_G p e below (T0.setTop (mkF m 26 #[.val (.ref ca), .val (.ref oa), .val (.int at0), .val (.ref sa), .val (.int at0), .val (.ref oa), .val (.int (4 : Int32)), .val (.int (0 : Int32)), .unset] [(.int (go 0))])) _
  refine own_blk X0 B1_26_33 B1_26_33d (ls' := #[.val (.ref ca), .val (.ref oa), .val (.int at0), .val (.ref sa), .val (.int at0), .val (.ref oa), .val (.int (4 : Int32)), .val (.int (0 : Int32)), .val (.int (go 0))]) (st' := [(.int at0), (.int (go 0)), (.ref sa)]) rfl ?_
  refine own_iast X0 As n_sa d1_33 (by omega) (by omega)  (fun h1 T1 X1 A1 W1 => ?_)
  have A1 : own_I Z h1 sa .int 4 (own_u gs ((go 0).toInt) at0) := A1
  generalize eg1 : own_u gs ((go 0).toInt) at0 = g1 at A1
  have K1 := K0.wr W1 (Or.inl (by simp))
  have A1_ca := own_I_other Ac W1 (by first | exact ne_ca_sa | exact fun q => ne_sa_ca q.symm)
  have A1_oa := own_I_other Ao W1 (by first | exact ne_oa_sa | exact fun q => ne_sa_oa q.symm)
  refine own_blk X1 B1_34_39 B1_34_39d (ls' := #[.val (.ref ca), .val (.ref oa), .val (.int at0), .val (.ref sa), .val (.int at0), .val (.ref oa), .val (.int (4 : Int32)), .val (.int (0 : Int32)), .val (.int (go 0))]) (st' := [(.int (go 0)), (.ref ca), (.int at0)]) rfl ?_
  refine own_iald X1 A1_ca d1_39 (by omega) (by omega) ?_
  show own_G p e below (T1.setTop (mkF m 40 #[.val (.ref ca), .val (.ref oa), .val (.int at0), .val (.ref sa), .val (.int at0), .val (.ref oa), .val (.int (4 : Int32)), .val (.int (0 : Int32)), .val (.int (go 0))] [(.int (gc (go 0).toInt)), (.int at0)])) _
  refine own_blk X1 B1_40_46 B1_40_46d (ls' := #[.val (.ref ca), .val (.ref oa), .val (.int at0), .val (.ref sa), .val (.int (at0 + (gc (go 0).toInt))), .val (.ref oa), .val (.int (4 : Int32)), .val (.int (1 : Int32)), .val (.int (go 0))]) (st' := []) rfl ?_
  refine own_goto X1 d1_46 (pc' := 14) (by decide) ?_
  refine own_blk X1 B1_14_18 B1_14_18d (ls' := #[.val (.ref ca), .val (.ref oa), .val (.int at0), .val (.ref sa), .val (.int (at0 + (gc (go 0).toInt))), .val (.ref oa), .val (.int (4 : Int32)), .val (.int (1 : Int32)), .val (.int (go 0))]) (st' := [(.int (4 : Int32)), (.int (1 : Int32))]) rfl ?_
  refine own_icmp X1 d1_18 (pc' := 49) (by decide) (fun (c18 : 4 ≤ (1 : Int)) => by exfalso; omega) (fun c18 => ?_)
  have c18 : ¬ (4 ≤ (1 : Int)) := c18
  refine own_blk X1 B1_21_25 B1_21_25d (ls' := #[.val (.ref ca), .val (.ref oa), .val (.int at0), .val (.ref sa), .val (.int (at0 + (gc (go 0).toInt))), .val (.ref oa), .val (.int (4 : Int32)), .val (.int (1 : Int32)), .val (.int (go 0))]) (st' := [(.int (1 : Int32)), (.ref oa)]) rfl ?_
  refine own_iald X1 A1_oa d1_25 (by decide) (by decide) ?_
  show own_G p e below (T1.setTop (mkF m 26 #[.val (.ref ca), .val (.ref oa), .val (.int at0), .val (.ref sa), .val (.int (at0 + (gc (go 0).toInt))), .val (.ref oa), .val (.int (4 : Int32)), .val (.int (1 : Int32)), .val (.int (go 0))] [(.int (go 1))])) _
  refine own_blk X1 B1_26_33 B1_26_33d (ls' := #[.val (.ref ca), .val (.ref oa), .val (.int at0), .val (.ref sa), .val (.int (at0 + (gc (go 0).toInt))), .val (.ref oa), .val (.int (4 : Int32)), .val (.int (1 : Int32)), .val (.int (go 1))]) (st' := [(.int (at0 + (gc (go 0).toInt))), (.int (go 1)), (.ref sa)]) rfl ?_
  refine own_iast X1 A1 n_sa d1_33 (by omega) (by omega)  (fun h2 T2 X2 A2 W2 => ?_)
  have A2 : own_I Z h2 sa .int 4 (own_u g1 ((go 1).toInt) (at0 + (gc (go 0).toInt))) := A2
  generalize eg2 : own_u g1 ((go 1).toInt) (at0 + (gc (go 0).toInt)) = g2 at A2
  have K2 := K1.wr W2 (Or.inl (by simp))
  have A2_ca := own_I_other A1_ca W2 (by first | exact ne_ca_sa | exact fun q => ne_sa_ca q.symm)
  have A2_oa := own_I_other A1_oa W2 (by first | exact ne_oa_sa | exact fun q => ne_sa_oa q.symm)
  refine own_blk X2 B1_34_39 B1_34_39d (ls' := #[.val (.ref ca), .val (.ref oa), .val (.int at0), .val (.ref sa), .val (.int (at0 + (gc (go 0).toInt))), .val (.ref oa), .val (.int (4 : Int32)), .val (.int (1 : Int32)), .val (.int (go 1))]) (st' := [(.int (go 1)), (.ref ca), (.int (at0 + (gc (go 0).toInt)))]) rfl ?_
  refine own_iald X2 A2_ca d1_39 (by omega) (by omega) ?_
  show own_G p e below (T2.setTop (mkF m 40 #[.val (.ref ca), .val (.ref oa), .val (.int at0), .val (.ref sa), .val (.int (at0 + (gc (go 0).toInt))), .val (.ref oa), .val (.int (4 : Int32)), .val (.int (1 : Int32)), .val (.int (go 1))] [(.int (gc (go 1).toInt)), (.int (at0 + (gc (go 0).toInt)))])) _
  refine own_blk X2 B1_40_46 B1_40_46d (ls' := #[.val (.ref ca), .val (.ref oa), .val (.int at0), .val (.ref sa), .val (.int ((at0 + (gc (go 0).toInt)) + (gc (go 1).toInt))), .val (.ref oa), .val (.int (4 : Int32)), .val (.int (2 : Int32)), .val (.int (go 1))]) (st' := []) rfl ?_
  refine own_goto X2 d1_46 (pc' := 14) (by decide) ?_
  refine own_blk X2 B1_14_18 B1_14_18d (ls' := #[.val (.ref ca), .val (.ref oa), .val (.int at0), .val (.ref sa), .val (.int ((at0 + (gc (go 0).toInt)) + (gc (go 1).toInt))), .val (.ref oa), .val (.int (4 : Int32)), .val (.int (2 : Int32)), .val (.int (go 1))]) (st' := [(.int (4 : Int32)), (.int (2 : Int32))]) rfl ?_
  refine own_icmp X2 d1_18 (pc' := 49) (by decide) (fun (c18 : 4 ≤ (2 : Int)) => by exfalso; omega) (fun c18 => ?_)
  have c18 : ¬ (4 ≤ (2 : Int)) := c18
  refine own_blk X2 B1_21_25 B1_21_25d (ls' := #[.val (.ref ca), .val (.ref oa), .val (.int at0), .val (.ref sa), .val (.int ((at0 + (gc (go 0).toInt)) + (gc (go 1).toInt))), .val (.ref oa), .val (.int (4 : Int32)), .val (.int (2 : Int32)), .val (.int (go 1))]) (st' := [(.int (2 : Int32)), (.ref oa)]) rfl ?_
  refine own_iald X2 A2_oa d1_25 (by decide) (by decide) ?_
  show own_G p e below (T2.setTop (mkF m 26 #[.val (.ref ca), .val (.ref oa), .val (.int at0), .val (.ref sa), .val (.int ((at0 + (gc (go 0).toInt)) + (gc (go 1).toInt))), .val (.ref oa), .val (.int (4 : Int32)), .val (.int (2 : Int32)), .val (.int (go 1))] [(.int (go 2))])) _
  refine own_blk X2 B1_26_33 B1_26_33d (ls' := #[.val (.ref ca), .val (.ref oa), .val (.int at0), .val (.ref sa), .val (.int ((at0 + (gc (go 0).toInt)) + (gc (go 1).toInt))), .val (.ref oa), .val (.int (4 : Int32)), .val (.int (2 : Int32)), .val (.int (go 2))]) (st' := [(.int ((at0 + (gc (go 0).toInt)) + (gc (go 1).toInt))), (.int (go 2)), (.ref sa)]) rfl ?_
  refine own_iast X2 A2 n_sa d1_33 (by omega) (by omega)  (fun h3 T3 X3 A3 W3 => ?_)
  have A3 : own_I Z h3 sa .int 4 (own_u g2 ((go 2).toInt) ((at0 + (gc (go 0).toInt)) + (gc (go 1).toInt))) := A3
  generalize eg3 : own_u g2 ((go 2).toInt) ((at0 + (gc (go 0).toInt)) + (gc (go 1).toInt)) = g3 at A3
  have K3 := K2.wr W3 (Or.inl (by simp))
  have A3_ca := own_I_other A2_ca W3 (by first | exact ne_ca_sa | exact fun q => ne_sa_ca q.symm)
  have A3_oa := own_I_other A2_oa W3 (by first | exact ne_oa_sa | exact fun q => ne_sa_oa q.symm)
  refine own_blk X3 B1_34_39 B1_34_39d (ls' := #[.val (.ref ca), .val (.ref oa), .val (.int at0), .val (.ref sa), .val (.int ((at0 + (gc (go 0).toInt)) + (gc (go 1).toInt))), .val (.ref oa), .val (.int (4 : Int32)), .val (.int (2 : Int32)), .val (.int (go 2))]) (st' := [(.int (go 2)), (.ref ca), (.int ((at0 + (gc (go 0).toInt)) + (gc (go 1).toInt)))]) rfl ?_
  refine own_iald X3 A3_ca d1_39 (by omega) (by omega) ?_
  show own_G p e below (T3.setTop (mkF m 40 #[.val (.ref ca), .val (.ref oa), .val (.int at0), .val (.ref sa), .val (.int ((at0 + (gc (go 0).toInt)) + (gc (go 1).toInt))), .val (.ref oa), .val (.int (4 : Int32)), .val (.int (2 : Int32)), .val (.int (go 2))] [(.int (gc (go 2).toInt)), (.int ((at0 + (gc (go 0).toInt)) + (gc (go 1).toInt)))])) _
  refine own_blk X3 B1_40_46 B1_40_46d (ls' := #[.val (.ref ca), .val (.ref oa), .val (.int at0), .val (.ref sa), .val (.int (((at0 + (gc (go 0).toInt)) + (gc (go 1).toInt)) + (gc (go 2).toInt))), .val (.ref oa), .val (.int (4 : Int32)), .val (.int (3 : Int32)), .val (.int (go 2))]) (st' := []) rfl ?_
  refine own_goto X3 d1_46 (pc' := 14) (by decide) ?_
  refine own_blk X3 B1_14_18 B1_14_18d (ls' := #[.val (.ref ca), .val (.ref oa), .val (.int at0), .val (.ref sa), .val (.int (((at0 + (gc (go 0).toInt)) + (gc (go 1).toInt)) + (gc (go 2).toInt))), .val (.ref oa), .val (.int (4 : Int32)), .val (.int (3 : Int32)), .val (.int (go 2))]) (st' := [(.int (4 : Int32)), (.int (3 : Int32))]) rfl ?_
  refine own_icmp X3 d1_18 (pc' := 49) (by decide) (fun (c18 : 4 ≤ (3 : Int)) => by exfalso; omega) (fun c18 => ?_)
  have c18 : ¬ (4 ≤ (3 : Int)) := c18
  refine own_blk X3 B1_21_25 B1_21_25d (ls' := #[.val (.ref ca), .val (.ref oa), .val (.int at0), .val (.ref sa), .val (.int (((at0 + (gc (go 0).toInt)) + (gc (go 1).toInt)) + (gc (go 2).toInt))), .val (.ref oa), .val (.int (4 : Int32)), .val (.int (3 : Int32)), .val (.int (go 2))]) (st' := [(.int (3 : Int32)), (.ref oa)]) rfl ?_
  refine own_iald X3 A3_oa d1_25 (by decide) (by decide) ?_
  show own_G p e below (T3.setTop (mkF m 26 #[.val (.ref ca), .val (.ref oa), .val (.int at0), .val (.ref sa), .val (.int (((at0 + (gc (go 0).toInt)) + (gc (go 1).toInt)) + (gc (go 2).toInt))), .val (.ref oa), .val (.int (4 : Int32)), .val (.int (3 : Int32)), .val (.int (go 2))] [(.int (go 3))])) _
  refine own_blk X3 B1_26_33 B1_26_33d (ls' := #[.val (.ref ca), .val (.ref oa), .val (.int at0), .val (.ref sa), .val (.int (((at0 + (gc (go 0).toInt)) + (gc (go 1).toInt)) + (gc (go 2).toInt))), .val (.ref oa), .val (.int (4 : Int32)), .val (.int (3 : Int32)), .val (.int (go 3))]) (st' := [(.int (((at0 + (gc (go 0).toInt)) + (gc (go 1).toInt)) + (gc (go 2).toInt))), (.int (go 3)), (.ref sa)]) rfl ?_
  refine own_iast X3 A3 n_sa d1_33 (by omega) (by omega)  (fun h4 T4 X4 A4 W4 => ?_)
  have A4 : own_I Z h4 sa .int 4 (own_u g3 ((go 3).toInt) (((at0 + (gc (go 0).toInt)) + (gc (go 1).toInt)) + (gc (go 2).toInt))) := A4
  generalize eg4 : own_u g3 ((go 3).toInt) (((at0 + (gc (go 0).toInt)) + (gc (go 1).toInt)) + (gc (go 2).toInt)) = g4 at A4
  have K4 := K3.wr W4 (Or.inl (by simp))
  have A4_ca := own_I_other A3_ca W4 (by first | exact ne_ca_sa | exact fun q => ne_sa_ca q.symm)
  have A4_oa := own_I_other A3_oa W4 (by first | exact ne_oa_sa | exact fun q => ne_sa_oa q.symm)
  refine own_blk X4 B1_34_39 B1_34_39d (ls' := #[.val (.ref ca), .val (.ref oa), .val (.int at0), .val (.ref sa), .val (.int (((at0 + (gc (go 0).toInt)) + (gc (go 1).toInt)) + (gc (go 2).toInt))), .val (.ref oa), .val (.int (4 : Int32)), .val (.int (3 : Int32)), .val (.int (go 3))]) (st' := [(.int (go 3)), (.ref ca), (.int (((at0 + (gc (go 0).toInt)) + (gc (go 1).toInt)) + (gc (go 2).toInt)))]) rfl ?_
  refine own_iald X4 A4_ca d1_39 (by omega) (by omega) ?_
  show own_G p e below (T4.setTop (mkF m 40 #[.val (.ref ca), .val (.ref oa), .val (.int at0), .val (.ref sa), .val (.int (((at0 + (gc (go 0).toInt)) + (gc (go 1).toInt)) + (gc (go 2).toInt))), .val (.ref oa), .val (.int (4 : Int32)), .val (.int (3 : Int32)), .val (.int (go 3))] [(.int (gc (go 3).toInt)), (.int (((at0 + (gc (go 0).toInt)) + (gc (go 1).toInt)) + (gc (go 2).toInt)))])) _
  refine own_blk X4 B1_40_46 B1_40_46d (ls' := #[.val (.ref ca), .val (.ref oa), .val (.int at0), .val (.ref sa), .val (.int ((((at0 + (gc (go 0).toInt)) + (gc (go 1).toInt)) + (gc (go 2).toInt)) + (gc (go 3).toInt))), .val (.ref oa), .val (.int (4 : Int32)), .val (.int (4 : Int32)), .val (.int (go 3))]) (st' := []) rfl ?_
  refine own_goto X4 d1_46 (pc' := 14) (by decide) ?_
  refine own_blk X4 B1_14_18 B1_14_18d (ls' := #[.val (.ref ca), .val (.ref oa), .val (.int at0), .val (.ref sa), .val (.int ((((at0 + (gc (go 0).toInt)) + (gc (go 1).toInt)) + (gc (go 2).toInt)) + (gc (go 3).toInt))), .val (.ref oa), .val (.int (4 : Int32)), .val (.int (4 : Int32)), .val (.int (go 3))]) (st' := [(.int (4 : Int32)), (.int (4 : Int32))]) rfl ?_
  refine own_icmp X4 d1_18 (pc' := 49) (by decide) (fun c18 => ?_) (fun (c18 : ¬ (4 ≤ (4 : Int))) => by exfalso; omega)
  have c18 : 4 ≤ (4 : Int) := c18
  exact own_retV X4 d1_49 (by decide) (by decide) (⟨rfl, K4, by subst eg1; subst eg2; subst eg3; subst eg4; exact A4⟩)
theorem pl0 : plainFor x = true := plainFor_of_name (by first | (simp [plainName, overriddenIn]; done) | decide +kernel)
def B0_0_22 : List (Instr × Nat) := [(.lload_n 0, 1), (.l2i, 1), (.istore 7, 2), (.lload_n 0, 1), (.bipush 32, 2), (.lushr, 1), (.l2i, 1), (.istore 8, 2), (.lload_n 2, 1), (.l2i, 1), (.istore 9, 2), (.lload_n 2, 1), (.bipush 32, 2), (.lushr, 1), (.l2i, 1), (.istore 10, 2)]
theorem B0_0_22d : own_d code 0 B0_0_22 22 = true := by decide +kernel
def B0_22_23 : List (Instr × Nat) := [(.iconst 4, 1)]
theorem B0_22_23d : own_d code 22 B0_22_23 23 = true := by decide +kernel
theorem d0_23 : decode code 23 = .ok (.newarray .int, 2) := by decide +kernel
def B0_25_29 : List (Instr × Nat) := [(.dup, 1), (.iconst 0, 1), (.iload 7, 2)]
theorem B0_25_29d : own_d code 25 B0_25_29 29 = true := by decide +kernel
theorem d0_29 : decode code 29 = .ok (.iastore, 1) := by decide +kernel
def B0_30_34 : List (Instr × Nat) := [(.dup, 1), (.iconst 1, 1), (.iload 8, 2)]
theorem B0_30_34d : own_d code 30 B0_30_34 34 = true := by decide +kernel
theorem d0_34 : decode code 34 = .ok (.iastore, 1) := by decide +kernel
def B0_35_39 : List (Instr × Nat) := [(.dup, 1), (.iconst 2, 1), (.iload 9, 2)]
theorem B0_35_39d : own_d code 35 B0_35_39 39 = true := by decide +kernel
theorem d0_39 : decode code 39 = .ok (.iastore, 1) := by decide +kernel
def B0_40_44 : List (Instr × Nat) := [(.dup, 1), (.iconst 3, 1), (.iload 10, 2)]
theorem B0_40_44d : own_d code 40 B0_40_44 44 = true := by decide +kernel
theorem d0_44 : decode code 44 = .ok (.iastore, 1) := by decide +kernel
def B0_45_53 : List (Instr × Nat) := [(.astore 11, 2), (.iload 5, 2), (.bipush 7, 2), (.iand, 1), (.iconst 5, 1)]
theorem B0_45_53d : own_d code 45 B0_45_53 53 = true := by decide +kernel
theorem d0_53 : decode code 53 = .ok (.irem, 1) := by decide +kernel
def B0_54_75 : List (Instr × Nat) := [(.istore 12, 2), (.iload 5, 2), (.iconst 3, 1), (.iushr, 1), (.iconst 3, 1), (.iand, 1), (.istore 13, 2), (.iload 13, 2), (.iconst 1, 1), (.iadd, 1), (.iload 5, 2), (.iconst 5, 1), (.iushr, 1), (.iconst 3, 1), (.iand, 1), (.iconst 3, 1)]
theorem B0_54_75d : own_d code 54 B0_54_75 75 = true := by decide +kernel
theorem d0_75 : decode code 75 = .ok (.irem, 1) := by decide +kernel
def B0_76_84 : List (Instr × Nat) := [(.iadd, 1), (.iconst 3, 1), (.iand, 1), (.istore 14, 2), (.iconst 0, 1), (.istore 15, 2)]
theorem B0_76_84d : own_d code 76 B0_76_84 84 = true := by decide +kernel
def B0_166_168 : List (Instr × Nat) := [(.iload 12, 2)]
theorem B0_166_168d : own_d code 166 B0_166_168 168 = true := by decide +kernel
theorem d0_168 : decode code 168 = .ok (.ifCond .ne 11, 3) := by decide +kernel
def B0_171_172 : List (Instr × Nat) := [(.iconst 0, 1)]
theorem B0_171_172d : own_d code 171 B0_171_172 172 = true := by decide +kernel
theorem d0_172 : decode code 172 = .ok (.newarray .int, 2) := by decide +kernel
def B0_174_176 : List (Instr × Nat) := [(.astore 19, 2)]
theorem B0_174_176d : own_d code 174 B0_174_176 176 = true := by decide +kernel
theorem d0_176 : decode code 176 = .ok (.goto 100, 3) := by decide +kernel
def B0_276_277 : List (Instr × Nat) := [(.iconst 4, 1)]
theorem B0_276_277d : own_d code 276 B0_276_277 277 = true := by decide +kernel
theorem d0_277 : decode code 277 = .ok (.newarray .int, 2) := by decide +kernel
def B0_279_283 : List (Instr × Nat) := [(.dup, 1), (.iconst 0, 1), (.iload 6, 2)]
theorem B0_279_283d : own_d code 279 B0_279_283 283 = true := by decide +kernel
theorem d0_283 : decode code 283 = .ok (.iastore, 1) := by decide +kernel
def B0_284_290 : List (Instr × Nat) := [(.dup, 1), (.iconst 1, 1), (.iload 6, 2), (.iconst 1, 1), (.iadd, 1)]
theorem B0_284_290d : own_d code 284 B0_284_290 290 = true := by decide +kernel
theorem d0_290 : decode code 290 = .ok (.iastore, 1) := by decide +kernel
def B0_291_297 : List (Instr × Nat) := [(.dup, 1), (.iconst 2, 1), (.iload 6, 2), (.iconst 2, 1), (.iadd, 1)]
theorem B0_291_297d : own_d code 291 B0_291_297 297 = true := by decide +kernel
theorem d0_297 : decode code 297 = .ok (.iastore, 1) := by decide +kernel
def B0_298_304 : List (Instr × Nat) := [(.dup, 1), (.iconst 3, 1), (.iload 6, 2), (.iconst 3, 1), (.iadd, 1)]
theorem B0_298_304d : own_d code 298 B0_298_304 304 = true := by decide +kernel
theorem d0_304 : decode code 304 = .ok (.iastore, 1) := by decide +kernel
def B0_305_308 : List (Instr × Nat) := [(.astore 20, 2), (.iconst 4, 1)]
theorem B0_305_308d : own_d code 305 B0_305_308 308 = true := by decide +kernel
theorem d0_308 : decode code 308 = .ok (.newarray .int, 2) := by decide +kernel
def B0_310_314 : List (Instr × Nat) := [(.dup, 1), (.iconst 0, 1), (.iload 6, 2)]
theorem B0_310_314d : own_d code 310 B0_310_314 314 = true := by decide +kernel
theorem d0_314 : decode code 314 = .ok (.iastore, 1) := by decide +kernel
def B0_315_321 : List (Instr × Nat) := [(.dup, 1), (.iconst 1, 1), (.iload 6, 2), (.iconst 1, 1), (.iadd, 1)]
theorem B0_315_321d : own_d code 315 B0_315_321 321 = true := by decide +kernel
theorem d0_321 : decode code 321 = .ok (.iastore, 1) := by decide +kernel
def B0_322_328 : List (Instr × Nat) := [(.dup, 1), (.iconst 2, 1), (.iload 6, 2), (.iconst 2, 1), (.iadd, 1)]
theorem B0_322_328d : own_d code 322 B0_322_328 328 = true := by decide +kernel
theorem d0_328 : decode code 328 = .ok (.iastore, 1) := by decide +kernel
def B0_329_335 : List (Instr × Nat) := [(.dup, 1), (.iconst 3, 1), (.iload 6, 2), (.iconst 3, 1), (.iadd, 1)]
theorem B0_329_335d : own_d code 329 B0_329_335 335 = true := by decide +kernel
theorem d0_335 : decode code 335 = .ok (.iastore, 1) := by decide +kernel
def B0_336_339 : List (Instr × Nat) := [(.astore 21, 2), (.iconst 4, 1)]
theorem B0_336_339d : own_d code 336 B0_336_339 339 = true := by decide +kernel
theorem d0_339 : decode code 339 = .ok (.newarray .int, 2) := by decide +kernel
def B0_341_345 : List (Instr × Nat) := [(.dup, 1), (.iconst 0, 1), (.iload 7, 2)]
theorem B0_341_345d : own_d code 341 B0_341_345 345 = true := by decide +kernel
theorem d0_345 : decode code 345 = .ok (.iastore, 1) := by decide +kernel
def B0_346_350 : List (Instr × Nat) := [(.dup, 1), (.iconst 1, 1), (.iload 8, 2)]
theorem B0_346_350d : own_d code 346 B0_346_350 350 = true := by decide +kernel
theorem d0_350 : decode code 350 = .ok (.iastore, 1) := by decide +kernel
def B0_351_355 : List (Instr × Nat) := [(.dup, 1), (.iconst 2, 1), (.iload 9, 2)]
theorem B0_351_355d : own_d code 351 B0_351_355 355 = true := by decide +kernel
theorem d0_355 : decode code 355 = .ok (.iastore, 1) := by decide +kernel
def B0_356_360 : List (Instr × Nat) := [(.dup, 1), (.iconst 3, 1), (.iload 10, 2)]
theorem B0_356_360d : own_d code 356 B0_356_360 360 = true := by decide +kernel
theorem d0_360 : decode code 360 = .ok (.iastore, 1) := by decide +kernel
def B0_361_366 : List (Instr × Nat) := [(.astore 22, 2), (.iload 12, 2), (.iconst 1, 1)]
theorem B0_361_366d : own_d code 361 B0_361_366 366 = true := by decide +kernel
theorem d0_366 : decode code 366 = .ok (.if_icmp .lt 10, 3) := by decide +kernel
def B0_376_379 : List (Instr × Nat) := [(.iload 12, 2), (.iconst 2, 1)]
theorem B0_376_379d : own_d code 376 B0_376_379 379 = true := by decide +kernel
theorem d0_379 : decode code 379 = .ok (.if_icmp .lt 16, 3) := by decide +kernel
def B0_395_398 : List (Instr × Nat) := [(.iload 12, 2), (.iconst 3, 1)]
theorem B0_395_398d : own_d code 395 B0_395_398 398 = true := by decide +kernel
theorem d0_398 : decode code 398 = .ok (.if_icmp .lt 22, 3) := by decide +kernel
def B0_420_423 : List (Instr × Nat) := [(.iload 12, 2), (.iconst 4, 1)]
theorem B0_420_423d : own_d code 420 B0_420_423 423 = true := by decide +kernel
theorem d0_423 : decode code 423 = .ok (.if_icmp .lt 28, 3) := by decide +kernel
def B0_451_459 : List (Instr × Nat) := [(.aload 11, 2), (.aload 19, 2), (.iload 4, 2), (.aload 20, 2)]
theorem B0_451_459d : own_d code 451 B0_451_459 459 = true := by decide +kernel
theorem d0_459 : decode code 459 = .ok (.invokestatic 7, 3) := by decide +kernel
theorem pd1 : parseMethodDescriptor "([I[II[I)V" = some ⟨[(.array .int), (.array .int), .int, (.array .int)], none⟩ := by decide +kernel
def B0_462_465 : List (Instr × Nat) := [(.aload 20, 2), (.iconst 0, 1)]
theorem B0_462_465d : own_d code 462 B0_462_465 465 = true := by decide +kernel
theorem d0_465 : decode code 465 = .ok (.iaload, 1) := by decide +kernel
def B0_466_469 : List (Instr × Nat) := [(.aload 21, 2), (.iconst 0, 1)]
theorem B0_466_469d : own_d code 466 B0_466_469 469 = true := by decide +kernel
theorem d0_469 : decode code 469 = .ok (.iaload, 1) := by decide +kernel
theorem d0_470 : decode code 470 = .ok (.if_icmp .ne 40, 3) := by decide +kernel
def B0_473_476 : List (Instr × Nat) := [(.aload 20, 2), (.iconst 1, 1)]
theorem B0_473_476d : own_d code 473 B0_473_476 476 = true := by decide +kernel
theorem d0_476 : decode code 476 = .ok (.iaload, 1) := by decide +kernel
def B0_477_480 : List (Instr × Nat) := [(.aload 21, 2), (.iconst 1, 1)]
theorem B0_477_480d : own_d code 477 B0_477_480 480 = true := by decide +kernel
theorem d0_480 : decode code 480 = .ok (.iaload, 1) := by decide +kernel
theorem d0_481 : decode code 481 = .ok (.if_icmp .ne 29, 3) := by decide +kernel
def B0_484_487 : List (Instr × Nat) := [(.aload 20, 2), (.iconst 2, 1)]
theorem B0_484_487d : own_d code 484 B0_484_487 487 = true := by decide +kernel
theorem d0_487 : decode code 487 = .ok (.iaload, 1) := by decide +kernel
def B0_488_491 : List (Instr × Nat) := [(.aload 21, 2), (.iconst 2, 1)]
theorem B0_488_491d : own_d code 488 B0_488_491 491 = true := by decide +kernel
theorem d0_491 : decode code 491 = .ok (.iaload, 1) := by decide +kernel
theorem d0_492 : decode code 492 = .ok (.if_icmp .ne 18, 3) := by decide +kernel
def B0_495_498 : List (Instr × Nat) := [(.aload 20, 2), (.iconst 3, 1)]
theorem B0_495_498d : own_d code 495 B0_495_498 498 = true := by decide +kernel
theorem d0_498 : decode code 498 = .ok (.iaload, 1) := by decide +kernel
def B0_499_502 : List (Instr × Nat) := [(.aload 21, 2), (.iconst 3, 1)]
theorem B0_499_502d : own_d code 499 B0_499_502 502 = true := by decide +kernel
theorem d0_502 : decode code 502 = .ok (.iaload, 1) := by decide +kernel
theorem d0_503 : decode code 503 = .ok (.if_icmp .ne 7, 3) := by decide +kernel
def B0_506_507 : List (Instr × Nat) := [(.iconst 1, 1)]
theorem B0_506_507d : own_d code 506 B0_506_507 507 = true := by decide +kernel
theorem d0_507 : decode code 507 = .ok (.goto 4, 3) := by decide +kernel
def B0_511_516 : List (Instr × Nat) := [(.istore 23, 2), (.aload 11, 2), (.iconst 0, 1)]
theorem B0_511_516d : own_d code 511 B0_511_516 516 = true := by decide +kernel
theorem d0_516 : decode code 516 = .ok (.iaload, 1) := by decide +kernel
def B0_517_519 : List (Instr × Nat) := [(.iload 7, 2)]
theorem B0_517_519d : own_d code 517 B0_517_519 519 = true := by decide +kernel
theorem d0_519 : decode code 519 = .ok (.if_icmp .ne 34, 3) := by decide +kernel
def B0_522_525 : List (Instr × Nat) := [(.aload 11, 2), (.iconst 1, 1)]
theorem B0_522_525d : own_d code 522 B0_522_525 525 = true := by decide +kernel
theorem d0_525 : decode code 525 = .ok (.iaload, 1) := by decide +kernel
def B0_526_528 : List (Instr × Nat) := [(.iload 8, 2)]
theorem B0_526_528d : own_d code 526 B0_526_528 528 = true := by decide +kernel
theorem d0_528 : decode code 528 = .ok (.if_icmp .ne 25, 3) := by decide +kernel
def B0_531_534 : List (Instr × Nat) := [(.aload 11, 2), (.iconst 2, 1)]
theorem B0_531_534d : own_d code 531 B0_531_534 534 = true := by decide +kernel
theorem d0_534 : decode code 534 = .ok (.iaload, 1) := by decide +kernel
def B0_535_537 : List (Instr × Nat) := [(.iload 9, 2)]
theorem B0_535_537d : own_d code 535 B0_535_537 537 = true := by decide +kernel
theorem d0_537 : decode code 537 = .ok (.if_icmp .ne 16, 3) := by decide +kernel
def B0_540_543 : List (Instr × Nat) := [(.aload 11, 2), (.iconst 3, 1)]
theorem B0_540_543d : own_d code 540 B0_540_543 543 = true := by decide +kernel
theorem d0_543 : decode code 543 = .ok (.iaload, 1) := by decide +kernel
def B0_544_546 : List (Instr × Nat) := [(.iload 10, 2)]
theorem B0_544_546d : own_d code 544 B0_544_546 546 = true := by decide +kernel
theorem d0_546 : decode code 546 = .ok (.if_icmp .ne 7, 3) := by decide +kernel
def B0_549_550 : List (Instr × Nat) := [(.iconst 1, 1)]
theorem B0_549_550d : own_d code 549 B0_549_550 550 = true := by decide +kernel
theorem d0_550 : decode code 550 = .ok (.goto 4, 3) := by decide +kernel
def B0_554_558 : List (Instr × Nat) := [(.istore 24, 2), (.iload 23, 2)]
theorem B0_554_558d : own_d code 554 B0_554_558 558 = true := by decide +kernel
theorem d0_558 : decode code 558 = .ok (.ifCond .eq 20, 3) := by decide +kernel
def B0_561_563 : List (Instr × Nat) := [(.iload 24, 2)]
theorem B0_561_563d : own_d code 561 B0_561_563 563 = true := by decide +kernel
theorem d0_563 : decode code 563 = .ok (.ifCond .eq 15, 3) := by decide +kernel
def B0_566_568 : List (Instr × Nat) := [(.aload 19, 2)]
theorem B0_566_568d : own_d code 566 B0_566_568 568 = true := by decide +kernel
theorem d0_568 : decode code 568 = .ok (.arraylength, 1) := by decide +kernel
def B0_569_571 : List (Instr × Nat) := [(.iload 12, 2)]
theorem B0_569_571d : own_d code 569 B0_569_571 571 = true := by decide +kernel
theorem d0_571 : decode code 571 = .ok (.if_icmp .ne 7, 3) := by decide +kernel
def B0_574_575 : List (Instr × Nat) := [(.iconst 1, 1)]
theorem B0_574_575d : own_d code 574 B0_574_575 575 = true := by decide +kernel
theorem d0_575 : decode code 575 = .ok (.goto 4, 3) := by decide +kernel
theorem d0_579 : decode code 579 = .ok (.ireturn, 1) := by decide +kernel
def B0_179_182 : List (Instr × Nat) := [(.iload 12, 2), (.iconst 1, 1)]
theorem B0_179_182d : own_d code 179 B0_179_182 182 = true := by decide +kernel
theorem d0_182 : decode code 182 = .ok (.if_icmp .ne 16, 3) := by decide +kernel
def B0_185_186 : List (Instr × Nat) := [(.iconst 1, 1)]
theorem B0_185_186d : own_d code 185 B0_185_186 186 = true := by decide +kernel
theorem d0_186 : decode code 186 = .ok (.newarray .int, 2) := by decide +kernel
def B0_188_192 : List (Instr × Nat) := [(.dup, 1), (.iconst 0, 1), (.iload 13, 2)]
theorem B0_188_192d : own_d code 188 B0_188_192 192 = true := by decide +kernel
theorem d0_192 : decode code 192 = .ok (.iastore, 1) := by decide +kernel
def B0_193_195 : List (Instr × Nat) := [(.astore 19, 2)]
theorem B0_193_195d : own_d code 193 B0_193_195 195 = true := by decide +kernel
theorem d0_195 : decode code 195 = .ok (.goto 81, 3) := by decide +kernel
def B0_369_375 : List (Instr × Nat) := [(.aload 21, 2), (.iload 13, 2), (.iload 4, 2)]
theorem B0_369_375d : own_d code 369 B0_369_375 375 = true := by decide +kernel
theorem d0_375 : decode code 375 = .ok (.iastore, 1) := by decide +kernel
def B0_198_201 : List (Instr × Nat) := [(.iload 12, 2), (.iconst 2, 1)]
theorem B0_198_201d : own_d code 198 B0_198_201 201 = true := by decide +kernel
theorem d0_201 : decode code 201 = .ok (.if_icmp .ne 21, 3) := by decide +kernel
def B0_204_205 : List (Instr × Nat) := [(.iconst 2, 1)]
theorem B0_204_205d : own_d code 204 B0_204_205 205 = true := by decide +kernel
theorem d0_205 : decode code 205 = .ok (.newarray .int, 2) := by decide +kernel
def B0_207_211 : List (Instr × Nat) := [(.dup, 1), (.iconst 0, 1), (.iload 13, 2)]
theorem B0_207_211d : own_d code 207 B0_207_211 211 = true := by decide +kernel
theorem d0_211 : decode code 211 = .ok (.iastore, 1) := by decide +kernel
def B0_212_216 : List (Instr × Nat) := [(.dup, 1), (.iconst 1, 1), (.iload 14, 2)]
theorem B0_212_216d : own_d code 212 B0_212_216 216 = true := by decide +kernel
theorem d0_216 : decode code 216 = .ok (.iastore, 1) := by decide +kernel
def B0_217_219 : List (Instr × Nat) := [(.astore 19, 2)]
theorem B0_217_219d : own_d code 217 B0_217_219 219 = true := by decide +kernel
theorem d0_219 : decode code 219 = .ok (.goto 57, 3) := by decide +kernel
def B0_382_392 : List (Instr × Nat) := [(.aload 21, 2), (.iload 14, 2), (.iload 4, 2), (.aload 22, 2), (.iload 13, 2)]
theorem B0_382_392d : own_d code 382 B0_382_392 392 = true := by decide +kernel
theorem d0_392 : decode code 392 = .ok (.iaload, 1) := by decide +kernel
def B0_393_394 : List (Instr × Nat) := [(.iadd, 1)]
theorem B0_393_394d : own_d code 393 B0_393_394 394 = true := by decide +kernel
theorem d0_394 : decode code 394 = .ok (.iastore, 1) := by decide +kernel
def B0_222_225 : List (Instr × Nat) := [(.iload 12, 2), (.iconst 3, 1)]
theorem B0_222_225d : own_d code 222 B0_222_225 225 = true := by decide +kernel
theorem d0_225 : decode code 225 = .ok (.if_icmp .ne 26, 3) := by decide +kernel
def B0_228_229 : List (Instr × Nat) := [(.iconst 3, 1)]
theorem B0_228_229d : own_d code 228 B0_228_229 229 = true := by decide +kernel
theorem d0_229 : decode code 229 = .ok (.newarray .int, 2) := by decide +kernel
def B0_231_235 : List (Instr × Nat) := [(.dup, 1), (.iconst 0, 1), (.iload 13, 2)]
theorem B0_231_235d : own_d code 231 B0_231_235 235 = true := by decide +kernel
theorem d0_235 : decode code 235 = .ok (.iastore, 1) := by decide +kernel
def B0_236_240 : List (Instr × Nat) := [(.dup, 1), (.iconst 1, 1), (.iload 14, 2)]
theorem B0_236_240d : own_d code 236 B0_236_240 240 = true := by decide +kernel
theorem d0_240 : decode code 240 = .ok (.iastore, 1) := by decide +kernel
def B0_241_245 : List (Instr × Nat) := [(.dup, 1), (.iconst 2, 1), (.iload 17, 2)]
theorem B0_241_245d : own_d code 241 B0_241_245 245 = true := by decide +kernel
theorem d0_245 : decode code 245 = .ok (.iastore, 1) := by decide +kernel
def B0_246_248 : List (Instr × Nat) := [(.astore 19, 2)]
theorem B0_246_248d : own_d code 246 B0_246_248 248 = true := by decide +kernel
theorem d0_248 : decode code 248 = .ok (.goto 28, 3) := by decide +kernel
def B0_401_411 : List (Instr × Nat) := [(.aload 21, 2), (.iload 17, 2), (.iload 4, 2), (.aload 22, 2), (.iload 13, 2)]
theorem B0_401_411d : own_d code 401 B0_401_411 411 = true := by decide +kernel
theorem d0_411 : decode code 411 = .ok (.iaload, 1) := by decide +kernel
def B0_412_417 : List (Instr × Nat) := [(.iadd, 1), (.aload 22, 2), (.iload 14, 2)]
theorem B0_412_417d : own_d code 412 B0_412_417 417 = true := by decide +kernel
theorem d0_417 : decode code 417 = .ok (.iaload, 1) := by decide +kernel
def B0_418_419 : List (Instr × Nat) := [(.iadd, 1)]
theorem B0_418_419d : own_d code 418 B0_418_419 419 = true := by decide +kernel
theorem d0_419 : decode code 419 = .ok (.iastore, 1) := by decide +kernel
def B0_251_252 : List (Instr × Nat) := [(.iconst 4, 1)]
theorem B0_251_252d : own_d code 251 B0_251_252 252 = true := by decide +kernel
theorem d0_252 : decode code 252 = .ok (.newarray .int, 2) := by decide +kernel
def B0_254_258 : List (Instr × Nat) := [(.dup, 1), (.iconst 0, 1), (.iload 13, 2)]
theorem B0_254_258d : own_d code 254 B0_254_258 258 = true := by decide +kernel
theorem d0_258 : decode code 258 = .ok (.iastore, 1) := by decide +kernel
def B0_259_263 : List (Instr × Nat) := [(.dup, 1), (.iconst 1, 1), (.iload 14, 2)]
theorem B0_259_263d : own_d code 259 B0_259_263 263 = true := by decide +kernel
theorem d0_263 : decode code 263 = .ok (.iastore, 1) := by decide +kernel
def B0_264_268 : List (Instr × Nat) := [(.dup, 1), (.iconst 2, 1), (.iload 17, 2)]
theorem B0_264_268d : own_d code 264 B0_264_268 268 = true := by decide +kernel
theorem d0_268 : decode code 268 = .ok (.iastore, 1) := by decide +kernel
def B0_269_273 : List (Instr × Nat) := [(.dup, 1), (.iconst 3, 1), (.iload 18, 2)]
theorem B0_269_273d : own_d code 269 B0_269_273 273 = true := by decide +kernel
theorem d0_273 : decode code 273 = .ok (.iastore, 1) := by decide +kernel
def B0_274_276 : List (Instr × Nat) := [(.astore 19, 2)]
theorem B0_274_276d : own_d code 274 B0_274_276 276 = true := by decide +kernel
def B0_426_436 : List (Instr × Nat) := [(.aload 21, 2), (.iload 18, 2), (.iload 4, 2), (.aload 22, 2), (.iload 13, 2)]
theorem B0_426_436d : own_d code 426 B0_426_436 436 = true := by decide +kernel
theorem d0_436 : decode code 436 = .ok (.iaload, 1) := by decide +kernel
def B0_437_442 : List (Instr × Nat) := [(.iadd, 1), (.aload 22, 2), (.iload 14, 2)]
theorem B0_437_442d : own_d code 437 B0_437_442 442 = true := by decide +kernel
theorem d0_442 : decode code 442 = .ok (.iaload, 1) := by decide +kernel
def B0_443_448 : List (Instr × Nat) := [(.iadd, 1), (.aload 22, 2), (.iload 17, 2)]
theorem B0_443_448d : own_d code 443 B0_443_448 448 = true := by decide +kernel
theorem d0_448 : decode code 448 = .ok (.iaload, 1) := by decide +kernel
def B0_449_450 : List (Instr × Nat) := [(.iadd, 1)]
theorem B0_449_450d : own_d code 449 B0_449_450 450 = true := by decide +kernel
theorem d0_450 : decode code 450 = .ok (.iastore, 1) := by decide +kernel
def B0_84_88 : List (Instr × Nat) := [(.iload 15, 2), (.iload 13, 2)]
theorem B0_84_88d : own_d code 84 B0_84_88 88 = true := by decide +kernel
theorem d0_88 : decode code 88 = .ok (.if_icmp .eq 10, 3) := by decide +kernel
def B0_98_105 : List (Instr × Nat) := [(.iconst 1, 1), (.istore 15, 2), (.iload 15, 2), (.iload 13, 2)]
theorem B0_98_105d : own_d code 98 B0_98_105 105 = true := by decide +kernel
theorem d0_105 : decode code 105 = .ok (.if_icmp .eq 10, 3) := by decide +kernel
def B0_115_118 : List (Instr × Nat) := [(.iconst 2, 1), (.istore 15, 2)]
theorem B0_115_118d : own_d code 115 B0_115_118 118 = true := by decide +kernel
def B0_118_138 : List (Instr × Nat) := [(.bipush 6, 2), (.iload 13, 2), (.isub, 1), (.iload 14, 2), (.isub, 1), (.iload 15, 2), (.isub, 1), (.istore 16, 2), (.iload 5, 2), (.bipush 7, 2), (.iushr, 1), (.iconst 1, 1), (.iand, 1)]
theorem B0_118_138d : own_d code 118 B0_118_138 138 = true := by decide +kernel
theorem d0_138 : decode code 138 = .ok (.ifCond .eq 8, 3) := by decide +kernel
def B0_146_154 : List (Instr × Nat) := [(.iload 16, 2), (.istore 17, 2), (.iload 17, 2), (.iload 15, 2)]
theorem B0_146_154d : own_d code 146 B0_146_154 154 = true := by decide +kernel
theorem d0_154 : decode code 154 = .ok (.if_icmp .ne 8, 3) := by decide +kernel
def B0_162_166 : List (Instr × Nat) := [(.iload 15, 2), (.istore 18, 2)]
theorem B0_162_166d : own_d code 162 B0_162_166 166 = true := by decide +kernel
def B0_157_159 : List (Instr × Nat) := [(.iload 16, 2)]
theorem B0_157_159d : own_d code 157 B0_157_159 159 = true := by decide +kernel
theorem d0_159 : decode code 159 = .ok (.goto 5, 3) := by decide +kernel
def B0_164_166 : List (Instr × Nat) := [(.istore 18, 2)]
theorem B0_164_166d : own_d code 164 B0_164_166 166 = true := by decide +kernel
def B0_141_143 : List (Instr × Nat) := [(.iload 15, 2)]
theorem B0_141_143d : own_d code 141 B0_141_143 143 = true := by decide +kernel
theorem d0_143 : decode code 143 = .ok (.goto 5, 3) := by decide +kernel
def B0_148_154 : List (Instr × Nat) := [(.istore 17, 2), (.iload 17, 2), (.iload 15, 2)]
theorem B0_148_154d : own_d code 148 B0_148_154 154 = true := by decide +kernel
def B0_108_112 : List (Instr × Nat) := [(.iload 15, 2), (.iload 14, 2)]
theorem B0_108_112d : own_d code 108 B0_108_112 112 = true := by decide +kernel
theorem d0_112 : decode code 112 = .ok (.if_icmp .ne 6, 3) := by decide +kernel
def B0_91_95 : List (Instr × Nat) := [(.iload 15, 2), (.iload 14, 2)]
theorem B0_91_95d : own_d code 91 B0_91_95 95 = true := by decide +kernel
theorem d0_95 : decode code 95 = .ok (.if_icmp .ne 6, 3) := by decide +kernel
def B0_101_105 : List (Instr × Nat) := [(.iload 15, 2), (.iload 13, 2)]
theorem B0_101_105d : own_d code 101 B0_101_105 105 = true := by decide +kernel
set_option maxRecDepth 65536 in
set_option maxHeartbeats 40000000 in
theorem c_law (l : Launch) (Z : State) (a0 : Array Value) (hw : ∀ d ∈ tables_1, d.before a0 Z = true) (c01 : Int64) (c23 : Int64) (at0 : Int32) (sel : Int32) (jk : Int32) (h0 : Heap) (n0 : Nat) (Z0 : n0 ≤ h0.size)  :
    own_C l Z x code maxLocals ret room_1 #[(.long c01), (.long c23), (.int at0), (.int sel), (.int jk)] h0 n0 (fun v h => v = some (.int 1)) := by
  refine own_body pl0 Z0 (ls := #[.val (.long c01), .second, .val (.long c23), .second, .val (.int at0), .val (.int sel), .val (.int jk), .unset, .unset, .unset, .unset, .unset, .unset, .unset, .unset, .unset, .unset, .unset, .unset, .unset, .unset, .unset, .unset, .unset, .unset]) (fun m => by first | (simp [entryFrame, mkF, argsToLocals, Value.category, maxLocals]; done) | rfl) ?_
  intro p e s m below meth c T0 X0
  refine own_blk X0 B0_0_22 B0_0_22d (ls' := #[.val (.long c01), .second, .val (.long c23), .second, .val (.int at0), .val (.int sel), .val (.int jk), .val (.int (c01.toInt32)), .val (.int ((own_lushr c01 (32 : Int32)).toInt32)), .val (.int (c23.toInt32)), .val (.int ((own_lushr c23 (32 : Int32)).toInt32)), .unset, .unset, .unset, .unset, .unset, .unset, .unset, .unset, .unset, .unset, .unset, .unset, .unset, .unset]) (st' := []) rfl ?_
  generalize ek0 : (c01.toInt32) = k0
  generalize ek1 : ((own_lushr c01 (32 : Int32)).toInt32) = k1
  generalize ek2 : (c23.toInt32) = k2
  generalize ek3 : ((own_lushr c23 (32 : Int32)).toInt32) = k3
  refine own_blk X0 B0_22_23 B0_22_23d (ls' := #[.val (.long c01), .second, .val (.long c23), .second, .val (.int at0), .val (.int sel), .val (.int jk), .val (.int k0), .val (.int k1), .val (.int k2), .val (.int k3), .unset, .unset, .unset, .unset, .unset, .unset, .unset, .unset, .unset, .unset, .unset, .unset, .unset, .unset]) (st' := [(.int (4 : Int32))]) rfl ?_
  refine own_newI X0 (hw _ (List.mem_of_getElem? (i := 0) rfl)) rfl d0_23 (by decide) 4 (by decide) (by decide) (by decide) (by decide) (fun h1 T1 X1 E1 A1 => ?_)
  have n_ca : n0 ≤ h0.size := X0.2.1
  have A1 : own_I Z h1 h0.size .int 4 (fun _ => (0 : Int32)) := A1
  generalize ez_ca : h0.size = ca at A1 n_ca ⊢
  show own_G p e below (T1.setTop (mkF m 25 #[.val (.long c01), .second, .val (.long c23), .second, .val (.int at0), .val (.int sel), .val (.int jk), .val (.int k0), .val (.int k1), .val (.int k2), .val (.int k3), .unset, .unset, .unset, .unset, .unset, .unset, .unset, .unset, .unset, .unset, .unset, .unset, .unset, .unset] [(.ref ca)])) _
  refine own_blk X1 B0_25_29 B0_25_29d (ls' := #[.val (.long c01), .second, .val (.long c23), .second, .val (.int at0), .val (.int sel), .val (.int jk), .val (.int k0), .val (.int k1), .val (.int k2), .val (.int k3), .unset, .unset, .unset, .unset, .unset, .unset, .unset, .unset, .unset, .unset, .unset, .unset, .unset, .unset]) (st' := [(.int k0), (.int (0 : Int32)), (.ref ca), (.ref ca)]) rfl ?_
  refine own_iast X1 A1 n_ca d0_29 (by decide) (by decide)  (fun h2 T2 X2 A2 W2 => ?_)
  have A2 : own_I Z h2 ca .int 4 (own_u (fun _ => (0 : Int32)) (0) k0) := A2
  generalize eg2 : own_u (fun _ => (0 : Int32)) (0) k0 = g2 at A2
  refine own_blk X2 B0_30_34 B0_30_34d (ls' := #[.val (.long c01), .second, .val (.long c23), .second, .val (.int at0), .val (.int sel), .val (.int jk), .val (.int k0), .val (.int k1), .val (.int k2), .val (.int k3), .unset, .unset, .unset, .unset, .unset, .unset, .unset, .unset, .unset, .unset, .unset, .unset, .unset, .unset]) (st' := [(.int k1), (.int (1 : Int32)), (.ref ca), (.ref ca)]) rfl ?_
  refine own_iast X2 A2 n_ca d0_34 (by decide) (by decide)  (fun h3 T3 X3 A3 W3 => ?_)
  have A3 : own_I Z h3 ca .int 4 (own_u g2 (1) k1) := A3
  generalize eg3 : own_u g2 (1) k1 = g3 at A3
  refine own_blk X3 B0_35_39 B0_35_39d (ls' := #[.val (.long c01), .second, .val (.long c23), .second, .val (.int at0), .val (.int sel), .val (.int jk), .val (.int k0), .val (.int k1), .val (.int k2), .val (.int k3), .unset, .unset, .unset, .unset, .unset, .unset, .unset, .unset, .unset, .unset, .unset, .unset, .unset, .unset]) (st' := [(.int k2), (.int (2 : Int32)), (.ref ca), (.ref ca)]) rfl ?_
  refine own_iast X3 A3 n_ca d0_39 (by decide) (by decide)  (fun h4 T4 X4 A4 W4 => ?_)
  have A4 : own_I Z h4 ca .int 4 (own_u g3 (2) k2) := A4
  generalize eg4 : own_u g3 (2) k2 = g4 at A4
  refine own_blk X4 B0_40_44 B0_40_44d (ls' := #[.val (.long c01), .second, .val (.long c23), .second, .val (.int at0), .val (.int sel), .val (.int jk), .val (.int k0), .val (.int k1), .val (.int k2), .val (.int k3), .unset, .unset, .unset, .unset, .unset, .unset, .unset, .unset, .unset, .unset, .unset, .unset, .unset, .unset]) (st' := [(.int k3), (.int (3 : Int32)), (.ref ca), (.ref ca)]) rfl ?_
  refine own_iast X4 A4 n_ca d0_44 (by decide) (by decide)  (fun h5 T5 X5 A5 W5 => ?_)
  have A5 : own_I Z h5 ca .int 4 (own_u g4 (3) k3) := A5
  generalize eg5 : own_u g4 (3) k3 = g5 at A5
  refine own_blk X5 B0_45_53 B0_45_53d (ls' := #[.val (.long c01), .second, .val (.long c23), .second, .val (.int at0), .val (.int sel), .val (.int jk), .val (.int k0), .val (.int k1), .val (.int k2), .val (.int k3), .val (.ref ca), .unset, .unset, .unset, .unset, .unset, .unset, .unset, .unset, .unset, .unset, .unset, .unset, .unset]) (st' := [(.int (5 : Int32)), (.int (sel &&& (7 : Int32)))]) rfl ?_
  refine own_iremS X5 d0_53 (by decide) ?_
  refine own_blk X5 B0_54_75 B0_54_75d (ls' := #[.val (.long c01), .second, .val (.long c23), .second, .val (.int at0), .val (.int sel), .val (.int jk), .val (.int k0), .val (.int k1), .val (.int k2), .val (.int k3), .val (.ref ca), .val (.int (own_irem (sel &&& (7 : Int32)) (5 : Int32))), .val (.int ((own_iushr sel (3 : Int32)) &&& (3 : Int32))), .unset, .unset, .unset, .unset, .unset, .unset, .unset, .unset, .unset, .unset, .unset]) (st' := [(.int (3 : Int32)), (.int ((own_iushr sel (5 : Int32)) &&& (3 : Int32))), (.int (((own_iushr sel (3 : Int32)) &&& (3 : Int32)) + (1 : Int32)))]) rfl ?_
  refine own_iremS X5 d0_75 (by decide) ?_
  refine own_blk X5 B0_76_84 B0_76_84d (ls' := #[.val (.long c01), .second, .val (.long c23), .second, .val (.int at0), .val (.int sel), .val (.int jk), .val (.int k0), .val (.int k1), .val (.int k2), .val (.int k3), .val (.ref ca), .val (.int (own_irem (sel &&& (7 : Int32)) (5 : Int32))), .val (.int ((own_iushr sel (3 : Int32)) &&& (3 : Int32))), .val (.int (((((own_iushr sel (3 : Int32)) &&& (3 : Int32)) + (1 : Int32)) + (own_irem ((own_iushr sel (5 : Int32)) &&& (3 : Int32)) (3 : Int32))) &&& (3 : Int32))), .val (.int (0 : Int32)), .unset, .unset, .unset, .unset, .unset, .unset, .unset, .unset, .unset]) (st' := []) rfl ?_
  generalize en : (own_irem (sel &&& (7 : Int32)) (5 : Int32)) = n
  generalize ea : ((own_iushr sel (3 : Int32)) &&& (3 : Int32)) = a
  have ha : 0 ≤ a.toInt ∧ a.toInt ≤ 3 := by rw [← ea, own_mask _ 3 2 (by decide) (by decide)]; omega
  have hn : 0 ≤ n.toInt ∧ n.toInt ≤ 4 := by
    have h1 := own_mask sel 7 3 (by decide) (by decide)
    rw [← en, own_irem_pos (by omega)]
    show 0 ≤ _ % (5 : Int) ∧ _ % (5 : Int) ≤ 4
    omega
  generalize eb : (((a + (1 : Int32)) + (own_irem ((own_iushr sel (5 : Int32)) &&& (3 : Int32)) (3 : Int32))) &&& (3 : Int32)) = b
  have hb : 0 ≤ b.toInt ∧ b.toInt ≤ 3 ∧ b.toInt ≠ a.toInt := by
    have h1 := own_mask (own_iushr sel 5) 3 2 (by decide) (by decide)
    have h2 : (own_irem (own_iushr sel 5 &&& 3) 3).toInt = (own_iushr sel 5 &&& 3).toInt % 3 := own_irem_pos (by omega)
    have h3 : (a + 1).toInt = a.toInt + 1 := own_addc rfl (by omega) (by omega)
    have h4 : ((a + 1) + own_irem (own_iushr sel 5 &&& 3) 3).toInt = a.toInt + 1 + (own_iushr sel 5 &&& 3).toInt % 3 := by rw [Jvm.Kit.i32_add (by omega) (by omega), h3, h2]
    rw [← eb, own_mask _ 3 2 (by decide) (by decide), h4]; omega
  have J166 : ∀ mi ot c1 d1 : Int32, (0 ≤ c1.toInt ∧ c1.toInt ≤ 3) → (0 ≤ d1.toInt ∧ d1.toInt ≤ 3) → own_G p e below (T5.setTop (mkF m 166 #[.val (.long c01), .second, .val (.long c23), .second, .val (.int at0), .val (.int sel), .val (.int jk), .val (.int k0), .val (.int k1), .val (.int k2), .val (.int k3), .val (.ref ca), .val (.int n), .val (.int a), .val (.int b), .val (.int mi), .val (.int ot), .val (.int c1), .val (.int d1), .unset, .unset, .unset, .unset, .unset, .unset] [])) (own_E s n0 (fun v h => v = some (.int 1)) room_1.cells room_1.slots) := by
    intro mi ot c1 d1 hc hd
    have hcs : n.toInt = 0 ∨ n.toInt = 1 ∨ n.toInt = 2 ∨ n.toInt = 3 ∨ n.toInt = 4 := by omega
    have hcs2 : n = 0 ∨ n = 1 ∨ n = 2 ∨ n = 3 ∨ n = 4 := by rcases hcs with q1 | q1 | q1 | q1 | q1; exact Or.inl (Int32.toInt_inj.mp q1); exact Or.inr (Or.inl (Int32.toInt_inj.mp q1)); exact Or.inr (Or.inr (Or.inl (Int32.toInt_inj.mp q1))); exact Or.inr (Or.inr (Or.inr (Or.inl (Int32.toInt_inj.mp q1)))); exact Or.inr (Or.inr (Or.inr (Or.inr (Int32.toInt_inj.mp q1))))
    clear hcs hn en
    rcases hcs2 with rfl | rfl | rfl | rfl | rfl
    · skip
      refine own_blk X5 B0_166_168 B0_166_168d (ls' := #[.val (.long c01), .second, .val (.long c23), .second, .val (.int at0), .val (.int sel), .val (.int jk), .val (.int k0), .val (.int k1), .val (.int k2), .val (.int k3), .val (.ref ca), .val (.int (0 : Int32)), .val (.int a), .val (.int b), .val (.int mi), .val (.int ot), .val (.int c1), .val (.int d1), .unset, .unset, .unset, .unset, .unset, .unset]) (st' := [(.int (0 : Int32))]) rfl ?_
      refine own_if X5 d0_168 (pc' := 179) (by decide) (fun (c168 : ¬ (0 : Int) = 0) => by exfalso; omega) (fun c168 => ?_)
      have c168 : ¬ (¬ (0 : Int) = 0) := c168
      refine own_blk X5 B0_171_172 B0_171_172d (ls' := #[.val (.long c01), .second, .val (.long c23), .second, .val (.int at0), .val (.int sel), .val (.int jk), .val (.int k0), .val (.int k1), .val (.int k2), .val (.int k3), .val (.ref ca), .val (.int (0 : Int32)), .val (.int a), .val (.int b), .val (.int mi), .val (.int ot), .val (.int c1), .val (.int d1), .unset, .unset, .unset, .unset, .unset, .unset]) (st' := [(.int (0 : Int32))]) rfl ?_
      have lt_ca := own_A_lt A5
      refine own_newI X5 (hw _ (List.mem_of_getElem? (i := 0) rfl)) rfl d0_172 (by decide) 0 (by decide) (by decide) (by decide) (by decide) (fun h6 T6 X6 E6 A6 => ?_)
      have n_oa : n0 ≤ h5.size := X5.2.1
      have A6 : own_I Z h6 h5.size .int 0 (fun _ => (0 : Int32)) := A6
      generalize ez_oa : h5.size = oa at A6 n_oa lt_ca ⊢
      have A7 := own_I_ext A5 E6
      have ne_ca_oa : ca ≠ oa := Nat.ne_of_lt lt_ca
      show own_G p e below (T6.setTop (mkF m 174 #[.val (.long c01), .second, .val (.long c23), .second, .val (.int at0), .val (.int sel), .val (.int jk), .val (.int k0), .val (.int k1), .val (.int k2), .val (.int k3), .val (.ref ca), .val (.int (0 : Int32)), .val (.int a), .val (.int b), .val (.int mi), .val (.int ot), .val (.int c1), .val (.int d1), .unset, .unset, .unset, .unset, .unset, .unset] [(.ref oa)])) _
      refine own_blk X6 B0_174_176 B0_174_176d (ls' := #[.val (.long c01), .second, .val (.long c23), .second, .val (.int at0), .val (.int sel), .val (.int jk), .val (.int k0), .val (.int k1), .val (.int k2), .val (.int k3), .val (.ref ca), .val (.int (0 : Int32)), .val (.int a), .val (.int b), .val (.int mi), .val (.int ot), .val (.int c1), .val (.int d1), .val (.ref oa), .unset, .unset, .unset, .unset, .unset]) (st' := []) rfl ?_
      refine own_goto X6 d0_176 (pc' := 276) (by decide) ?_
      refine own_blk X6 B0_276_277 B0_276_277d (ls' := #[.val (.long c01), .second, .val (.long c23), .second, .val (.int at0), .val (.int sel), .val (.int jk), .val (.int k0), .val (.int k1), .val (.int k2), .val (.int k3), .val (.ref ca), .val (.int (0 : Int32)), .val (.int a), .val (.int b), .val (.int mi), .val (.int ot), .val (.int c1), .val (.int d1), .val (.ref oa), .unset, .unset, .unset, .unset, .unset]) (st' := [(.int (4 : Int32))]) rfl ?_
      have lt_ca := own_A_lt A7
      have lt_oa := own_A_lt A6
      refine own_newI X6 (hw _ (List.mem_of_getElem? (i := 0) rfl)) rfl d0_277 (by decide) 4 (by decide) (by decide) (by decide) (by decide) (fun h8 T8 X8 E8 A8 => ?_)
      have n_sa : n0 ≤ h6.size := X6.2.1
      have A8 : own_I Z h8 h6.size .int 4 (fun _ => (0 : Int32)) := A8
      generalize ez_sa : h6.size = sa at A8 n_sa lt_ca lt_oa ⊢
      have A9 := own_I_ext A7 E8
      have A10 := own_I_ext A6 E8
      have ne_ca_sa : ca ≠ sa := Nat.ne_of_lt lt_ca
      have ne_oa_sa : oa ≠ sa := Nat.ne_of_lt lt_oa
      show own_G p e below (T8.setTop (mkF m 279 #[.val (.long c01), .second, .val (.long c23), .second, .val (.int at0), .val (.int sel), .val (.int jk), .val (.int k0), .val (.int k1), .val (.int k2), .val (.int k3), .val (.ref ca), .val (.int (0 : Int32)), .val (.int a), .val (.int b), .val (.int mi), .val (.int ot), .val (.int c1), .val (.int d1), .val (.ref oa), .unset, .unset, .unset, .unset, .unset] [(.ref sa)])) _
      refine own_blk X8 B0_279_283 B0_279_283d (ls' := #[.val (.long c01), .second, .val (.long c23), .second, .val (.int at0), .val (.int sel), .val (.int jk), .val (.int k0), .val (.int k1), .val (.int k2), .val (.int k3), .val (.ref ca), .val (.int (0 : Int32)), .val (.int a), .val (.int b), .val (.int mi), .val (.int ot), .val (.int c1), .val (.int d1), .val (.ref oa), .unset, .unset, .unset, .unset, .unset]) (st' := [(.int jk), (.int (0 : Int32)), (.ref sa), (.ref sa)]) rfl ?_
      refine own_iast X8 A8 n_sa d0_283 (by decide) (by decide)  (fun h11 T11 X11 A11 W11 => ?_)
      have A11 : own_I Z h11 sa .int 4 (own_u (fun _ => (0 : Int32)) (0) jk) := A11
      generalize eg11 : own_u (fun _ => (0 : Int32)) (0) jk = g11 at A11
      have A11_ca := own_I_other A9 W11 (by first | exact ne_ca_sa | exact fun q => ne_sa_ca q.symm)
      have A11_oa := own_I_other A10 W11 (by first | exact ne_oa_sa | exact fun q => ne_sa_oa q.symm)
      refine own_blk X11 B0_284_290 B0_284_290d (ls' := #[.val (.long c01), .second, .val (.long c23), .second, .val (.int at0), .val (.int sel), .val (.int jk), .val (.int k0), .val (.int k1), .val (.int k2), .val (.int k3), .val (.ref ca), .val (.int (0 : Int32)), .val (.int a), .val (.int b), .val (.int mi), .val (.int ot), .val (.int c1), .val (.int d1), .val (.ref oa), .unset, .unset, .unset, .unset, .unset]) (st' := [(.int (jk + (1 : Int32))), (.int (1 : Int32)), (.ref sa), (.ref sa)]) rfl ?_
      refine own_iast X11 A11 n_sa d0_290 (by decide) (by decide)  (fun h12 T12 X12 A12 W12 => ?_)
      have A12 : own_I Z h12 sa .int 4 (own_u g11 (1) (jk + (1 : Int32))) := A12
      generalize eg12 : own_u g11 (1) (jk + (1 : Int32)) = g12 at A12
      have A12_ca := own_I_other A11_ca W12 (by first | exact ne_ca_sa | exact fun q => ne_sa_ca q.symm)
      have A12_oa := own_I_other A11_oa W12 (by first | exact ne_oa_sa | exact fun q => ne_sa_oa q.symm)
      refine own_blk X12 B0_291_297 B0_291_297d (ls' := #[.val (.long c01), .second, .val (.long c23), .second, .val (.int at0), .val (.int sel), .val (.int jk), .val (.int k0), .val (.int k1), .val (.int k2), .val (.int k3), .val (.ref ca), .val (.int (0 : Int32)), .val (.int a), .val (.int b), .val (.int mi), .val (.int ot), .val (.int c1), .val (.int d1), .val (.ref oa), .unset, .unset, .unset, .unset, .unset]) (st' := [(.int (jk + (2 : Int32))), (.int (2 : Int32)), (.ref sa), (.ref sa)]) rfl ?_
      refine own_iast X12 A12 n_sa d0_297 (by decide) (by decide)  (fun h13 T13 X13 A13 W13 => ?_)
      have A13 : own_I Z h13 sa .int 4 (own_u g12 (2) (jk + (2 : Int32))) := A13
      generalize eg13 : own_u g12 (2) (jk + (2 : Int32)) = g13 at A13
      have A13_ca := own_I_other A12_ca W13 (by first | exact ne_ca_sa | exact fun q => ne_sa_ca q.symm)
      have A13_oa := own_I_other A12_oa W13 (by first | exact ne_oa_sa | exact fun q => ne_sa_oa q.symm)
      refine own_blk X13 B0_298_304 B0_298_304d (ls' := #[.val (.long c01), .second, .val (.long c23), .second, .val (.int at0), .val (.int sel), .val (.int jk), .val (.int k0), .val (.int k1), .val (.int k2), .val (.int k3), .val (.ref ca), .val (.int (0 : Int32)), .val (.int a), .val (.int b), .val (.int mi), .val (.int ot), .val (.int c1), .val (.int d1), .val (.ref oa), .unset, .unset, .unset, .unset, .unset]) (st' := [(.int (jk + (3 : Int32))), (.int (3 : Int32)), (.ref sa), (.ref sa)]) rfl ?_
      refine own_iast X13 A13 n_sa d0_304 (by decide) (by decide)  (fun h14 T14 X14 A14 W14 => ?_)
      have A14 : own_I Z h14 sa .int 4 (own_u g13 (3) (jk + (3 : Int32))) := A14
      generalize eg14 : own_u g13 (3) (jk + (3 : Int32)) = g14 at A14
      have A14_ca := own_I_other A13_ca W14 (by first | exact ne_ca_sa | exact fun q => ne_sa_ca q.symm)
      have A14_oa := own_I_other A13_oa W14 (by first | exact ne_oa_sa | exact fun q => ne_sa_oa q.symm)
      refine own_blk X14 B0_305_308 B0_305_308d (ls' := #[.val (.long c01), .second, .val (.long c23), .second, .val (.int at0), .val (.int sel), .val (.int jk), .val (.int k0), .val (.int k1), .val (.int k2), .val (.int k3), .val (.ref ca), .val (.int (0 : Int32)), .val (.int a), .val (.int b), .val (.int mi), .val (.int ot), .val (.int c1), .val (.int d1), .val (.ref oa), .val (.ref sa), .unset, .unset, .unset, .unset]) (st' := [(.int (4 : Int32))]) rfl ?_
      have lt_ca := own_A_lt A14_ca
      have lt_oa := own_A_lt A14_oa
      have lt_sa := own_A_lt A14
      refine own_newI X14 (hw _ (List.mem_of_getElem? (i := 0) rfl)) rfl d0_308 (by decide) 4 (by decide) (by decide) (by decide) (by decide) (fun h15 T15 X15 E15 A15 => ?_)
      have n_wa : n0 ≤ h14.size := X14.2.1
      have A15 : own_I Z h15 h14.size .int 4 (fun _ => (0 : Int32)) := A15
      generalize ez_wa : h14.size = wa at A15 n_wa lt_ca lt_oa lt_sa ⊢
      have A16 := own_I_ext A14_ca E15
      have A17 := own_I_ext A14_oa E15
      have A18 := own_I_ext A14 E15
      have ne_ca_wa : ca ≠ wa := Nat.ne_of_lt lt_ca
      have ne_oa_wa : oa ≠ wa := Nat.ne_of_lt lt_oa
      have ne_sa_wa : sa ≠ wa := Nat.ne_of_lt lt_sa
      show own_G p e below (T15.setTop (mkF m 310 #[.val (.long c01), .second, .val (.long c23), .second, .val (.int at0), .val (.int sel), .val (.int jk), .val (.int k0), .val (.int k1), .val (.int k2), .val (.int k3), .val (.ref ca), .val (.int (0 : Int32)), .val (.int a), .val (.int b), .val (.int mi), .val (.int ot), .val (.int c1), .val (.int d1), .val (.ref oa), .val (.ref sa), .unset, .unset, .unset, .unset] [(.ref wa)])) _
      refine own_blk X15 B0_310_314 B0_310_314d (ls' := #[.val (.long c01), .second, .val (.long c23), .second, .val (.int at0), .val (.int sel), .val (.int jk), .val (.int k0), .val (.int k1), .val (.int k2), .val (.int k3), .val (.ref ca), .val (.int (0 : Int32)), .val (.int a), .val (.int b), .val (.int mi), .val (.int ot), .val (.int c1), .val (.int d1), .val (.ref oa), .val (.ref sa), .unset, .unset, .unset, .unset]) (st' := [(.int jk), (.int (0 : Int32)), (.ref wa), (.ref wa)]) rfl ?_
      refine own_iast X15 A15 n_wa d0_314 (by decide) (by decide)  (fun h19 T19 X19 A19 W19 => ?_)
      have A19 : own_I Z h19 wa .int 4 (own_u (fun _ => (0 : Int32)) (0) jk) := A19
      generalize eg19 : own_u (fun _ => (0 : Int32)) (0) jk = g19 at A19
      have A19_ca := own_I_other A16 W19 (by first | exact ne_ca_wa | exact fun q => ne_wa_ca q.symm)
      have A19_oa := own_I_other A17 W19 (by first | exact ne_oa_wa | exact fun q => ne_wa_oa q.symm)
      have A19_sa := own_I_other A18 W19 (by first | exact ne_sa_wa | exact fun q => ne_wa_sa q.symm)
      refine own_blk X19 B0_315_321 B0_315_321d (ls' := #[.val (.long c01), .second, .val (.long c23), .second, .val (.int at0), .val (.int sel), .val (.int jk), .val (.int k0), .val (.int k1), .val (.int k2), .val (.int k3), .val (.ref ca), .val (.int (0 : Int32)), .val (.int a), .val (.int b), .val (.int mi), .val (.int ot), .val (.int c1), .val (.int d1), .val (.ref oa), .val (.ref sa), .unset, .unset, .unset, .unset]) (st' := [(.int (jk + (1 : Int32))), (.int (1 : Int32)), (.ref wa), (.ref wa)]) rfl ?_
      refine own_iast X19 A19 n_wa d0_321 (by decide) (by decide)  (fun h20 T20 X20 A20 W20 => ?_)
      have A20 : own_I Z h20 wa .int 4 (own_u g19 (1) (jk + (1 : Int32))) := A20
      generalize eg20 : own_u g19 (1) (jk + (1 : Int32)) = g20 at A20
      have A20_ca := own_I_other A19_ca W20 (by first | exact ne_ca_wa | exact fun q => ne_wa_ca q.symm)
      have A20_oa := own_I_other A19_oa W20 (by first | exact ne_oa_wa | exact fun q => ne_wa_oa q.symm)
      have A20_sa := own_I_other A19_sa W20 (by first | exact ne_sa_wa | exact fun q => ne_wa_sa q.symm)
      refine own_blk X20 B0_322_328 B0_322_328d (ls' := #[.val (.long c01), .second, .val (.long c23), .second, .val (.int at0), .val (.int sel), .val (.int jk), .val (.int k0), .val (.int k1), .val (.int k2), .val (.int k3), .val (.ref ca), .val (.int (0 : Int32)), .val (.int a), .val (.int b), .val (.int mi), .val (.int ot), .val (.int c1), .val (.int d1), .val (.ref oa), .val (.ref sa), .unset, .unset, .unset, .unset]) (st' := [(.int (jk + (2 : Int32))), (.int (2 : Int32)), (.ref wa), (.ref wa)]) rfl ?_
      refine own_iast X20 A20 n_wa d0_328 (by decide) (by decide)  (fun h21 T21 X21 A21 W21 => ?_)
      have A21 : own_I Z h21 wa .int 4 (own_u g20 (2) (jk + (2 : Int32))) := A21
      generalize eg21 : own_u g20 (2) (jk + (2 : Int32)) = g21 at A21
      have A21_ca := own_I_other A20_ca W21 (by first | exact ne_ca_wa | exact fun q => ne_wa_ca q.symm)
      have A21_oa := own_I_other A20_oa W21 (by first | exact ne_oa_wa | exact fun q => ne_wa_oa q.symm)
      have A21_sa := own_I_other A20_sa W21 (by first | exact ne_sa_wa | exact fun q => ne_wa_sa q.symm)
      refine own_blk X21 B0_329_335 B0_329_335d (ls' := #[.val (.long c01), .second, .val (.long c23), .second, .val (.int at0), .val (.int sel), .val (.int jk), .val (.int k0), .val (.int k1), .val (.int k2), .val (.int k3), .val (.ref ca), .val (.int (0 : Int32)), .val (.int a), .val (.int b), .val (.int mi), .val (.int ot), .val (.int c1), .val (.int d1), .val (.ref oa), .val (.ref sa), .unset, .unset, .unset, .unset]) (st' := [(.int (jk + (3 : Int32))), (.int (3 : Int32)), (.ref wa), (.ref wa)]) rfl ?_
      refine own_iast X21 A21 n_wa d0_335 (by decide) (by decide)  (fun h22 T22 X22 A22 W22 => ?_)
      have A22 : own_I Z h22 wa .int 4 (own_u g21 (3) (jk + (3 : Int32))) := A22
      generalize eg22 : own_u g21 (3) (jk + (3 : Int32)) = g22 at A22
      have A22_ca := own_I_other A21_ca W22 (by first | exact ne_ca_wa | exact fun q => ne_wa_ca q.symm)
      have A22_oa := own_I_other A21_oa W22 (by first | exact ne_oa_wa | exact fun q => ne_wa_oa q.symm)
      have A22_sa := own_I_other A21_sa W22 (by first | exact ne_sa_wa | exact fun q => ne_wa_sa q.symm)
      refine own_blk X22 B0_336_339 B0_336_339d (ls' := #[.val (.long c01), .second, .val (.long c23), .second, .val (.int at0), .val (.int sel), .val (.int jk), .val (.int k0), .val (.int k1), .val (.int k2), .val (.int k3), .val (.ref ca), .val (.int (0 : Int32)), .val (.int a), .val (.int b), .val (.int mi), .val (.int ot), .val (.int c1), .val (.int d1), .val (.ref oa), .val (.ref sa), .val (.ref wa), .unset, .unset, .unset]) (st' := [(.int (4 : Int32))]) rfl ?_
      have lt_ca := own_A_lt A22_ca
      have lt_oa := own_A_lt A22_oa
      have lt_sa := own_A_lt A22_sa
      have lt_wa := own_A_lt A22
      refine own_newI X22 (hw _ (List.mem_of_getElem? (i := 0) rfl)) rfl d0_339 (by decide) 4 (by decide) (by decide) (by decide) (by decide) (fun h23 T23 X23 E23 A23 => ?_)
      have n_ka : n0 ≤ h22.size := X22.2.1
      have A23 : own_I Z h23 h22.size .int 4 (fun _ => (0 : Int32)) := A23
      generalize ez_ka : h22.size = ka at A23 n_ka lt_ca lt_oa lt_sa lt_wa ⊢
      have A24 := own_I_ext A22_ca E23
      have A25 := own_I_ext A22_oa E23
      have A26 := own_I_ext A22_sa E23
      have A27 := own_I_ext A22 E23
      have ne_ca_ka : ca ≠ ka := Nat.ne_of_lt lt_ca
      have ne_oa_ka : oa ≠ ka := Nat.ne_of_lt lt_oa
      have ne_sa_ka : sa ≠ ka := Nat.ne_of_lt lt_sa
      have ne_wa_ka : wa ≠ ka := Nat.ne_of_lt lt_wa
      show own_G p e below (T23.setTop (mkF m 341 #[.val (.long c01), .second, .val (.long c23), .second, .val (.int at0), .val (.int sel), .val (.int jk), .val (.int k0), .val (.int k1), .val (.int k2), .val (.int k3), .val (.ref ca), .val (.int (0 : Int32)), .val (.int a), .val (.int b), .val (.int mi), .val (.int ot), .val (.int c1), .val (.int d1), .val (.ref oa), .val (.ref sa), .val (.ref wa), .unset, .unset, .unset] [(.ref ka)])) _
      refine own_blk X23 B0_341_345 B0_341_345d (ls' := #[.val (.long c01), .second, .val (.long c23), .second, .val (.int at0), .val (.int sel), .val (.int jk), .val (.int k0), .val (.int k1), .val (.int k2), .val (.int k3), .val (.ref ca), .val (.int (0 : Int32)), .val (.int a), .val (.int b), .val (.int mi), .val (.int ot), .val (.int c1), .val (.int d1), .val (.ref oa), .val (.ref sa), .val (.ref wa), .unset, .unset, .unset]) (st' := [(.int k0), (.int (0 : Int32)), (.ref ka), (.ref ka)]) rfl ?_
      refine own_iast X23 A23 n_ka d0_345 (by decide) (by decide)  (fun h28 T28 X28 A28 W28 => ?_)
      have A28 : own_I Z h28 ka .int 4 (own_u (fun _ => (0 : Int32)) (0) k0) := A28
      generalize eg28 : own_u (fun _ => (0 : Int32)) (0) k0 = g28 at A28
      have A28_ca := own_I_other A24 W28 (by first | exact ne_ca_ka | exact fun q => ne_ka_ca q.symm)
      have A28_oa := own_I_other A25 W28 (by first | exact ne_oa_ka | exact fun q => ne_ka_oa q.symm)
      have A28_sa := own_I_other A26 W28 (by first | exact ne_sa_ka | exact fun q => ne_ka_sa q.symm)
      have A28_wa := own_I_other A27 W28 (by first | exact ne_wa_ka | exact fun q => ne_ka_wa q.symm)
      refine own_blk X28 B0_346_350 B0_346_350d (ls' := #[.val (.long c01), .second, .val (.long c23), .second, .val (.int at0), .val (.int sel), .val (.int jk), .val (.int k0), .val (.int k1), .val (.int k2), .val (.int k3), .val (.ref ca), .val (.int (0 : Int32)), .val (.int a), .val (.int b), .val (.int mi), .val (.int ot), .val (.int c1), .val (.int d1), .val (.ref oa), .val (.ref sa), .val (.ref wa), .unset, .unset, .unset]) (st' := [(.int k1), (.int (1 : Int32)), (.ref ka), (.ref ka)]) rfl ?_
      refine own_iast X28 A28 n_ka d0_350 (by decide) (by decide)  (fun h29 T29 X29 A29 W29 => ?_)
      have A29 : own_I Z h29 ka .int 4 (own_u g28 (1) k1) := A29
      generalize eg29 : own_u g28 (1) k1 = g29 at A29
      have A29_ca := own_I_other A28_ca W29 (by first | exact ne_ca_ka | exact fun q => ne_ka_ca q.symm)
      have A29_oa := own_I_other A28_oa W29 (by first | exact ne_oa_ka | exact fun q => ne_ka_oa q.symm)
      have A29_sa := own_I_other A28_sa W29 (by first | exact ne_sa_ka | exact fun q => ne_ka_sa q.symm)
      have A29_wa := own_I_other A28_wa W29 (by first | exact ne_wa_ka | exact fun q => ne_ka_wa q.symm)
      refine own_blk X29 B0_351_355 B0_351_355d (ls' := #[.val (.long c01), .second, .val (.long c23), .second, .val (.int at0), .val (.int sel), .val (.int jk), .val (.int k0), .val (.int k1), .val (.int k2), .val (.int k3), .val (.ref ca), .val (.int (0 : Int32)), .val (.int a), .val (.int b), .val (.int mi), .val (.int ot), .val (.int c1), .val (.int d1), .val (.ref oa), .val (.ref sa), .val (.ref wa), .unset, .unset, .unset]) (st' := [(.int k2), (.int (2 : Int32)), (.ref ka), (.ref ka)]) rfl ?_
      refine own_iast X29 A29 n_ka d0_355 (by decide) (by decide)  (fun h30 T30 X30 A30 W30 => ?_)
      have A30 : own_I Z h30 ka .int 4 (own_u g29 (2) k2) := A30
      generalize eg30 : own_u g29 (2) k2 = g30 at A30
      have A30_ca := own_I_other A29_ca W30 (by first | exact ne_ca_ka | exact fun q => ne_ka_ca q.symm)
      have A30_oa := own_I_other A29_oa W30 (by first | exact ne_oa_ka | exact fun q => ne_ka_oa q.symm)
      have A30_sa := own_I_other A29_sa W30 (by first | exact ne_sa_ka | exact fun q => ne_ka_sa q.symm)
      have A30_wa := own_I_other A29_wa W30 (by first | exact ne_wa_ka | exact fun q => ne_ka_wa q.symm)
      refine own_blk X30 B0_356_360 B0_356_360d (ls' := #[.val (.long c01), .second, .val (.long c23), .second, .val (.int at0), .val (.int sel), .val (.int jk), .val (.int k0), .val (.int k1), .val (.int k2), .val (.int k3), .val (.ref ca), .val (.int (0 : Int32)), .val (.int a), .val (.int b), .val (.int mi), .val (.int ot), .val (.int c1), .val (.int d1), .val (.ref oa), .val (.ref sa), .val (.ref wa), .unset, .unset, .unset]) (st' := [(.int k3), (.int (3 : Int32)), (.ref ka), (.ref ka)]) rfl ?_
      refine own_iast X30 A30 n_ka d0_360 (by decide) (by decide)  (fun h31 T31 X31 A31 W31 => ?_)
      have A31 : own_I Z h31 ka .int 4 (own_u g30 (3) k3) := A31
      generalize eg31 : own_u g30 (3) k3 = g31 at A31
      have A31_ca := own_I_other A30_ca W31 (by first | exact ne_ca_ka | exact fun q => ne_ka_ca q.symm)
      have A31_oa := own_I_other A30_oa W31 (by first | exact ne_oa_ka | exact fun q => ne_ka_oa q.symm)
      have A31_sa := own_I_other A30_sa W31 (by first | exact ne_sa_ka | exact fun q => ne_ka_sa q.symm)
      have A31_wa := own_I_other A30_wa W31 (by first | exact ne_wa_ka | exact fun q => ne_ka_wa q.symm)
      refine own_blk X31 B0_361_366 B0_361_366d (ls' := #[.val (.long c01), .second, .val (.long c23), .second, .val (.int at0), .val (.int sel), .val (.int jk), .val (.int k0), .val (.int k1), .val (.int k2), .val (.int k3), .val (.ref ca), .val (.int (0 : Int32)), .val (.int a), .val (.int b), .val (.int mi), .val (.int ot), .val (.int c1), .val (.int d1), .val (.ref oa), .val (.ref sa), .val (.ref wa), .val (.ref ka), .unset, .unset]) (st' := [(.int (1 : Int32)), (.int (0 : Int32))]) rfl ?_
      refine own_icmp X31 d0_366 (pc' := 376) (by decide) (fun c366 => ?_) (fun (c366 : ¬ ((0 : Int) < 1)) => by exfalso; omega)
      have c366 : (0 : Int) < 1 := c366
      refine own_blk X31 B0_376_379 B0_376_379d (ls' := #[.val (.long c01), .second, .val (.long c23), .second, .val (.int at0), .val (.int sel), .val (.int jk), .val (.int k0), .val (.int k1), .val (.int k2), .val (.int k3), .val (.ref ca), .val (.int (0 : Int32)), .val (.int a), .val (.int b), .val (.int mi), .val (.int ot), .val (.int c1), .val (.int d1), .val (.ref oa), .val (.ref sa), .val (.ref wa), .val (.ref ka), .unset, .unset]) (st' := [(.int (2 : Int32)), (.int (0 : Int32))]) rfl ?_
      refine own_icmp X31 d0_379 (pc' := 395) (by decide) (fun c379 => ?_) (fun (c379 : ¬ ((0 : Int) < 2)) => by exfalso; omega)
      have c379 : (0 : Int) < 2 := c379
      refine own_blk X31 B0_395_398 B0_395_398d (ls' := #[.val (.long c01), .second, .val (.long c23), .second, .val (.int at0), .val (.int sel), .val (.int jk), .val (.int k0), .val (.int k1), .val (.int k2), .val (.int k3), .val (.ref ca), .val (.int (0 : Int32)), .val (.int a), .val (.int b), .val (.int mi), .val (.int ot), .val (.int c1), .val (.int d1), .val (.ref oa), .val (.ref sa), .val (.ref wa), .val (.ref ka), .unset, .unset]) (st' := [(.int (3 : Int32)), (.int (0 : Int32))]) rfl ?_
      refine own_icmp X31 d0_398 (pc' := 420) (by decide) (fun c398 => ?_) (fun (c398 : ¬ ((0 : Int) < 3)) => by exfalso; omega)
      have c398 : (0 : Int) < 3 := c398
      refine own_blk X31 B0_420_423 B0_420_423d (ls' := #[.val (.long c01), .second, .val (.long c23), .second, .val (.int at0), .val (.int sel), .val (.int jk), .val (.int k0), .val (.int k1), .val (.int k2), .val (.int k3), .val (.ref ca), .val (.int (0 : Int32)), .val (.int a), .val (.int b), .val (.int mi), .val (.int ot), .val (.int c1), .val (.int d1), .val (.ref oa), .val (.ref sa), .val (.ref wa), .val (.ref ka), .unset, .unset]) (st' := [(.int (4 : Int32)), (.int (0 : Int32))]) rfl ?_
      refine own_icmp X31 d0_423 (pc' := 451) (by decide) (fun c423 => ?_) (fun (c423 : ¬ ((0 : Int) < 4)) => by exfalso; omega)
      have c423 : (0 : Int) < 4 := c423
      refine own_blk X31 B0_451_459 B0_451_459d (ls' := #[.val (.long c01), .second, .val (.long c23), .second, .val (.int at0), .val (.int sel), .val (.int jk), .val (.int k0), .val (.int k1), .val (.int k2), .val (.int k3), .val (.ref ca), .val (.int (0 : Int32)), .val (.int a), .val (.int b), .val (.int mi), .val (.int ot), .val (.int c1), .val (.int d1), .val (.ref oa), .val (.ref sa), .val (.ref wa), .val (.ref ka), .unset, .unset]) (st' := [(.ref sa), (.int at0), (.ref oa), (.ref ca)]) rfl ?_
      have hSW : g14 = g22 := by
        subst eg31 eg30 eg29 eg28 eg22 eg21 eg20 eg19 eg14 eg13 eg12 eg11 eg5 eg4 eg3 eg2
        rfl
      refine own_callS X31 (hw _ (List.mem_of_getElem? (i := 1) rfl)) (hw _ (List.mem_of_getElem? (i := 2) rfl)) (hw _ (List.mem_of_getElem? (i := 3) rfl)) (hw _ (List.mem_of_getElem? (i := 4) rfl)) (by decide) (c_sb0 l Z a0 hw ca oa at0 sa g5 (fun _ => (0 : Int32)) g14 h31 n0 X31.2.1 A31_ca A31_oa A31_sa n_sa ne_ca_sa ne_oa_sa) d0_459 [(.ref ca), (.ref oa), (.int at0), (.ref sa)] [] rfl rfl pd1 rfl rfl (by decide) (Nat.le_of_ble_eq_true rfl) (by decide) (by decide) (fun _ _ q => Nat.le_trans X31.2.1 q.2.1.1) (fun v32 h32 T32 X32 q32 => ?_)
      obtain ⟨rfl, K32, As32⟩ := q32
      show own_G p e below (T32.setTop (mkF m 462 #[.val (.long c01), .second, .val (.long c23), .second, .val (.int at0), .val (.int sel), .val (.int jk), .val (.int k0), .val (.int k1), .val (.int k2), .val (.int k3), .val (.ref ca), .val (.int (0 : Int32)), .val (.int a), .val (.int b), .val (.int mi), .val (.int ot), .val (.int c1), .val (.int d1), .val (.ref oa), .val (.ref sa), .val (.ref wa), .val (.ref ka), .unset, .unset] [])) _
      rw [hSW] at As32
      have B32_ca := own_I_keep A31_ca K32 (by simp; exact ne_ca_sa)
      have B32_oa := own_I_keep A31_oa K32 (by simp; exact ne_oa_sa)
      have B32_wa := own_I_keep A31_wa K32 (by simp; exact fun q => ne_sa_wa q.symm)
      refine own_blk X32 B0_462_465 B0_462_465d (ls' := #[.val (.long c01), .second, .val (.long c23), .second, .val (.int at0), .val (.int sel), .val (.int jk), .val (.int k0), .val (.int k1), .val (.int k2), .val (.int k3), .val (.ref ca), .val (.int (0 : Int32)), .val (.int a), .val (.int b), .val (.int mi), .val (.int ot), .val (.int c1), .val (.int d1), .val (.ref oa), .val (.ref sa), .val (.ref wa), .val (.ref ka), .unset, .unset]) (st' := [(.int (0 : Int32)), (.ref sa)]) rfl ?_
      refine own_iald X32 As32 d0_465 (by decide) (by decide) ?_
      show own_G p e below (T32.setTop (mkF m 466 #[.val (.long c01), .second, .val (.long c23), .second, .val (.int at0), .val (.int sel), .val (.int jk), .val (.int k0), .val (.int k1), .val (.int k2), .val (.int k3), .val (.ref ca), .val (.int (0 : Int32)), .val (.int a), .val (.int b), .val (.int mi), .val (.int ot), .val (.int c1), .val (.int d1), .val (.ref oa), .val (.ref sa), .val (.ref wa), .val (.ref ka), .unset, .unset] [(.int (g22 0))])) _
      refine own_blk X32 B0_466_469 B0_466_469d (ls' := #[.val (.long c01), .second, .val (.long c23), .second, .val (.int at0), .val (.int sel), .val (.int jk), .val (.int k0), .val (.int k1), .val (.int k2), .val (.int k3), .val (.ref ca), .val (.int (0 : Int32)), .val (.int a), .val (.int b), .val (.int mi), .val (.int ot), .val (.int c1), .val (.int d1), .val (.ref oa), .val (.ref sa), .val (.ref wa), .val (.ref ka), .unset, .unset]) (st' := [(.int (0 : Int32)), (.ref wa), (.int (g22 0))]) rfl ?_
      refine own_iald X32 B32_wa d0_469 (by decide) (by decide) ?_
      show own_G p e below (T32.setTop (mkF m 470 #[.val (.long c01), .second, .val (.long c23), .second, .val (.int at0), .val (.int sel), .val (.int jk), .val (.int k0), .val (.int k1), .val (.int k2), .val (.int k3), .val (.ref ca), .val (.int (0 : Int32)), .val (.int a), .val (.int b), .val (.int mi), .val (.int ot), .val (.int c1), .val (.int d1), .val (.ref oa), .val (.ref sa), .val (.ref wa), .val (.ref ka), .unset, .unset] [(.int (g22 0)), (.int (g22 0))])) _
      refine own_icmp X32 d0_470 (pc' := 510) (by decide) (fun (c470 : ¬ (g22 0).toInt = (g22 0).toInt) => by exfalso; exact c470 rfl) (fun c470 => ?_)
      have c470 : ¬ (¬ (g22 0).toInt = (g22 0).toInt) := c470
      refine own_blk X32 B0_473_476 B0_473_476d (ls' := #[.val (.long c01), .second, .val (.long c23), .second, .val (.int at0), .val (.int sel), .val (.int jk), .val (.int k0), .val (.int k1), .val (.int k2), .val (.int k3), .val (.ref ca), .val (.int (0 : Int32)), .val (.int a), .val (.int b), .val (.int mi), .val (.int ot), .val (.int c1), .val (.int d1), .val (.ref oa), .val (.ref sa), .val (.ref wa), .val (.ref ka), .unset, .unset]) (st' := [(.int (1 : Int32)), (.ref sa)]) rfl ?_
      refine own_iald X32 As32 d0_476 (by decide) (by decide) ?_
      show own_G p e below (T32.setTop (mkF m 477 #[.val (.long c01), .second, .val (.long c23), .second, .val (.int at0), .val (.int sel), .val (.int jk), .val (.int k0), .val (.int k1), .val (.int k2), .val (.int k3), .val (.ref ca), .val (.int (0 : Int32)), .val (.int a), .val (.int b), .val (.int mi), .val (.int ot), .val (.int c1), .val (.int d1), .val (.ref oa), .val (.ref sa), .val (.ref wa), .val (.ref ka), .unset, .unset] [(.int (g22 1))])) _
      refine own_blk X32 B0_477_480 B0_477_480d (ls' := #[.val (.long c01), .second, .val (.long c23), .second, .val (.int at0), .val (.int sel), .val (.int jk), .val (.int k0), .val (.int k1), .val (.int k2), .val (.int k3), .val (.ref ca), .val (.int (0 : Int32)), .val (.int a), .val (.int b), .val (.int mi), .val (.int ot), .val (.int c1), .val (.int d1), .val (.ref oa), .val (.ref sa), .val (.ref wa), .val (.ref ka), .unset, .unset]) (st' := [(.int (1 : Int32)), (.ref wa), (.int (g22 1))]) rfl ?_
      refine own_iald X32 B32_wa d0_480 (by decide) (by decide) ?_
      show own_G p e below (T32.setTop (mkF m 481 #[.val (.long c01), .second, .val (.long c23), .second, .val (.int at0), .val (.int sel), .val (.int jk), .val (.int k0), .val (.int k1), .val (.int k2), .val (.int k3), .val (.ref ca), .val (.int (0 : Int32)), .val (.int a), .val (.int b), .val (.int mi), .val (.int ot), .val (.int c1), .val (.int d1), .val (.ref oa), .val (.ref sa), .val (.ref wa), .val (.ref ka), .unset, .unset] [(.int (g22 1)), (.int (g22 1))])) _
      refine own_icmp X32 d0_481 (pc' := 510) (by decide) (fun (c481 : ¬ (g22 1).toInt = (g22 1).toInt) => by exfalso; exact c481 rfl) (fun c481 => ?_)
      have c481 : ¬ (¬ (g22 1).toInt = (g22 1).toInt) := c481
      refine own_blk X32 B0_484_487 B0_484_487d (ls' := #[.val (.long c01), .second, .val (.long c23), .second, .val (.int at0), .val (.int sel), .val (.int jk), .val (.int k0), .val (.int k1), .val (.int k2), .val (.int k3), .val (.ref ca), .val (.int (0 : Int32)), .val (.int a), .val (.int b), .val (.int mi), .val (.int ot), .val (.int c1), .val (.int d1), .val (.ref oa), .val (.ref sa), .val (.ref wa), .val (.ref ka), .unset, .unset]) (st' := [(.int (2 : Int32)), (.ref sa)]) rfl ?_
      refine own_iald X32 As32 d0_487 (by decide) (by decide) ?_
      show own_G p e below (T32.setTop (mkF m 488 #[.val (.long c01), .second, .val (.long c23), .second, .val (.int at0), .val (.int sel), .val (.int jk), .val (.int k0), .val (.int k1), .val (.int k2), .val (.int k3), .val (.ref ca), .val (.int (0 : Int32)), .val (.int a), .val (.int b), .val (.int mi), .val (.int ot), .val (.int c1), .val (.int d1), .val (.ref oa), .val (.ref sa), .val (.ref wa), .val (.ref ka), .unset, .unset] [(.int (g22 2))])) _
      refine own_blk X32 B0_488_491 B0_488_491d (ls' := #[.val (.long c01), .second, .val (.long c23), .second, .val (.int at0), .val (.int sel), .val (.int jk), .val (.int k0), .val (.int k1), .val (.int k2), .val (.int k3), .val (.ref ca), .val (.int (0 : Int32)), .val (.int a), .val (.int b), .val (.int mi), .val (.int ot), .val (.int c1), .val (.int d1), .val (.ref oa), .val (.ref sa), .val (.ref wa), .val (.ref ka), .unset, .unset]) (st' := [(.int (2 : Int32)), (.ref wa), (.int (g22 2))]) rfl ?_
      refine own_iald X32 B32_wa d0_491 (by decide) (by decide) ?_
      show own_G p e below (T32.setTop (mkF m 492 #[.val (.long c01), .second, .val (.long c23), .second, .val (.int at0), .val (.int sel), .val (.int jk), .val (.int k0), .val (.int k1), .val (.int k2), .val (.int k3), .val (.ref ca), .val (.int (0 : Int32)), .val (.int a), .val (.int b), .val (.int mi), .val (.int ot), .val (.int c1), .val (.int d1), .val (.ref oa), .val (.ref sa), .val (.ref wa), .val (.ref ka), .unset, .unset] [(.int (g22 2)), (.int (g22 2))])) _
      refine own_icmp X32 d0_492 (pc' := 510) (by decide) (fun (c492 : ¬ (g22 2).toInt = (g22 2).toInt) => by exfalso; exact c492 rfl) (fun c492 => ?_)
      have c492 : ¬ (¬ (g22 2).toInt = (g22 2).toInt) := c492
      refine own_blk X32 B0_495_498 B0_495_498d (ls' := #[.val (.long c01), .second, .val (.long c23), .second, .val (.int at0), .val (.int sel), .val (.int jk), .val (.int k0), .val (.int k1), .val (.int k2), .val (.int k3), .val (.ref ca), .val (.int (0 : Int32)), .val (.int a), .val (.int b), .val (.int mi), .val (.int ot), .val (.int c1), .val (.int d1), .val (.ref oa), .val (.ref sa), .val (.ref wa), .val (.ref ka), .unset, .unset]) (st' := [(.int (3 : Int32)), (.ref sa)]) rfl ?_
      refine own_iald X32 As32 d0_498 (by decide) (by decide) ?_
      show own_G p e below (T32.setTop (mkF m 499 #[.val (.long c01), .second, .val (.long c23), .second, .val (.int at0), .val (.int sel), .val (.int jk), .val (.int k0), .val (.int k1), .val (.int k2), .val (.int k3), .val (.ref ca), .val (.int (0 : Int32)), .val (.int a), .val (.int b), .val (.int mi), .val (.int ot), .val (.int c1), .val (.int d1), .val (.ref oa), .val (.ref sa), .val (.ref wa), .val (.ref ka), .unset, .unset] [(.int (g22 3))])) _
      refine own_blk X32 B0_499_502 B0_499_502d (ls' := #[.val (.long c01), .second, .val (.long c23), .second, .val (.int at0), .val (.int sel), .val (.int jk), .val (.int k0), .val (.int k1), .val (.int k2), .val (.int k3), .val (.ref ca), .val (.int (0 : Int32)), .val (.int a), .val (.int b), .val (.int mi), .val (.int ot), .val (.int c1), .val (.int d1), .val (.ref oa), .val (.ref sa), .val (.ref wa), .val (.ref ka), .unset, .unset]) (st' := [(.int (3 : Int32)), (.ref wa), (.int (g22 3))]) rfl ?_
      refine own_iald X32 B32_wa d0_502 (by decide) (by decide) ?_
      show own_G p e below (T32.setTop (mkF m 503 #[.val (.long c01), .second, .val (.long c23), .second, .val (.int at0), .val (.int sel), .val (.int jk), .val (.int k0), .val (.int k1), .val (.int k2), .val (.int k3), .val (.ref ca), .val (.int (0 : Int32)), .val (.int a), .val (.int b), .val (.int mi), .val (.int ot), .val (.int c1), .val (.int d1), .val (.ref oa), .val (.ref sa), .val (.ref wa), .val (.ref ka), .unset, .unset] [(.int (g22 3)), (.int (g22 3))])) _
      refine own_icmp X32 d0_503 (pc' := 510) (by decide) (fun (c503 : ¬ (g22 3).toInt = (g22 3).toInt) => by exfalso; exact c503 rfl) (fun c503 => ?_)
      have c503 : ¬ (¬ (g22 3).toInt = (g22 3).toInt) := c503
      refine own_blk X32 B0_506_507 B0_506_507d (ls' := #[.val (.long c01), .second, .val (.long c23), .second, .val (.int at0), .val (.int sel), .val (.int jk), .val (.int k0), .val (.int k1), .val (.int k2), .val (.int k3), .val (.ref ca), .val (.int (0 : Int32)), .val (.int a), .val (.int b), .val (.int mi), .val (.int ot), .val (.int c1), .val (.int d1), .val (.ref oa), .val (.ref sa), .val (.ref wa), .val (.ref ka), .unset, .unset]) (st' := [(.int (1 : Int32))]) rfl ?_
      refine own_goto X32 d0_507 (pc' := 511) (by decide) ?_
      refine own_blk X32 B0_511_516 B0_511_516d (ls' := #[.val (.long c01), .second, .val (.long c23), .second, .val (.int at0), .val (.int sel), .val (.int jk), .val (.int k0), .val (.int k1), .val (.int k2), .val (.int k3), .val (.ref ca), .val (.int (0 : Int32)), .val (.int a), .val (.int b), .val (.int mi), .val (.int ot), .val (.int c1), .val (.int d1), .val (.ref oa), .val (.ref sa), .val (.ref wa), .val (.ref ka), .val (.int (1 : Int32)), .unset]) (st' := [(.int (0 : Int32)), (.ref ca)]) rfl ?_
      refine own_iald X32 B32_ca d0_516 (by decide) (by decide) ?_
      show own_G p e below (T32.setTop (mkF m 517 #[.val (.long c01), .second, .val (.long c23), .second, .val (.int at0), .val (.int sel), .val (.int jk), .val (.int k0), .val (.int k1), .val (.int k2), .val (.int k3), .val (.ref ca), .val (.int (0 : Int32)), .val (.int a), .val (.int b), .val (.int mi), .val (.int ot), .val (.int c1), .val (.int d1), .val (.ref oa), .val (.ref sa), .val (.ref wa), .val (.ref ka), .val (.int (1 : Int32)), .unset] [(.int (g5 0))])) _
      refine own_blk X32 B0_517_519 B0_517_519d (ls' := #[.val (.long c01), .second, .val (.long c23), .second, .val (.int at0), .val (.int sel), .val (.int jk), .val (.int k0), .val (.int k1), .val (.int k2), .val (.int k3), .val (.ref ca), .val (.int (0 : Int32)), .val (.int a), .val (.int b), .val (.int mi), .val (.int ot), .val (.int c1), .val (.int d1), .val (.ref oa), .val (.ref sa), .val (.ref wa), .val (.ref ka), .val (.int (1 : Int32)), .unset]) (st' := [(.int k0), (.int (g5 0))]) rfl ?_
      refine own_icmp X32 d0_519 (pc' := 553) (by decide) (fun (c519 : ¬ (g5 0).toInt = k0.toInt) => by exfalso; exact c519 (by rw [← eg5, own_u_ne (by decide), ← eg4, own_u_ne (by decide), ← eg3, own_u_ne (by decide), ← eg2, own_u_eq rfl])) (fun c519 => ?_)
      have c519 : ¬ (¬ (g5 0).toInt = k0.toInt) := c519
      refine own_blk X32 B0_522_525 B0_522_525d (ls' := #[.val (.long c01), .second, .val (.long c23), .second, .val (.int at0), .val (.int sel), .val (.int jk), .val (.int k0), .val (.int k1), .val (.int k2), .val (.int k3), .val (.ref ca), .val (.int (0 : Int32)), .val (.int a), .val (.int b), .val (.int mi), .val (.int ot), .val (.int c1), .val (.int d1), .val (.ref oa), .val (.ref sa), .val (.ref wa), .val (.ref ka), .val (.int (1 : Int32)), .unset]) (st' := [(.int (1 : Int32)), (.ref ca)]) rfl ?_
      refine own_iald X32 B32_ca d0_525 (by decide) (by decide) ?_
      show own_G p e below (T32.setTop (mkF m 526 #[.val (.long c01), .second, .val (.long c23), .second, .val (.int at0), .val (.int sel), .val (.int jk), .val (.int k0), .val (.int k1), .val (.int k2), .val (.int k3), .val (.ref ca), .val (.int (0 : Int32)), .val (.int a), .val (.int b), .val (.int mi), .val (.int ot), .val (.int c1), .val (.int d1), .val (.ref oa), .val (.ref sa), .val (.ref wa), .val (.ref ka), .val (.int (1 : Int32)), .unset] [(.int (g5 1))])) _
      refine own_blk X32 B0_526_528 B0_526_528d (ls' := #[.val (.long c01), .second, .val (.long c23), .second, .val (.int at0), .val (.int sel), .val (.int jk), .val (.int k0), .val (.int k1), .val (.int k2), .val (.int k3), .val (.ref ca), .val (.int (0 : Int32)), .val (.int a), .val (.int b), .val (.int mi), .val (.int ot), .val (.int c1), .val (.int d1), .val (.ref oa), .val (.ref sa), .val (.ref wa), .val (.ref ka), .val (.int (1 : Int32)), .unset]) (st' := [(.int k1), (.int (g5 1))]) rfl ?_
      refine own_icmp X32 d0_528 (pc' := 553) (by decide) (fun (c528 : ¬ (g5 1).toInt = k1.toInt) => by exfalso; exact c528 (by rw [← eg5, own_u_ne (by decide), ← eg4, own_u_ne (by decide), ← eg3, own_u_eq rfl])) (fun c528 => ?_)
      have c528 : ¬ (¬ (g5 1).toInt = k1.toInt) := c528
      refine own_blk X32 B0_531_534 B0_531_534d (ls' := #[.val (.long c01), .second, .val (.long c23), .second, .val (.int at0), .val (.int sel), .val (.int jk), .val (.int k0), .val (.int k1), .val (.int k2), .val (.int k3), .val (.ref ca), .val (.int (0 : Int32)), .val (.int a), .val (.int b), .val (.int mi), .val (.int ot), .val (.int c1), .val (.int d1), .val (.ref oa), .val (.ref sa), .val (.ref wa), .val (.ref ka), .val (.int (1 : Int32)), .unset]) (st' := [(.int (2 : Int32)), (.ref ca)]) rfl ?_
      refine own_iald X32 B32_ca d0_534 (by decide) (by decide) ?_
      show own_G p e below (T32.setTop (mkF m 535 #[.val (.long c01), .second, .val (.long c23), .second, .val (.int at0), .val (.int sel), .val (.int jk), .val (.int k0), .val (.int k1), .val (.int k2), .val (.int k3), .val (.ref ca), .val (.int (0 : Int32)), .val (.int a), .val (.int b), .val (.int mi), .val (.int ot), .val (.int c1), .val (.int d1), .val (.ref oa), .val (.ref sa), .val (.ref wa), .val (.ref ka), .val (.int (1 : Int32)), .unset] [(.int (g5 2))])) _
      refine own_blk X32 B0_535_537 B0_535_537d (ls' := #[.val (.long c01), .second, .val (.long c23), .second, .val (.int at0), .val (.int sel), .val (.int jk), .val (.int k0), .val (.int k1), .val (.int k2), .val (.int k3), .val (.ref ca), .val (.int (0 : Int32)), .val (.int a), .val (.int b), .val (.int mi), .val (.int ot), .val (.int c1), .val (.int d1), .val (.ref oa), .val (.ref sa), .val (.ref wa), .val (.ref ka), .val (.int (1 : Int32)), .unset]) (st' := [(.int k2), (.int (g5 2))]) rfl ?_
      refine own_icmp X32 d0_537 (pc' := 553) (by decide) (fun (c537 : ¬ (g5 2).toInt = k2.toInt) => by exfalso; exact c537 (by rw [← eg5, own_u_ne (by decide), ← eg4, own_u_eq rfl])) (fun c537 => ?_)
      have c537 : ¬ (¬ (g5 2).toInt = k2.toInt) := c537
      refine own_blk X32 B0_540_543 B0_540_543d (ls' := #[.val (.long c01), .second, .val (.long c23), .second, .val (.int at0), .val (.int sel), .val (.int jk), .val (.int k0), .val (.int k1), .val (.int k2), .val (.int k3), .val (.ref ca), .val (.int (0 : Int32)), .val (.int a), .val (.int b), .val (.int mi), .val (.int ot), .val (.int c1), .val (.int d1), .val (.ref oa), .val (.ref sa), .val (.ref wa), .val (.ref ka), .val (.int (1 : Int32)), .unset]) (st' := [(.int (3 : Int32)), (.ref ca)]) rfl ?_
      refine own_iald X32 B32_ca d0_543 (by decide) (by decide) ?_
      show own_G p e below (T32.setTop (mkF m 544 #[.val (.long c01), .second, .val (.long c23), .second, .val (.int at0), .val (.int sel), .val (.int jk), .val (.int k0), .val (.int k1), .val (.int k2), .val (.int k3), .val (.ref ca), .val (.int (0 : Int32)), .val (.int a), .val (.int b), .val (.int mi), .val (.int ot), .val (.int c1), .val (.int d1), .val (.ref oa), .val (.ref sa), .val (.ref wa), .val (.ref ka), .val (.int (1 : Int32)), .unset] [(.int (g5 3))])) _
      refine own_blk X32 B0_544_546 B0_544_546d (ls' := #[.val (.long c01), .second, .val (.long c23), .second, .val (.int at0), .val (.int sel), .val (.int jk), .val (.int k0), .val (.int k1), .val (.int k2), .val (.int k3), .val (.ref ca), .val (.int (0 : Int32)), .val (.int a), .val (.int b), .val (.int mi), .val (.int ot), .val (.int c1), .val (.int d1), .val (.ref oa), .val (.ref sa), .val (.ref wa), .val (.ref ka), .val (.int (1 : Int32)), .unset]) (st' := [(.int k3), (.int (g5 3))]) rfl ?_
      refine own_icmp X32 d0_546 (pc' := 553) (by decide) (fun (c546 : ¬ (g5 3).toInt = k3.toInt) => by exfalso; exact c546 (by rw [← eg5, own_u_eq rfl])) (fun c546 => ?_)
      have c546 : ¬ (¬ (g5 3).toInt = k3.toInt) := c546
      refine own_blk X32 B0_549_550 B0_549_550d (ls' := #[.val (.long c01), .second, .val (.long c23), .second, .val (.int at0), .val (.int sel), .val (.int jk), .val (.int k0), .val (.int k1), .val (.int k2), .val (.int k3), .val (.ref ca), .val (.int (0 : Int32)), .val (.int a), .val (.int b), .val (.int mi), .val (.int ot), .val (.int c1), .val (.int d1), .val (.ref oa), .val (.ref sa), .val (.ref wa), .val (.ref ka), .val (.int (1 : Int32)), .unset]) (st' := [(.int (1 : Int32))]) rfl ?_
      refine own_goto X32 d0_550 (pc' := 554) (by decide) ?_
      refine own_blk X32 B0_554_558 B0_554_558d (ls' := #[.val (.long c01), .second, .val (.long c23), .second, .val (.int at0), .val (.int sel), .val (.int jk), .val (.int k0), .val (.int k1), .val (.int k2), .val (.int k3), .val (.ref ca), .val (.int (0 : Int32)), .val (.int a), .val (.int b), .val (.int mi), .val (.int ot), .val (.int c1), .val (.int d1), .val (.ref oa), .val (.ref sa), .val (.ref wa), .val (.ref ka), .val (.int (1 : Int32)), .val (.int (1 : Int32))]) (st' := [(.int (1 : Int32))]) rfl ?_
      refine own_if X32 d0_558 (pc' := 578) (by decide) (fun (c558 : (1 : Int) = 0) => by exfalso; omega) (fun c558 => ?_)
      have c558 : ¬ ((1 : Int) = 0) := c558
      refine own_blk X32 B0_561_563 B0_561_563d (ls' := #[.val (.long c01), .second, .val (.long c23), .second, .val (.int at0), .val (.int sel), .val (.int jk), .val (.int k0), .val (.int k1), .val (.int k2), .val (.int k3), .val (.ref ca), .val (.int (0 : Int32)), .val (.int a), .val (.int b), .val (.int mi), .val (.int ot), .val (.int c1), .val (.int d1), .val (.ref oa), .val (.ref sa), .val (.ref wa), .val (.ref ka), .val (.int (1 : Int32)), .val (.int (1 : Int32))]) (st' := [(.int (1 : Int32))]) rfl ?_
      refine own_if X32 d0_563 (pc' := 578) (by decide) (fun (c563 : (1 : Int) = 0) => by exfalso; omega) (fun c563 => ?_)
      have c563 : ¬ ((1 : Int) = 0) := c563
      refine own_blk X32 B0_566_568 B0_566_568d (ls' := #[.val (.long c01), .second, .val (.long c23), .second, .val (.int at0), .val (.int sel), .val (.int jk), .val (.int k0), .val (.int k1), .val (.int k2), .val (.int k3), .val (.ref ca), .val (.int (0 : Int32)), .val (.int a), .val (.int b), .val (.int mi), .val (.int ot), .val (.int c1), .val (.int d1), .val (.ref oa), .val (.ref sa), .val (.ref wa), .val (.ref ka), .val (.int (1 : Int32)), .val (.int (1 : Int32))]) (st' := [(.ref oa)]) rfl ?_
      refine own_len X32 B32_oa d0_568 ?_
      show own_G p e below (T32.setTop (mkF m 569 #[.val (.long c01), .second, .val (.long c23), .second, .val (.int at0), .val (.int sel), .val (.int jk), .val (.int k0), .val (.int k1), .val (.int k2), .val (.int k3), .val (.ref ca), .val (.int (0 : Int32)), .val (.int a), .val (.int b), .val (.int mi), .val (.int ot), .val (.int c1), .val (.int d1), .val (.ref oa), .val (.ref sa), .val (.ref wa), .val (.ref ka), .val (.int (1 : Int32)), .val (.int (1 : Int32))] [(.int (0 : Int32))])) _
      refine own_blk X32 B0_569_571 B0_569_571d (ls' := #[.val (.long c01), .second, .val (.long c23), .second, .val (.int at0), .val (.int sel), .val (.int jk), .val (.int k0), .val (.int k1), .val (.int k2), .val (.int k3), .val (.ref ca), .val (.int (0 : Int32)), .val (.int a), .val (.int b), .val (.int mi), .val (.int ot), .val (.int c1), .val (.int d1), .val (.ref oa), .val (.ref sa), .val (.ref wa), .val (.ref ka), .val (.int (1 : Int32)), .val (.int (1 : Int32))]) (st' := [(.int (0 : Int32)), (.int (0 : Int32))]) rfl ?_
      refine own_icmp X32 d0_571 (pc' := 578) (by decide) (fun (c571 : ¬ (0 : Int) = 0) => by exfalso; omega) (fun c571 => ?_)
      have c571 : ¬ (¬ (0 : Int) = 0) := c571
      refine own_blk X32 B0_574_575 B0_574_575d (ls' := #[.val (.long c01), .second, .val (.long c23), .second, .val (.int at0), .val (.int sel), .val (.int jk), .val (.int k0), .val (.int k1), .val (.int k2), .val (.int k3), .val (.ref ca), .val (.int (0 : Int32)), .val (.int a), .val (.int b), .val (.int mi), .val (.int ot), .val (.int c1), .val (.int d1), .val (.ref oa), .val (.ref sa), .val (.ref wa), .val (.ref ka), .val (.int (1 : Int32)), .val (.int (1 : Int32))]) (st' := [(.int (1 : Int32))]) rfl ?_
      refine own_goto X32 d0_575 (pc' := 579) (by decide) ?_
      exact own_retN X32 (by simp) d0_579 (v' := (1 : Int32)) (rfl) (by decide) (by decide) (rfl)
    · skip
      refine own_blk X5 B0_166_168 B0_166_168d (ls' := #[.val (.long c01), .second, .val (.long c23), .second, .val (.int at0), .val (.int sel), .val (.int jk), .val (.int k0), .val (.int k1), .val (.int k2), .val (.int k3), .val (.ref ca), .val (.int (1 : Int32)), .val (.int a), .val (.int b), .val (.int mi), .val (.int ot), .val (.int c1), .val (.int d1), .unset, .unset, .unset, .unset, .unset, .unset]) (st' := [(.int (1 : Int32))]) rfl ?_
      refine own_if X5 d0_168 (pc' := 179) (by decide) (fun c168 => ?_) (fun (c168 : ¬ (¬ (1 : Int) = 0)) => by exfalso; omega)
      have c168 : ¬ (1 : Int) = 0 := c168
      refine own_blk X5 B0_179_182 B0_179_182d (ls' := #[.val (.long c01), .second, .val (.long c23), .second, .val (.int at0), .val (.int sel), .val (.int jk), .val (.int k0), .val (.int k1), .val (.int k2), .val (.int k3), .val (.ref ca), .val (.int (1 : Int32)), .val (.int a), .val (.int b), .val (.int mi), .val (.int ot), .val (.int c1), .val (.int d1), .unset, .unset, .unset, .unset, .unset, .unset]) (st' := [(.int (1 : Int32)), (.int (1 : Int32))]) rfl ?_
      refine own_icmp X5 d0_182 (pc' := 198) (by decide) (fun (c182 : ¬ (1 : Int) = 1) => by exfalso; omega) (fun c182 => ?_)
      have c182 : ¬ (¬ (1 : Int) = 1) := c182
      refine own_blk X5 B0_185_186 B0_185_186d (ls' := #[.val (.long c01), .second, .val (.long c23), .second, .val (.int at0), .val (.int sel), .val (.int jk), .val (.int k0), .val (.int k1), .val (.int k2), .val (.int k3), .val (.ref ca), .val (.int (1 : Int32)), .val (.int a), .val (.int b), .val (.int mi), .val (.int ot), .val (.int c1), .val (.int d1), .unset, .unset, .unset, .unset, .unset, .unset]) (st' := [(.int (1 : Int32))]) rfl ?_
      have lt_ca := own_A_lt A5
      refine own_newI X5 (hw _ (List.mem_of_getElem? (i := 0) rfl)) rfl d0_186 (by decide) 1 (by decide) (by decide) (by decide) (by decide) (fun h33 T33 X33 E33 A33 => ?_)
      have n_oa : n0 ≤ h5.size := X5.2.1
      have A33 : own_I Z h33 h5.size .int 1 (fun _ => (0 : Int32)) := A33
      generalize ez_oa : h5.size = oa at A33 n_oa lt_ca ⊢
      have A34 := own_I_ext A5 E33
      have ne_ca_oa : ca ≠ oa := Nat.ne_of_lt lt_ca
      show own_G p e below (T33.setTop (mkF m 188 #[.val (.long c01), .second, .val (.long c23), .second, .val (.int at0), .val (.int sel), .val (.int jk), .val (.int k0), .val (.int k1), .val (.int k2), .val (.int k3), .val (.ref ca), .val (.int (1 : Int32)), .val (.int a), .val (.int b), .val (.int mi), .val (.int ot), .val (.int c1), .val (.int d1), .unset, .unset, .unset, .unset, .unset, .unset] [(.ref oa)])) _
      refine own_blk X33 B0_188_192 B0_188_192d (ls' := #[.val (.long c01), .second, .val (.long c23), .second, .val (.int at0), .val (.int sel), .val (.int jk), .val (.int k0), .val (.int k1), .val (.int k2), .val (.int k3), .val (.ref ca), .val (.int (1 : Int32)), .val (.int a), .val (.int b), .val (.int mi), .val (.int ot), .val (.int c1), .val (.int d1), .unset, .unset, .unset, .unset, .unset, .unset]) (st' := [(.int a), (.int (0 : Int32)), (.ref oa), (.ref oa)]) rfl ?_
      refine own_iast X33 A33 n_oa d0_192 (by decide) (by decide)  (fun h35 T35 X35 A35 W35 => ?_)
      have A35 : own_I Z h35 oa .int 1 (own_u (fun _ => (0 : Int32)) (0) a) := A35
      generalize eg35 : own_u (fun _ => (0 : Int32)) (0) a = g35 at A35
      have A35_ca := own_I_other A34 W35 (by first | exact ne_ca_oa | exact fun q => ne_oa_ca q.symm)
      refine own_blk X35 B0_193_195 B0_193_195d (ls' := #[.val (.long c01), .second, .val (.long c23), .second, .val (.int at0), .val (.int sel), .val (.int jk), .val (.int k0), .val (.int k1), .val (.int k2), .val (.int k3), .val (.ref ca), .val (.int (1 : Int32)), .val (.int a), .val (.int b), .val (.int mi), .val (.int ot), .val (.int c1), .val (.int d1), .val (.ref oa), .unset, .unset, .unset, .unset, .unset]) (st' := []) rfl ?_
      refine own_goto X35 d0_195 (pc' := 276) (by decide) ?_
      have o0 : g35 0 = a := by rw [← eg35, own_u_eq rfl]
      refine own_blk X35 B0_276_277 B0_276_277d (ls' := #[.val (.long c01), .second, .val (.long c23), .second, .val (.int at0), .val (.int sel), .val (.int jk), .val (.int k0), .val (.int k1), .val (.int k2), .val (.int k3), .val (.ref ca), .val (.int (1 : Int32)), .val (.int a), .val (.int b), .val (.int mi), .val (.int ot), .val (.int c1), .val (.int d1), .val (.ref oa), .unset, .unset, .unset, .unset, .unset]) (st' := [(.int (4 : Int32))]) rfl ?_
      have lt_ca := own_A_lt A35_ca
      have lt_oa := own_A_lt A35
      refine own_newI X35 (hw _ (List.mem_of_getElem? (i := 0) rfl)) rfl d0_277 (by decide) 4 (by decide) (by decide) (by decide) (by decide) (fun h36 T36 X36 E36 A36 => ?_)
      have n_sa : n0 ≤ h35.size := X35.2.1
      have A36 : own_I Z h36 h35.size .int 4 (fun _ => (0 : Int32)) := A36
      generalize ez_sa : h35.size = sa at A36 n_sa lt_ca lt_oa ⊢
      have A37 := own_I_ext A35_ca E36
      have A38 := own_I_ext A35 E36
      have ne_ca_sa : ca ≠ sa := Nat.ne_of_lt lt_ca
      have ne_oa_sa : oa ≠ sa := Nat.ne_of_lt lt_oa
      show own_G p e below (T36.setTop (mkF m 279 #[.val (.long c01), .second, .val (.long c23), .second, .val (.int at0), .val (.int sel), .val (.int jk), .val (.int k0), .val (.int k1), .val (.int k2), .val (.int k3), .val (.ref ca), .val (.int (1 : Int32)), .val (.int a), .val (.int b), .val (.int mi), .val (.int ot), .val (.int c1), .val (.int d1), .val (.ref oa), .unset, .unset, .unset, .unset, .unset] [(.ref sa)])) _
      refine own_blk X36 B0_279_283 B0_279_283d (ls' := #[.val (.long c01), .second, .val (.long c23), .second, .val (.int at0), .val (.int sel), .val (.int jk), .val (.int k0), .val (.int k1), .val (.int k2), .val (.int k3), .val (.ref ca), .val (.int (1 : Int32)), .val (.int a), .val (.int b), .val (.int mi), .val (.int ot), .val (.int c1), .val (.int d1), .val (.ref oa), .unset, .unset, .unset, .unset, .unset]) (st' := [(.int jk), (.int (0 : Int32)), (.ref sa), (.ref sa)]) rfl ?_
      refine own_iast X36 A36 n_sa d0_283 (by decide) (by decide)  (fun h39 T39 X39 A39 W39 => ?_)
      have A39 : own_I Z h39 sa .int 4 (own_u (fun _ => (0 : Int32)) (0) jk) := A39
      generalize eg39 : own_u (fun _ => (0 : Int32)) (0) jk = g39 at A39
      have A39_ca := own_I_other A37 W39 (by first | exact ne_ca_sa | exact fun q => ne_sa_ca q.symm)
      have A39_oa := own_I_other A38 W39 (by first | exact ne_oa_sa | exact fun q => ne_sa_oa q.symm)
      refine own_blk X39 B0_284_290 B0_284_290d (ls' := #[.val (.long c01), .second, .val (.long c23), .second, .val (.int at0), .val (.int sel), .val (.int jk), .val (.int k0), .val (.int k1), .val (.int k2), .val (.int k3), .val (.ref ca), .val (.int (1 : Int32)), .val (.int a), .val (.int b), .val (.int mi), .val (.int ot), .val (.int c1), .val (.int d1), .val (.ref oa), .unset, .unset, .unset, .unset, .unset]) (st' := [(.int (jk + (1 : Int32))), (.int (1 : Int32)), (.ref sa), (.ref sa)]) rfl ?_
      refine own_iast X39 A39 n_sa d0_290 (by decide) (by decide)  (fun h40 T40 X40 A40 W40 => ?_)
      have A40 : own_I Z h40 sa .int 4 (own_u g39 (1) (jk + (1 : Int32))) := A40
      generalize eg40 : own_u g39 (1) (jk + (1 : Int32)) = g40 at A40
      have A40_ca := own_I_other A39_ca W40 (by first | exact ne_ca_sa | exact fun q => ne_sa_ca q.symm)
      have A40_oa := own_I_other A39_oa W40 (by first | exact ne_oa_sa | exact fun q => ne_sa_oa q.symm)
      refine own_blk X40 B0_291_297 B0_291_297d (ls' := #[.val (.long c01), .second, .val (.long c23), .second, .val (.int at0), .val (.int sel), .val (.int jk), .val (.int k0), .val (.int k1), .val (.int k2), .val (.int k3), .val (.ref ca), .val (.int (1 : Int32)), .val (.int a), .val (.int b), .val (.int mi), .val (.int ot), .val (.int c1), .val (.int d1), .val (.ref oa), .unset, .unset, .unset, .unset, .unset]) (st' := [(.int (jk + (2 : Int32))), (.int (2 : Int32)), (.ref sa), (.ref sa)]) rfl ?_
      refine own_iast X40 A40 n_sa d0_297 (by decide) (by decide)  (fun h41 T41 X41 A41 W41 => ?_)
      have A41 : own_I Z h41 sa .int 4 (own_u g40 (2) (jk + (2 : Int32))) := A41
      generalize eg41 : own_u g40 (2) (jk + (2 : Int32)) = g41 at A41
      have A41_ca := own_I_other A40_ca W41 (by first | exact ne_ca_sa | exact fun q => ne_sa_ca q.symm)
      have A41_oa := own_I_other A40_oa W41 (by first | exact ne_oa_sa | exact fun q => ne_sa_oa q.symm)
      refine own_blk X41 B0_298_304 B0_298_304d (ls' := #[.val (.long c01), .second, .val (.long c23), .second, .val (.int at0), .val (.int sel), .val (.int jk), .val (.int k0), .val (.int k1), .val (.int k2), .val (.int k3), .val (.ref ca), .val (.int (1 : Int32)), .val (.int a), .val (.int b), .val (.int mi), .val (.int ot), .val (.int c1), .val (.int d1), .val (.ref oa), .unset, .unset, .unset, .unset, .unset]) (st' := [(.int (jk + (3 : Int32))), (.int (3 : Int32)), (.ref sa), (.ref sa)]) rfl ?_
      refine own_iast X41 A41 n_sa d0_304 (by decide) (by decide)  (fun h42 T42 X42 A42 W42 => ?_)
      have A42 : own_I Z h42 sa .int 4 (own_u g41 (3) (jk + (3 : Int32))) := A42
      generalize eg42 : own_u g41 (3) (jk + (3 : Int32)) = g42 at A42
      have A42_ca := own_I_other A41_ca W42 (by first | exact ne_ca_sa | exact fun q => ne_sa_ca q.symm)
      have A42_oa := own_I_other A41_oa W42 (by first | exact ne_oa_sa | exact fun q => ne_sa_oa q.symm)
      refine own_blk X42 B0_305_308 B0_305_308d (ls' := #[.val (.long c01), .second, .val (.long c23), .second, .val (.int at0), .val (.int sel), .val (.int jk), .val (.int k0), .val (.int k1), .val (.int k2), .val (.int k3), .val (.ref ca), .val (.int (1 : Int32)), .val (.int a), .val (.int b), .val (.int mi), .val (.int ot), .val (.int c1), .val (.int d1), .val (.ref oa), .val (.ref sa), .unset, .unset, .unset, .unset]) (st' := [(.int (4 : Int32))]) rfl ?_
      have lt_ca := own_A_lt A42_ca
      have lt_oa := own_A_lt A42_oa
      have lt_sa := own_A_lt A42
      refine own_newI X42 (hw _ (List.mem_of_getElem? (i := 0) rfl)) rfl d0_308 (by decide) 4 (by decide) (by decide) (by decide) (by decide) (fun h43 T43 X43 E43 A43 => ?_)
      have n_wa : n0 ≤ h42.size := X42.2.1
      have A43 : own_I Z h43 h42.size .int 4 (fun _ => (0 : Int32)) := A43
      generalize ez_wa : h42.size = wa at A43 n_wa lt_ca lt_oa lt_sa ⊢
      have A44 := own_I_ext A42_ca E43
      have A45 := own_I_ext A42_oa E43
      have A46 := own_I_ext A42 E43
      have ne_ca_wa : ca ≠ wa := Nat.ne_of_lt lt_ca
      have ne_oa_wa : oa ≠ wa := Nat.ne_of_lt lt_oa
      have ne_sa_wa : sa ≠ wa := Nat.ne_of_lt lt_sa
      show own_G p e below (T43.setTop (mkF m 310 #[.val (.long c01), .second, .val (.long c23), .second, .val (.int at0), .val (.int sel), .val (.int jk), .val (.int k0), .val (.int k1), .val (.int k2), .val (.int k3), .val (.ref ca), .val (.int (1 : Int32)), .val (.int a), .val (.int b), .val (.int mi), .val (.int ot), .val (.int c1), .val (.int d1), .val (.ref oa), .val (.ref sa), .unset, .unset, .unset, .unset] [(.ref wa)])) _
      refine own_blk X43 B0_310_314 B0_310_314d (ls' := #[.val (.long c01), .second, .val (.long c23), .second, .val (.int at0), .val (.int sel), .val (.int jk), .val (.int k0), .val (.int k1), .val (.int k2), .val (.int k3), .val (.ref ca), .val (.int (1 : Int32)), .val (.int a), .val (.int b), .val (.int mi), .val (.int ot), .val (.int c1), .val (.int d1), .val (.ref oa), .val (.ref sa), .unset, .unset, .unset, .unset]) (st' := [(.int jk), (.int (0 : Int32)), (.ref wa), (.ref wa)]) rfl ?_
      refine own_iast X43 A43 n_wa d0_314 (by decide) (by decide)  (fun h47 T47 X47 A47 W47 => ?_)
      have A47 : own_I Z h47 wa .int 4 (own_u (fun _ => (0 : Int32)) (0) jk) := A47
      generalize eg47 : own_u (fun _ => (0 : Int32)) (0) jk = g47 at A47
      have A47_ca := own_I_other A44 W47 (by first | exact ne_ca_wa | exact fun q => ne_wa_ca q.symm)
      have A47_oa := own_I_other A45 W47 (by first | exact ne_oa_wa | exact fun q => ne_wa_oa q.symm)
      have A47_sa := own_I_other A46 W47 (by first | exact ne_sa_wa | exact fun q => ne_wa_sa q.symm)
      refine own_blk X47 B0_315_321 B0_315_321d (ls' := #[.val (.long c01), .second, .val (.long c23), .second, .val (.int at0), .val (.int sel), .val (.int jk), .val (.int k0), .val (.int k1), .val (.int k2), .val (.int k3), .val (.ref ca), .val (.int (1 : Int32)), .val (.int a), .val (.int b), .val (.int mi), .val (.int ot), .val (.int c1), .val (.int d1), .val (.ref oa), .val (.ref sa), .unset, .unset, .unset, .unset]) (st' := [(.int (jk + (1 : Int32))), (.int (1 : Int32)), (.ref wa), (.ref wa)]) rfl ?_
      refine own_iast X47 A47 n_wa d0_321 (by decide) (by decide)  (fun h48 T48 X48 A48 W48 => ?_)
      have A48 : own_I Z h48 wa .int 4 (own_u g47 (1) (jk + (1 : Int32))) := A48
      generalize eg48 : own_u g47 (1) (jk + (1 : Int32)) = g48 at A48
      have A48_ca := own_I_other A47_ca W48 (by first | exact ne_ca_wa | exact fun q => ne_wa_ca q.symm)
      have A48_oa := own_I_other A47_oa W48 (by first | exact ne_oa_wa | exact fun q => ne_wa_oa q.symm)
      have A48_sa := own_I_other A47_sa W48 (by first | exact ne_sa_wa | exact fun q => ne_wa_sa q.symm)
      refine own_blk X48 B0_322_328 B0_322_328d (ls' := #[.val (.long c01), .second, .val (.long c23), .second, .val (.int at0), .val (.int sel), .val (.int jk), .val (.int k0), .val (.int k1), .val (.int k2), .val (.int k3), .val (.ref ca), .val (.int (1 : Int32)), .val (.int a), .val (.int b), .val (.int mi), .val (.int ot), .val (.int c1), .val (.int d1), .val (.ref oa), .val (.ref sa), .unset, .unset, .unset, .unset]) (st' := [(.int (jk + (2 : Int32))), (.int (2 : Int32)), (.ref wa), (.ref wa)]) rfl ?_
      refine own_iast X48 A48 n_wa d0_328 (by decide) (by decide)  (fun h49 T49 X49 A49 W49 => ?_)
      have A49 : own_I Z h49 wa .int 4 (own_u g48 (2) (jk + (2 : Int32))) := A49
      generalize eg49 : own_u g48 (2) (jk + (2 : Int32)) = g49 at A49
      have A49_ca := own_I_other A48_ca W49 (by first | exact ne_ca_wa | exact fun q => ne_wa_ca q.symm)
      have A49_oa := own_I_other A48_oa W49 (by first | exact ne_oa_wa | exact fun q => ne_wa_oa q.symm)
      have A49_sa := own_I_other A48_sa W49 (by first | exact ne_sa_wa | exact fun q => ne_wa_sa q.symm)
      refine own_blk X49 B0_329_335 B0_329_335d (ls' := #[.val (.long c01), .second, .val (.long c23), .second, .val (.int at0), .val (.int sel), .val (.int jk), .val (.int k0), .val (.int k1), .val (.int k2), .val (.int k3), .val (.ref ca), .val (.int (1 : Int32)), .val (.int a), .val (.int b), .val (.int mi), .val (.int ot), .val (.int c1), .val (.int d1), .val (.ref oa), .val (.ref sa), .unset, .unset, .unset, .unset]) (st' := [(.int (jk + (3 : Int32))), (.int (3 : Int32)), (.ref wa), (.ref wa)]) rfl ?_
      refine own_iast X49 A49 n_wa d0_335 (by decide) (by decide)  (fun h50 T50 X50 A50 W50 => ?_)
      have A50 : own_I Z h50 wa .int 4 (own_u g49 (3) (jk + (3 : Int32))) := A50
      generalize eg50 : own_u g49 (3) (jk + (3 : Int32)) = g50 at A50
      have A50_ca := own_I_other A49_ca W50 (by first | exact ne_ca_wa | exact fun q => ne_wa_ca q.symm)
      have A50_oa := own_I_other A49_oa W50 (by first | exact ne_oa_wa | exact fun q => ne_wa_oa q.symm)
      have A50_sa := own_I_other A49_sa W50 (by first | exact ne_sa_wa | exact fun q => ne_wa_sa q.symm)
      refine own_blk X50 B0_336_339 B0_336_339d (ls' := #[.val (.long c01), .second, .val (.long c23), .second, .val (.int at0), .val (.int sel), .val (.int jk), .val (.int k0), .val (.int k1), .val (.int k2), .val (.int k3), .val (.ref ca), .val (.int (1 : Int32)), .val (.int a), .val (.int b), .val (.int mi), .val (.int ot), .val (.int c1), .val (.int d1), .val (.ref oa), .val (.ref sa), .val (.ref wa), .unset, .unset, .unset]) (st' := [(.int (4 : Int32))]) rfl ?_
      have lt_ca := own_A_lt A50_ca
      have lt_oa := own_A_lt A50_oa
      have lt_sa := own_A_lt A50_sa
      have lt_wa := own_A_lt A50
      refine own_newI X50 (hw _ (List.mem_of_getElem? (i := 0) rfl)) rfl d0_339 (by decide) 4 (by decide) (by decide) (by decide) (by decide) (fun h51 T51 X51 E51 A51 => ?_)
      have n_ka : n0 ≤ h50.size := X50.2.1
      have A51 : own_I Z h51 h50.size .int 4 (fun _ => (0 : Int32)) := A51
      generalize ez_ka : h50.size = ka at A51 n_ka lt_ca lt_oa lt_sa lt_wa ⊢
      have A52 := own_I_ext A50_ca E51
      have A53 := own_I_ext A50_oa E51
      have A54 := own_I_ext A50_sa E51
      have A55 := own_I_ext A50 E51
      have ne_ca_ka : ca ≠ ka := Nat.ne_of_lt lt_ca
      have ne_oa_ka : oa ≠ ka := Nat.ne_of_lt lt_oa
      have ne_sa_ka : sa ≠ ka := Nat.ne_of_lt lt_sa
      have ne_wa_ka : wa ≠ ka := Nat.ne_of_lt lt_wa
      show own_G p e below (T51.setTop (mkF m 341 #[.val (.long c01), .second, .val (.long c23), .second, .val (.int at0), .val (.int sel), .val (.int jk), .val (.int k0), .val (.int k1), .val (.int k2), .val (.int k3), .val (.ref ca), .val (.int (1 : Int32)), .val (.int a), .val (.int b), .val (.int mi), .val (.int ot), .val (.int c1), .val (.int d1), .val (.ref oa), .val (.ref sa), .val (.ref wa), .unset, .unset, .unset] [(.ref ka)])) _
      refine own_blk X51 B0_341_345 B0_341_345d (ls' := #[.val (.long c01), .second, .val (.long c23), .second, .val (.int at0), .val (.int sel), .val (.int jk), .val (.int k0), .val (.int k1), .val (.int k2), .val (.int k3), .val (.ref ca), .val (.int (1 : Int32)), .val (.int a), .val (.int b), .val (.int mi), .val (.int ot), .val (.int c1), .val (.int d1), .val (.ref oa), .val (.ref sa), .val (.ref wa), .unset, .unset, .unset]) (st' := [(.int k0), (.int (0 : Int32)), (.ref ka), (.ref ka)]) rfl ?_
      refine own_iast X51 A51 n_ka d0_345 (by decide) (by decide)  (fun h56 T56 X56 A56 W56 => ?_)
      have A56 : own_I Z h56 ka .int 4 (own_u (fun _ => (0 : Int32)) (0) k0) := A56
      generalize eg56 : own_u (fun _ => (0 : Int32)) (0) k0 = g56 at A56
      have A56_ca := own_I_other A52 W56 (by first | exact ne_ca_ka | exact fun q => ne_ka_ca q.symm)
      have A56_oa := own_I_other A53 W56 (by first | exact ne_oa_ka | exact fun q => ne_ka_oa q.symm)
      have A56_sa := own_I_other A54 W56 (by first | exact ne_sa_ka | exact fun q => ne_ka_sa q.symm)
      have A56_wa := own_I_other A55 W56 (by first | exact ne_wa_ka | exact fun q => ne_ka_wa q.symm)
      refine own_blk X56 B0_346_350 B0_346_350d (ls' := #[.val (.long c01), .second, .val (.long c23), .second, .val (.int at0), .val (.int sel), .val (.int jk), .val (.int k0), .val (.int k1), .val (.int k2), .val (.int k3), .val (.ref ca), .val (.int (1 : Int32)), .val (.int a), .val (.int b), .val (.int mi), .val (.int ot), .val (.int c1), .val (.int d1), .val (.ref oa), .val (.ref sa), .val (.ref wa), .unset, .unset, .unset]) (st' := [(.int k1), (.int (1 : Int32)), (.ref ka), (.ref ka)]) rfl ?_
      refine own_iast X56 A56 n_ka d0_350 (by decide) (by decide)  (fun h57 T57 X57 A57 W57 => ?_)
      have A57 : own_I Z h57 ka .int 4 (own_u g56 (1) k1) := A57
      generalize eg57 : own_u g56 (1) k1 = g57 at A57
      have A57_ca := own_I_other A56_ca W57 (by first | exact ne_ca_ka | exact fun q => ne_ka_ca q.symm)
      have A57_oa := own_I_other A56_oa W57 (by first | exact ne_oa_ka | exact fun q => ne_ka_oa q.symm)
      have A57_sa := own_I_other A56_sa W57 (by first | exact ne_sa_ka | exact fun q => ne_ka_sa q.symm)
      have A57_wa := own_I_other A56_wa W57 (by first | exact ne_wa_ka | exact fun q => ne_ka_wa q.symm)
      refine own_blk X57 B0_351_355 B0_351_355d (ls' := #[.val (.long c01), .second, .val (.long c23), .second, .val (.int at0), .val (.int sel), .val (.int jk), .val (.int k0), .val (.int k1), .val (.int k2), .val (.int k3), .val (.ref ca), .val (.int (1 : Int32)), .val (.int a), .val (.int b), .val (.int mi), .val (.int ot), .val (.int c1), .val (.int d1), .val (.ref oa), .val (.ref sa), .val (.ref wa), .unset, .unset, .unset]) (st' := [(.int k2), (.int (2 : Int32)), (.ref ka), (.ref ka)]) rfl ?_
      refine own_iast X57 A57 n_ka d0_355 (by decide) (by decide)  (fun h58 T58 X58 A58 W58 => ?_)
      have A58 : own_I Z h58 ka .int 4 (own_u g57 (2) k2) := A58
      generalize eg58 : own_u g57 (2) k2 = g58 at A58
      have A58_ca := own_I_other A57_ca W58 (by first | exact ne_ca_ka | exact fun q => ne_ka_ca q.symm)
      have A58_oa := own_I_other A57_oa W58 (by first | exact ne_oa_ka | exact fun q => ne_ka_oa q.symm)
      have A58_sa := own_I_other A57_sa W58 (by first | exact ne_sa_ka | exact fun q => ne_ka_sa q.symm)
      have A58_wa := own_I_other A57_wa W58 (by first | exact ne_wa_ka | exact fun q => ne_ka_wa q.symm)
      refine own_blk X58 B0_356_360 B0_356_360d (ls' := #[.val (.long c01), .second, .val (.long c23), .second, .val (.int at0), .val (.int sel), .val (.int jk), .val (.int k0), .val (.int k1), .val (.int k2), .val (.int k3), .val (.ref ca), .val (.int (1 : Int32)), .val (.int a), .val (.int b), .val (.int mi), .val (.int ot), .val (.int c1), .val (.int d1), .val (.ref oa), .val (.ref sa), .val (.ref wa), .unset, .unset, .unset]) (st' := [(.int k3), (.int (3 : Int32)), (.ref ka), (.ref ka)]) rfl ?_
      refine own_iast X58 A58 n_ka d0_360 (by decide) (by decide)  (fun h59 T59 X59 A59 W59 => ?_)
      have A59 : own_I Z h59 ka .int 4 (own_u g58 (3) k3) := A59
      generalize eg59 : own_u g58 (3) k3 = g59 at A59
      have A59_ca := own_I_other A58_ca W59 (by first | exact ne_ca_ka | exact fun q => ne_ka_ca q.symm)
      have A59_oa := own_I_other A58_oa W59 (by first | exact ne_oa_ka | exact fun q => ne_ka_oa q.symm)
      have A59_sa := own_I_other A58_sa W59 (by first | exact ne_sa_ka | exact fun q => ne_ka_sa q.symm)
      have A59_wa := own_I_other A58_wa W59 (by first | exact ne_wa_ka | exact fun q => ne_ka_wa q.symm)
      refine own_blk X59 B0_361_366 B0_361_366d (ls' := #[.val (.long c01), .second, .val (.long c23), .second, .val (.int at0), .val (.int sel), .val (.int jk), .val (.int k0), .val (.int k1), .val (.int k2), .val (.int k3), .val (.ref ca), .val (.int (1 : Int32)), .val (.int a), .val (.int b), .val (.int mi), .val (.int ot), .val (.int c1), .val (.int d1), .val (.ref oa), .val (.ref sa), .val (.ref wa), .val (.ref ka), .unset, .unset]) (st' := [(.int (1 : Int32)), (.int (1 : Int32))]) rfl ?_
      refine own_icmp X59 d0_366 (pc' := 376) (by decide) (fun (c366 : (1 : Int) < 1) => by exfalso; omega) (fun c366 => ?_)
      have c366 : ¬ ((1 : Int) < 1) := c366
      refine own_blk X59 B0_369_375 B0_369_375d (ls' := #[.val (.long c01), .second, .val (.long c23), .second, .val (.int at0), .val (.int sel), .val (.int jk), .val (.int k0), .val (.int k1), .val (.int k2), .val (.int k3), .val (.ref ca), .val (.int (1 : Int32)), .val (.int a), .val (.int b), .val (.int mi), .val (.int ot), .val (.int c1), .val (.int d1), .val (.ref oa), .val (.ref sa), .val (.ref wa), .val (.ref ka), .unset, .unset]) (st' := [(.int at0), (.int a), (.ref wa)]) rfl ?_
      refine own_iast X59 A59_wa n_wa d0_375 (by omega) (by omega)  (fun h60 T60 X60 A60 W60 => ?_)
      have A60 : own_I Z h60 wa .int 4 (own_u g50 (a.toInt) at0) := A60
      generalize eg60 : own_u g50 (a.toInt) at0 = g60 at A60
      have A60_ca := own_I_other A59_ca W60 (by first | exact ne_ca_wa | exact fun q => ne_wa_ca q.symm)
      have A60_oa := own_I_other A59_oa W60 (by first | exact ne_oa_wa | exact fun q => ne_wa_oa q.symm)
      have A60_sa := own_I_other A59_sa W60 (by first | exact ne_sa_wa | exact fun q => ne_wa_sa q.symm)
      have A60_ka := own_I_other A59 W60 (by first | exact ne_ka_wa | exact fun q => ne_wa_ka q.symm)
      refine own_blk X60 B0_376_379 B0_376_379d (ls' := #[.val (.long c01), .second, .val (.long c23), .second, .val (.int at0), .val (.int sel), .val (.int jk), .val (.int k0), .val (.int k1), .val (.int k2), .val (.int k3), .val (.ref ca), .val (.int (1 : Int32)), .val (.int a), .val (.int b), .val (.int mi), .val (.int ot), .val (.int c1), .val (.int d1), .val (.ref oa), .val (.ref sa), .val (.ref wa), .val (.ref ka), .unset, .unset]) (st' := [(.int (2 : Int32)), (.int (1 : Int32))]) rfl ?_
      refine own_icmp X60 d0_379 (pc' := 395) (by decide) (fun c379 => ?_) (fun (c379 : ¬ ((1 : Int) < 2)) => by exfalso; omega)
      have c379 : (1 : Int) < 2 := c379
      refine own_blk X60 B0_395_398 B0_395_398d (ls' := #[.val (.long c01), .second, .val (.long c23), .second, .val (.int at0), .val (.int sel), .val (.int jk), .val (.int k0), .val (.int k1), .val (.int k2), .val (.int k3), .val (.ref ca), .val (.int (1 : Int32)), .val (.int a), .val (.int b), .val (.int mi), .val (.int ot), .val (.int c1), .val (.int d1), .val (.ref oa), .val (.ref sa), .val (.ref wa), .val (.ref ka), .unset, .unset]) (st' := [(.int (3 : Int32)), (.int (1 : Int32))]) rfl ?_
      refine own_icmp X60 d0_398 (pc' := 420) (by decide) (fun c398 => ?_) (fun (c398 : ¬ ((1 : Int) < 3)) => by exfalso; omega)
      have c398 : (1 : Int) < 3 := c398
      refine own_blk X60 B0_420_423 B0_420_423d (ls' := #[.val (.long c01), .second, .val (.long c23), .second, .val (.int at0), .val (.int sel), .val (.int jk), .val (.int k0), .val (.int k1), .val (.int k2), .val (.int k3), .val (.ref ca), .val (.int (1 : Int32)), .val (.int a), .val (.int b), .val (.int mi), .val (.int ot), .val (.int c1), .val (.int d1), .val (.ref oa), .val (.ref sa), .val (.ref wa), .val (.ref ka), .unset, .unset]) (st' := [(.int (4 : Int32)), (.int (1 : Int32))]) rfl ?_
      refine own_icmp X60 d0_423 (pc' := 451) (by decide) (fun c423 => ?_) (fun (c423 : ¬ ((1 : Int) < 4)) => by exfalso; omega)
      have c423 : (1 : Int) < 4 := c423
      refine own_blk X60 B0_451_459 B0_451_459d (ls' := #[.val (.long c01), .second, .val (.long c23), .second, .val (.int at0), .val (.int sel), .val (.int jk), .val (.int k0), .val (.int k1), .val (.int k2), .val (.int k3), .val (.ref ca), .val (.int (1 : Int32)), .val (.int a), .val (.int b), .val (.int mi), .val (.int ot), .val (.int c1), .val (.int d1), .val (.ref oa), .val (.ref sa), .val (.ref wa), .val (.ref ka), .unset, .unset]) (st' := [(.ref sa), (.int at0), (.ref oa), (.ref ca)]) rfl ?_
      have hSW : (own_u g42 (g35 0).toInt at0) = g60 := by
        rw [o0]
        subst eg60 eg59 eg58 eg57 eg56 eg50 eg49 eg48 eg47 eg42 eg41 eg40 eg39 eg5 eg4 eg3 eg2
        rfl
      refine own_callS X60 (hw _ (List.mem_of_getElem? (i := 1) rfl)) (hw _ (List.mem_of_getElem? (i := 2) rfl)) (hw _ (List.mem_of_getElem? (i := 3) rfl)) (hw _ (List.mem_of_getElem? (i := 4) rfl)) (by decide) (c_sb1 l Z a0 hw ca oa at0 sa g5 g35 g42 h60 n0 X60.2.1 A60_ca A60_oa A60_sa n_sa ne_ca_sa ne_oa_sa (by rw [o0]; omega)) d0_459 [(.ref ca), (.ref oa), (.int at0), (.ref sa)] [] rfl rfl pd1 rfl rfl (by decide) (Nat.le_of_ble_eq_true rfl) (by decide) (by decide) (fun _ _ q => Nat.le_trans X60.2.1 q.2.1.1) (fun v61 h61 T61 X61 q61 => ?_)
      obtain ⟨rfl, K61, As61⟩ := q61
      show own_G p e below (T61.setTop (mkF m 462 #[.val (.long c01), .second, .val (.long c23), .second, .val (.int at0), .val (.int sel), .val (.int jk), .val (.int k0), .val (.int k1), .val (.int k2), .val (.int k3), .val (.ref ca), .val (.int (1 : Int32)), .val (.int a), .val (.int b), .val (.int mi), .val (.int ot), .val (.int c1), .val (.int d1), .val (.ref oa), .val (.ref sa), .val (.ref wa), .val (.ref ka), .unset, .unset] [])) _
      rw [hSW] at As61
      have B61_ca := own_I_keep A60_ca K61 (by simp; exact ne_ca_sa)
      have B61_oa := own_I_keep A60_oa K61 (by simp; exact ne_oa_sa)
      have B61_wa := own_I_keep A60 K61 (by simp; exact fun q => ne_sa_wa q.symm)
      refine own_blk X61 B0_462_465 B0_462_465d (ls' := #[.val (.long c01), .second, .val (.long c23), .second, .val (.int at0), .val (.int sel), .val (.int jk), .val (.int k0), .val (.int k1), .val (.int k2), .val (.int k3), .val (.ref ca), .val (.int (1 : Int32)), .val (.int a), .val (.int b), .val (.int mi), .val (.int ot), .val (.int c1), .val (.int d1), .val (.ref oa), .val (.ref sa), .val (.ref wa), .val (.ref ka), .unset, .unset]) (st' := [(.int (0 : Int32)), (.ref sa)]) rfl ?_
      refine own_iald X61 As61 d0_465 (by decide) (by decide) ?_
      show own_G p e below (T61.setTop (mkF m 466 #[.val (.long c01), .second, .val (.long c23), .second, .val (.int at0), .val (.int sel), .val (.int jk), .val (.int k0), .val (.int k1), .val (.int k2), .val (.int k3), .val (.ref ca), .val (.int (1 : Int32)), .val (.int a), .val (.int b), .val (.int mi), .val (.int ot), .val (.int c1), .val (.int d1), .val (.ref oa), .val (.ref sa), .val (.ref wa), .val (.ref ka), .unset, .unset] [(.int (g60 0))])) _
      refine own_blk X61 B0_466_469 B0_466_469d (ls' := #[.val (.long c01), .second, .val (.long c23), .second, .val (.int at0), .val (.int sel), .val (.int jk), .val (.int k0), .val (.int k1), .val (.int k2), .val (.int k3), .val (.ref ca), .val (.int (1 : Int32)), .val (.int a), .val (.int b), .val (.int mi), .val (.int ot), .val (.int c1), .val (.int d1), .val (.ref oa), .val (.ref sa), .val (.ref wa), .val (.ref ka), .unset, .unset]) (st' := [(.int (0 : Int32)), (.ref wa), (.int (g60 0))]) rfl ?_
      refine own_iald X61 B61_wa d0_469 (by decide) (by decide) ?_
      show own_G p e below (T61.setTop (mkF m 470 #[.val (.long c01), .second, .val (.long c23), .second, .val (.int at0), .val (.int sel), .val (.int jk), .val (.int k0), .val (.int k1), .val (.int k2), .val (.int k3), .val (.ref ca), .val (.int (1 : Int32)), .val (.int a), .val (.int b), .val (.int mi), .val (.int ot), .val (.int c1), .val (.int d1), .val (.ref oa), .val (.ref sa), .val (.ref wa), .val (.ref ka), .unset, .unset] [(.int (g60 0)), (.int (g60 0))])) _
      refine own_icmp X61 d0_470 (pc' := 510) (by decide) (fun (c470 : ¬ (g60 0).toInt = (g60 0).toInt) => by exfalso; exact c470 rfl) (fun c470 => ?_)
      have c470 : ¬ (¬ (g60 0).toInt = (g60 0).toInt) := c470
      refine own_blk X61 B0_473_476 B0_473_476d (ls' := #[.val (.long c01), .second, .val (.long c23), .second, .val (.int at0), .val (.int sel), .val (.int jk), .val (.int k0), .val (.int k1), .val (.int k2), .val (.int k3), .val (.ref ca), .val (.int (1 : Int32)), .val (.int a), .val (.int b), .val (.int mi), .val (.int ot), .val (.int c1), .val (.int d1), .val (.ref oa), .val (.ref sa), .val (.ref wa), .val (.ref ka), .unset, .unset]) (st' := [(.int (1 : Int32)), (.ref sa)]) rfl ?_
      refine own_iald X61 As61 d0_476 (by decide) (by decide) ?_
      show own_G p e below (T61.setTop (mkF m 477 #[.val (.long c01), .second, .val (.long c23), .second, .val (.int at0), .val (.int sel), .val (.int jk), .val (.int k0), .val (.int k1), .val (.int k2), .val (.int k3), .val (.ref ca), .val (.int (1 : Int32)), .val (.int a), .val (.int b), .val (.int mi), .val (.int ot), .val (.int c1), .val (.int d1), .val (.ref oa), .val (.ref sa), .val (.ref wa), .val (.ref ka), .unset, .unset] [(.int (g60 1))])) _
      refine own_blk X61 B0_477_480 B0_477_480d (ls' := #[.val (.long c01), .second, .val (.long c23), .second, .val (.int at0), .val (.int sel), .val (.int jk), .val (.int k0), .val (.int k1), .val (.int k2), .val (.int k3), .val (.ref ca), .val (.int (1 : Int32)), .val (.int a), .val (.int b), .val (.int mi), .val (.int ot), .val (.int c1), .val (.int d1), .val (.ref oa), .val (.ref sa), .val (.ref wa), .val (.ref ka), .unset, .unset]) (st' := [(.int (1 : Int32)), (.ref wa), (.int (g60 1))]) rfl ?_
      refine own_iald X61 B61_wa d0_480 (by decide) (by decide) ?_
      show own_G p e below (T61.setTop (mkF m 481 #[.val (.long c01), .second, .val (.long c23), .second, .val (.int at0), .val (.int sel), .val (.int jk), .val (.int k0), .val (.int k1), .val (.int k2), .val (.int k3), .val (.ref ca), .val (.int (1 : Int32)), .val (.int a), .val (.int b), .val (.int mi), .val (.int ot), .val (.int c1), .val (.int d1), .val (.ref oa), .val (.ref sa), .val (.ref wa), .val (.ref ka), .unset, .unset] [(.int (g60 1)), (.int (g60 1))])) _
      refine own_icmp X61 d0_481 (pc' := 510) (by decide) (fun (c481 : ¬ (g60 1).toInt = (g60 1).toInt) => by exfalso; exact c481 rfl) (fun c481 => ?_)
      have c481 : ¬ (¬ (g60 1).toInt = (g60 1).toInt) := c481
      refine own_blk X61 B0_484_487 B0_484_487d (ls' := #[.val (.long c01), .second, .val (.long c23), .second, .val (.int at0), .val (.int sel), .val (.int jk), .val (.int k0), .val (.int k1), .val (.int k2), .val (.int k3), .val (.ref ca), .val (.int (1 : Int32)), .val (.int a), .val (.int b), .val (.int mi), .val (.int ot), .val (.int c1), .val (.int d1), .val (.ref oa), .val (.ref sa), .val (.ref wa), .val (.ref ka), .unset, .unset]) (st' := [(.int (2 : Int32)), (.ref sa)]) rfl ?_
      refine own_iald X61 As61 d0_487 (by decide) (by decide) ?_
      show own_G p e below (T61.setTop (mkF m 488 #[.val (.long c01), .second, .val (.long c23), .second, .val (.int at0), .val (.int sel), .val (.int jk), .val (.int k0), .val (.int k1), .val (.int k2), .val (.int k3), .val (.ref ca), .val (.int (1 : Int32)), .val (.int a), .val (.int b), .val (.int mi), .val (.int ot), .val (.int c1), .val (.int d1), .val (.ref oa), .val (.ref sa), .val (.ref wa), .val (.ref ka), .unset, .unset] [(.int (g60 2))])) _
      refine own_blk X61 B0_488_491 B0_488_491d (ls' := #[.val (.long c01), .second, .val (.long c23), .second, .val (.int at0), .val (.int sel), .val (.int jk), .val (.int k0), .val (.int k1), .val (.int k2), .val (.int k3), .val (.ref ca), .val (.int (1 : Int32)), .val (.int a), .val (.int b), .val (.int mi), .val (.int ot), .val (.int c1), .val (.int d1), .val (.ref oa), .val (.ref sa), .val (.ref wa), .val (.ref ka), .unset, .unset]) (st' := [(.int (2 : Int32)), (.ref wa), (.int (g60 2))]) rfl ?_
      refine own_iald X61 B61_wa d0_491 (by decide) (by decide) ?_
      show own_G p e below (T61.setTop (mkF m 492 #[.val (.long c01), .second, .val (.long c23), .second, .val (.int at0), .val (.int sel), .val (.int jk), .val (.int k0), .val (.int k1), .val (.int k2), .val (.int k3), .val (.ref ca), .val (.int (1 : Int32)), .val (.int a), .val (.int b), .val (.int mi), .val (.int ot), .val (.int c1), .val (.int d1), .val (.ref oa), .val (.ref sa), .val (.ref wa), .val (.ref ka), .unset, .unset] [(.int (g60 2)), (.int (g60 2))])) _
      refine own_icmp X61 d0_492 (pc' := 510) (by decide) (fun (c492 : ¬ (g60 2).toInt = (g60 2).toInt) => by exfalso; exact c492 rfl) (fun c492 => ?_)
      have c492 : ¬ (¬ (g60 2).toInt = (g60 2).toInt) := c492
      refine own_blk X61 B0_495_498 B0_495_498d (ls' := #[.val (.long c01), .second, .val (.long c23), .second, .val (.int at0), .val (.int sel), .val (.int jk), .val (.int k0), .val (.int k1), .val (.int k2), .val (.int k3), .val (.ref ca), .val (.int (1 : Int32)), .val (.int a), .val (.int b), .val (.int mi), .val (.int ot), .val (.int c1), .val (.int d1), .val (.ref oa), .val (.ref sa), .val (.ref wa), .val (.ref ka), .unset, .unset]) (st' := [(.int (3 : Int32)), (.ref sa)]) rfl ?_
      refine own_iald X61 As61 d0_498 (by decide) (by decide) ?_
      show own_G p e below (T61.setTop (mkF m 499 #[.val (.long c01), .second, .val (.long c23), .second, .val (.int at0), .val (.int sel), .val (.int jk), .val (.int k0), .val (.int k1), .val (.int k2), .val (.int k3), .val (.ref ca), .val (.int (1 : Int32)), .val (.int a), .val (.int b), .val (.int mi), .val (.int ot), .val (.int c1), .val (.int d1), .val (.ref oa), .val (.ref sa), .val (.ref wa), .val (.ref ka), .unset, .unset] [(.int (g60 3))])) _
      refine own_blk X61 B0_499_502 B0_499_502d (ls' := #[.val (.long c01), .second, .val (.long c23), .second, .val (.int at0), .val (.int sel), .val (.int jk), .val (.int k0), .val (.int k1), .val (.int k2), .val (.int k3), .val (.ref ca), .val (.int (1 : Int32)), .val (.int a), .val (.int b), .val (.int mi), .val (.int ot), .val (.int c1), .val (.int d1), .val (.ref oa), .val (.ref sa), .val (.ref wa), .val (.ref ka), .unset, .unset]) (st' := [(.int (3 : Int32)), (.ref wa), (.int (g60 3))]) rfl ?_
      refine own_iald X61 B61_wa d0_502 (by decide) (by decide) ?_
      show own_G p e below (T61.setTop (mkF m 503 #[.val (.long c01), .second, .val (.long c23), .second, .val (.int at0), .val (.int sel), .val (.int jk), .val (.int k0), .val (.int k1), .val (.int k2), .val (.int k3), .val (.ref ca), .val (.int (1 : Int32)), .val (.int a), .val (.int b), .val (.int mi), .val (.int ot), .val (.int c1), .val (.int d1), .val (.ref oa), .val (.ref sa), .val (.ref wa), .val (.ref ka), .unset, .unset] [(.int (g60 3)), (.int (g60 3))])) _
      refine own_icmp X61 d0_503 (pc' := 510) (by decide) (fun (c503 : ¬ (g60 3).toInt = (g60 3).toInt) => by exfalso; exact c503 rfl) (fun c503 => ?_)
      have c503 : ¬ (¬ (g60 3).toInt = (g60 3).toInt) := c503
      refine own_blk X61 B0_506_507 B0_506_507d (ls' := #[.val (.long c01), .second, .val (.long c23), .second, .val (.int at0), .val (.int sel), .val (.int jk), .val (.int k0), .val (.int k1), .val (.int k2), .val (.int k3), .val (.ref ca), .val (.int (1 : Int32)), .val (.int a), .val (.int b), .val (.int mi), .val (.int ot), .val (.int c1), .val (.int d1), .val (.ref oa), .val (.ref sa), .val (.ref wa), .val (.ref ka), .unset, .unset]) (st' := [(.int (1 : Int32))]) rfl ?_
      refine own_goto X61 d0_507 (pc' := 511) (by decide) ?_
      refine own_blk X61 B0_511_516 B0_511_516d (ls' := #[.val (.long c01), .second, .val (.long c23), .second, .val (.int at0), .val (.int sel), .val (.int jk), .val (.int k0), .val (.int k1), .val (.int k2), .val (.int k3), .val (.ref ca), .val (.int (1 : Int32)), .val (.int a), .val (.int b), .val (.int mi), .val (.int ot), .val (.int c1), .val (.int d1), .val (.ref oa), .val (.ref sa), .val (.ref wa), .val (.ref ka), .val (.int (1 : Int32)), .unset]) (st' := [(.int (0 : Int32)), (.ref ca)]) rfl ?_
      refine own_iald X61 B61_ca d0_516 (by decide) (by decide) ?_
      show own_G p e below (T61.setTop (mkF m 517 #[.val (.long c01), .second, .val (.long c23), .second, .val (.int at0), .val (.int sel), .val (.int jk), .val (.int k0), .val (.int k1), .val (.int k2), .val (.int k3), .val (.ref ca), .val (.int (1 : Int32)), .val (.int a), .val (.int b), .val (.int mi), .val (.int ot), .val (.int c1), .val (.int d1), .val (.ref oa), .val (.ref sa), .val (.ref wa), .val (.ref ka), .val (.int (1 : Int32)), .unset] [(.int (g5 0))])) _
      refine own_blk X61 B0_517_519 B0_517_519d (ls' := #[.val (.long c01), .second, .val (.long c23), .second, .val (.int at0), .val (.int sel), .val (.int jk), .val (.int k0), .val (.int k1), .val (.int k2), .val (.int k3), .val (.ref ca), .val (.int (1 : Int32)), .val (.int a), .val (.int b), .val (.int mi), .val (.int ot), .val (.int c1), .val (.int d1), .val (.ref oa), .val (.ref sa), .val (.ref wa), .val (.ref ka), .val (.int (1 : Int32)), .unset]) (st' := [(.int k0), (.int (g5 0))]) rfl ?_
      refine own_icmp X61 d0_519 (pc' := 553) (by decide) (fun (c519 : ¬ (g5 0).toInt = k0.toInt) => by exfalso; exact c519 (by rw [← eg5, own_u_ne (by decide), ← eg4, own_u_ne (by decide), ← eg3, own_u_ne (by decide), ← eg2, own_u_eq rfl])) (fun c519 => ?_)
      have c519 : ¬ (¬ (g5 0).toInt = k0.toInt) := c519
      refine own_blk X61 B0_522_525 B0_522_525d (ls' := #[.val (.long c01), .second, .val (.long c23), .second, .val (.int at0), .val (.int sel), .val (.int jk), .val (.int k0), .val (.int k1), .val (.int k2), .val (.int k3), .val (.ref ca), .val (.int (1 : Int32)), .val (.int a), .val (.int b), .val (.int mi), .val (.int ot), .val (.int c1), .val (.int d1), .val (.ref oa), .val (.ref sa), .val (.ref wa), .val (.ref ka), .val (.int (1 : Int32)), .unset]) (st' := [(.int (1 : Int32)), (.ref ca)]) rfl ?_
      refine own_iald X61 B61_ca d0_525 (by decide) (by decide) ?_
      show own_G p e below (T61.setTop (mkF m 526 #[.val (.long c01), .second, .val (.long c23), .second, .val (.int at0), .val (.int sel), .val (.int jk), .val (.int k0), .val (.int k1), .val (.int k2), .val (.int k3), .val (.ref ca), .val (.int (1 : Int32)), .val (.int a), .val (.int b), .val (.int mi), .val (.int ot), .val (.int c1), .val (.int d1), .val (.ref oa), .val (.ref sa), .val (.ref wa), .val (.ref ka), .val (.int (1 : Int32)), .unset] [(.int (g5 1))])) _
      refine own_blk X61 B0_526_528 B0_526_528d (ls' := #[.val (.long c01), .second, .val (.long c23), .second, .val (.int at0), .val (.int sel), .val (.int jk), .val (.int k0), .val (.int k1), .val (.int k2), .val (.int k3), .val (.ref ca), .val (.int (1 : Int32)), .val (.int a), .val (.int b), .val (.int mi), .val (.int ot), .val (.int c1), .val (.int d1), .val (.ref oa), .val (.ref sa), .val (.ref wa), .val (.ref ka), .val (.int (1 : Int32)), .unset]) (st' := [(.int k1), (.int (g5 1))]) rfl ?_
      refine own_icmp X61 d0_528 (pc' := 553) (by decide) (fun (c528 : ¬ (g5 1).toInt = k1.toInt) => by exfalso; exact c528 (by rw [← eg5, own_u_ne (by decide), ← eg4, own_u_ne (by decide), ← eg3, own_u_eq rfl])) (fun c528 => ?_)
      have c528 : ¬ (¬ (g5 1).toInt = k1.toInt) := c528
      refine own_blk X61 B0_531_534 B0_531_534d (ls' := #[.val (.long c01), .second, .val (.long c23), .second, .val (.int at0), .val (.int sel), .val (.int jk), .val (.int k0), .val (.int k1), .val (.int k2), .val (.int k3), .val (.ref ca), .val (.int (1 : Int32)), .val (.int a), .val (.int b), .val (.int mi), .val (.int ot), .val (.int c1), .val (.int d1), .val (.ref oa), .val (.ref sa), .val (.ref wa), .val (.ref ka), .val (.int (1 : Int32)), .unset]) (st' := [(.int (2 : Int32)), (.ref ca)]) rfl ?_
      refine own_iald X61 B61_ca d0_534 (by decide) (by decide) ?_
      show own_G p e below (T61.setTop (mkF m 535 #[.val (.long c01), .second, .val (.long c23), .second, .val (.int at0), .val (.int sel), .val (.int jk), .val (.int k0), .val (.int k1), .val (.int k2), .val (.int k3), .val (.ref ca), .val (.int (1 : Int32)), .val (.int a), .val (.int b), .val (.int mi), .val (.int ot), .val (.int c1), .val (.int d1), .val (.ref oa), .val (.ref sa), .val (.ref wa), .val (.ref ka), .val (.int (1 : Int32)), .unset] [(.int (g5 2))])) _
      refine own_blk X61 B0_535_537 B0_535_537d (ls' := #[.val (.long c01), .second, .val (.long c23), .second, .val (.int at0), .val (.int sel), .val (.int jk), .val (.int k0), .val (.int k1), .val (.int k2), .val (.int k3), .val (.ref ca), .val (.int (1 : Int32)), .val (.int a), .val (.int b), .val (.int mi), .val (.int ot), .val (.int c1), .val (.int d1), .val (.ref oa), .val (.ref sa), .val (.ref wa), .val (.ref ka), .val (.int (1 : Int32)), .unset]) (st' := [(.int k2), (.int (g5 2))]) rfl ?_
      refine own_icmp X61 d0_537 (pc' := 553) (by decide) (fun (c537 : ¬ (g5 2).toInt = k2.toInt) => by exfalso; exact c537 (by rw [← eg5, own_u_ne (by decide), ← eg4, own_u_eq rfl])) (fun c537 => ?_)
      have c537 : ¬ (¬ (g5 2).toInt = k2.toInt) := c537
      refine own_blk X61 B0_540_543 B0_540_543d (ls' := #[.val (.long c01), .second, .val (.long c23), .second, .val (.int at0), .val (.int sel), .val (.int jk), .val (.int k0), .val (.int k1), .val (.int k2), .val (.int k3), .val (.ref ca), .val (.int (1 : Int32)), .val (.int a), .val (.int b), .val (.int mi), .val (.int ot), .val (.int c1), .val (.int d1), .val (.ref oa), .val (.ref sa), .val (.ref wa), .val (.ref ka), .val (.int (1 : Int32)), .unset]) (st' := [(.int (3 : Int32)), (.ref ca)]) rfl ?_
      refine own_iald X61 B61_ca d0_543 (by decide) (by decide) ?_
      show own_G p e below (T61.setTop (mkF m 544 #[.val (.long c01), .second, .val (.long c23), .second, .val (.int at0), .val (.int sel), .val (.int jk), .val (.int k0), .val (.int k1), .val (.int k2), .val (.int k3), .val (.ref ca), .val (.int (1 : Int32)), .val (.int a), .val (.int b), .val (.int mi), .val (.int ot), .val (.int c1), .val (.int d1), .val (.ref oa), .val (.ref sa), .val (.ref wa), .val (.ref ka), .val (.int (1 : Int32)), .unset] [(.int (g5 3))])) _
      refine own_blk X61 B0_544_546 B0_544_546d (ls' := #[.val (.long c01), .second, .val (.long c23), .second, .val (.int at0), .val (.int sel), .val (.int jk), .val (.int k0), .val (.int k1), .val (.int k2), .val (.int k3), .val (.ref ca), .val (.int (1 : Int32)), .val (.int a), .val (.int b), .val (.int mi), .val (.int ot), .val (.int c1), .val (.int d1), .val (.ref oa), .val (.ref sa), .val (.ref wa), .val (.ref ka), .val (.int (1 : Int32)), .unset]) (st' := [(.int k3), (.int (g5 3))]) rfl ?_
      refine own_icmp X61 d0_546 (pc' := 553) (by decide) (fun (c546 : ¬ (g5 3).toInt = k3.toInt) => by exfalso; exact c546 (by rw [← eg5, own_u_eq rfl])) (fun c546 => ?_)
      have c546 : ¬ (¬ (g5 3).toInt = k3.toInt) := c546
      refine own_blk X61 B0_549_550 B0_549_550d (ls' := #[.val (.long c01), .second, .val (.long c23), .second, .val (.int at0), .val (.int sel), .val (.int jk), .val (.int k0), .val (.int k1), .val (.int k2), .val (.int k3), .val (.ref ca), .val (.int (1 : Int32)), .val (.int a), .val (.int b), .val (.int mi), .val (.int ot), .val (.int c1), .val (.int d1), .val (.ref oa), .val (.ref sa), .val (.ref wa), .val (.ref ka), .val (.int (1 : Int32)), .unset]) (st' := [(.int (1 : Int32))]) rfl ?_
      refine own_goto X61 d0_550 (pc' := 554) (by decide) ?_
      refine own_blk X61 B0_554_558 B0_554_558d (ls' := #[.val (.long c01), .second, .val (.long c23), .second, .val (.int at0), .val (.int sel), .val (.int jk), .val (.int k0), .val (.int k1), .val (.int k2), .val (.int k3), .val (.ref ca), .val (.int (1 : Int32)), .val (.int a), .val (.int b), .val (.int mi), .val (.int ot), .val (.int c1), .val (.int d1), .val (.ref oa), .val (.ref sa), .val (.ref wa), .val (.ref ka), .val (.int (1 : Int32)), .val (.int (1 : Int32))]) (st' := [(.int (1 : Int32))]) rfl ?_
      refine own_if X61 d0_558 (pc' := 578) (by decide) (fun (c558 : (1 : Int) = 0) => by exfalso; omega) (fun c558 => ?_)
      have c558 : ¬ ((1 : Int) = 0) := c558
      refine own_blk X61 B0_561_563 B0_561_563d (ls' := #[.val (.long c01), .second, .val (.long c23), .second, .val (.int at0), .val (.int sel), .val (.int jk), .val (.int k0), .val (.int k1), .val (.int k2), .val (.int k3), .val (.ref ca), .val (.int (1 : Int32)), .val (.int a), .val (.int b), .val (.int mi), .val (.int ot), .val (.int c1), .val (.int d1), .val (.ref oa), .val (.ref sa), .val (.ref wa), .val (.ref ka), .val (.int (1 : Int32)), .val (.int (1 : Int32))]) (st' := [(.int (1 : Int32))]) rfl ?_
      refine own_if X61 d0_563 (pc' := 578) (by decide) (fun (c563 : (1 : Int) = 0) => by exfalso; omega) (fun c563 => ?_)
      have c563 : ¬ ((1 : Int) = 0) := c563
      refine own_blk X61 B0_566_568 B0_566_568d (ls' := #[.val (.long c01), .second, .val (.long c23), .second, .val (.int at0), .val (.int sel), .val (.int jk), .val (.int k0), .val (.int k1), .val (.int k2), .val (.int k3), .val (.ref ca), .val (.int (1 : Int32)), .val (.int a), .val (.int b), .val (.int mi), .val (.int ot), .val (.int c1), .val (.int d1), .val (.ref oa), .val (.ref sa), .val (.ref wa), .val (.ref ka), .val (.int (1 : Int32)), .val (.int (1 : Int32))]) (st' := [(.ref oa)]) rfl ?_
      refine own_len X61 B61_oa d0_568 ?_
      show own_G p e below (T61.setTop (mkF m 569 #[.val (.long c01), .second, .val (.long c23), .second, .val (.int at0), .val (.int sel), .val (.int jk), .val (.int k0), .val (.int k1), .val (.int k2), .val (.int k3), .val (.ref ca), .val (.int (1 : Int32)), .val (.int a), .val (.int b), .val (.int mi), .val (.int ot), .val (.int c1), .val (.int d1), .val (.ref oa), .val (.ref sa), .val (.ref wa), .val (.ref ka), .val (.int (1 : Int32)), .val (.int (1 : Int32))] [(.int (1 : Int32))])) _
      refine own_blk X61 B0_569_571 B0_569_571d (ls' := #[.val (.long c01), .second, .val (.long c23), .second, .val (.int at0), .val (.int sel), .val (.int jk), .val (.int k0), .val (.int k1), .val (.int k2), .val (.int k3), .val (.ref ca), .val (.int (1 : Int32)), .val (.int a), .val (.int b), .val (.int mi), .val (.int ot), .val (.int c1), .val (.int d1), .val (.ref oa), .val (.ref sa), .val (.ref wa), .val (.ref ka), .val (.int (1 : Int32)), .val (.int (1 : Int32))]) (st' := [(.int (1 : Int32)), (.int (1 : Int32))]) rfl ?_
      refine own_icmp X61 d0_571 (pc' := 578) (by decide) (fun (c571 : ¬ (1 : Int) = 1) => by exfalso; omega) (fun c571 => ?_)
      have c571 : ¬ (¬ (1 : Int) = 1) := c571
      refine own_blk X61 B0_574_575 B0_574_575d (ls' := #[.val (.long c01), .second, .val (.long c23), .second, .val (.int at0), .val (.int sel), .val (.int jk), .val (.int k0), .val (.int k1), .val (.int k2), .val (.int k3), .val (.ref ca), .val (.int (1 : Int32)), .val (.int a), .val (.int b), .val (.int mi), .val (.int ot), .val (.int c1), .val (.int d1), .val (.ref oa), .val (.ref sa), .val (.ref wa), .val (.ref ka), .val (.int (1 : Int32)), .val (.int (1 : Int32))]) (st' := [(.int (1 : Int32))]) rfl ?_
      refine own_goto X61 d0_575 (pc' := 579) (by decide) ?_
      exact own_retN X61 (by simp) d0_579 (v' := (1 : Int32)) (rfl) (by decide) (by decide) (rfl)
    · skip
      refine own_blk X5 B0_166_168 B0_166_168d (ls' := #[.val (.long c01), .second, .val (.long c23), .second, .val (.int at0), .val (.int sel), .val (.int jk), .val (.int k0), .val (.int k1), .val (.int k2), .val (.int k3), .val (.ref ca), .val (.int (2 : Int32)), .val (.int a), .val (.int b), .val (.int mi), .val (.int ot), .val (.int c1), .val (.int d1), .unset, .unset, .unset, .unset, .unset, .unset]) (st' := [(.int (2 : Int32))]) rfl ?_
      refine own_if X5 d0_168 (pc' := 179) (by decide) (fun c168 => ?_) (fun (c168 : ¬ (¬ (2 : Int) = 0)) => by exfalso; omega)
      have c168 : ¬ (2 : Int) = 0 := c168
      refine own_blk X5 B0_179_182 B0_179_182d (ls' := #[.val (.long c01), .second, .val (.long c23), .second, .val (.int at0), .val (.int sel), .val (.int jk), .val (.int k0), .val (.int k1), .val (.int k2), .val (.int k3), .val (.ref ca), .val (.int (2 : Int32)), .val (.int a), .val (.int b), .val (.int mi), .val (.int ot), .val (.int c1), .val (.int d1), .unset, .unset, .unset, .unset, .unset, .unset]) (st' := [(.int (1 : Int32)), (.int (2 : Int32))]) rfl ?_
      refine own_icmp X5 d0_182 (pc' := 198) (by decide) (fun c182 => ?_) (fun (c182 : ¬ (¬ (2 : Int) = 1)) => by exfalso; omega)
      have c182 : ¬ (2 : Int) = 1 := c182
      refine own_blk X5 B0_198_201 B0_198_201d (ls' := #[.val (.long c01), .second, .val (.long c23), .second, .val (.int at0), .val (.int sel), .val (.int jk), .val (.int k0), .val (.int k1), .val (.int k2), .val (.int k3), .val (.ref ca), .val (.int (2 : Int32)), .val (.int a), .val (.int b), .val (.int mi), .val (.int ot), .val (.int c1), .val (.int d1), .unset, .unset, .unset, .unset, .unset, .unset]) (st' := [(.int (2 : Int32)), (.int (2 : Int32))]) rfl ?_
      refine own_icmp X5 d0_201 (pc' := 222) (by decide) (fun (c201 : ¬ (2 : Int) = 2) => by exfalso; omega) (fun c201 => ?_)
      have c201 : ¬ (¬ (2 : Int) = 2) := c201
      refine own_blk X5 B0_204_205 B0_204_205d (ls' := #[.val (.long c01), .second, .val (.long c23), .second, .val (.int at0), .val (.int sel), .val (.int jk), .val (.int k0), .val (.int k1), .val (.int k2), .val (.int k3), .val (.ref ca), .val (.int (2 : Int32)), .val (.int a), .val (.int b), .val (.int mi), .val (.int ot), .val (.int c1), .val (.int d1), .unset, .unset, .unset, .unset, .unset, .unset]) (st' := [(.int (2 : Int32))]) rfl ?_
      have lt_ca := own_A_lt A5
      refine own_newI X5 (hw _ (List.mem_of_getElem? (i := 0) rfl)) rfl d0_205 (by decide) 2 (by decide) (by decide) (by decide) (by decide) (fun h62 T62 X62 E62 A62 => ?_)
      have n_oa : n0 ≤ h5.size := X5.2.1
      have A62 : own_I Z h62 h5.size .int 2 (fun _ => (0 : Int32)) := A62
      generalize ez_oa : h5.size = oa at A62 n_oa lt_ca ⊢
      have A63 := own_I_ext A5 E62
      have ne_ca_oa : ca ≠ oa := Nat.ne_of_lt lt_ca
      show own_G p e below (T62.setTop (mkF m 207 #[.val (.long c01), .second, .val (.long c23), .second, .val (.int at0), .val (.int sel), .val (.int jk), .val (.int k0), .val (.int k1), .val (.int k2), .val (.int k3), .val (.ref ca), .val (.int (2 : Int32)), .val (.int a), .val (.int b), .val (.int mi), .val (.int ot), .val (.int c1), .val (.int d1), .unset, .unset, .unset, .unset, .unset, .unset] [(.ref oa)])) _
      refine own_blk X62 B0_207_211 B0_207_211d (ls' := #[.val (.long c01), .second, .val (.long c23), .second, .val (.int at0), .val (.int sel), .val (.int jk), .val (.int k0), .val (.int k1), .val (.int k2), .val (.int k3), .val (.ref ca), .val (.int (2 : Int32)), .val (.int a), .val (.int b), .val (.int mi), .val (.int ot), .val (.int c1), .val (.int d1), .unset, .unset, .unset, .unset, .unset, .unset]) (st' := [(.int a), (.int (0 : Int32)), (.ref oa), (.ref oa)]) rfl ?_
      refine own_iast X62 A62 n_oa d0_211 (by decide) (by decide)  (fun h64 T64 X64 A64 W64 => ?_)
      have A64 : own_I Z h64 oa .int 2 (own_u (fun _ => (0 : Int32)) (0) a) := A64
      generalize eg64 : own_u (fun _ => (0 : Int32)) (0) a = g64 at A64
      have A64_ca := own_I_other A63 W64 (by first | exact ne_ca_oa | exact fun q => ne_oa_ca q.symm)
      refine own_blk X64 B0_212_216 B0_212_216d (ls' := #[.val (.long c01), .second, .val (.long c23), .second, .val (.int at0), .val (.int sel), .val (.int jk), .val (.int k0), .val (.int k1), .val (.int k2), .val (.int k3), .val (.ref ca), .val (.int (2 : Int32)), .val (.int a), .val (.int b), .val (.int mi), .val (.int ot), .val (.int c1), .val (.int d1), .unset, .unset, .unset, .unset, .unset, .unset]) (st' := [(.int b), (.int (1 : Int32)), (.ref oa), (.ref oa)]) rfl ?_
      refine own_iast X64 A64 n_oa d0_216 (by decide) (by decide)  (fun h65 T65 X65 A65 W65 => ?_)
      have A65 : own_I Z h65 oa .int 2 (own_u g64 (1) b) := A65
      generalize eg65 : own_u g64 (1) b = g65 at A65
      have A65_ca := own_I_other A64_ca W65 (by first | exact ne_ca_oa | exact fun q => ne_oa_ca q.symm)
      refine own_blk X65 B0_217_219 B0_217_219d (ls' := #[.val (.long c01), .second, .val (.long c23), .second, .val (.int at0), .val (.int sel), .val (.int jk), .val (.int k0), .val (.int k1), .val (.int k2), .val (.int k3), .val (.ref ca), .val (.int (2 : Int32)), .val (.int a), .val (.int b), .val (.int mi), .val (.int ot), .val (.int c1), .val (.int d1), .val (.ref oa), .unset, .unset, .unset, .unset, .unset]) (st' := []) rfl ?_
      refine own_goto X65 d0_219 (pc' := 276) (by decide) ?_
      have o0 : g65 0 = a := by rw [← eg65, own_u_ne (by decide), ← eg64, own_u_eq rfl]
      have o1 : g65 1 = b := by rw [← eg65, own_u_eq rfl]
      refine own_blk X65 B0_276_277 B0_276_277d (ls' := #[.val (.long c01), .second, .val (.long c23), .second, .val (.int at0), .val (.int sel), .val (.int jk), .val (.int k0), .val (.int k1), .val (.int k2), .val (.int k3), .val (.ref ca), .val (.int (2 : Int32)), .val (.int a), .val (.int b), .val (.int mi), .val (.int ot), .val (.int c1), .val (.int d1), .val (.ref oa), .unset, .unset, .unset, .unset, .unset]) (st' := [(.int (4 : Int32))]) rfl ?_
      have lt_ca := own_A_lt A65_ca
      have lt_oa := own_A_lt A65
      refine own_newI X65 (hw _ (List.mem_of_getElem? (i := 0) rfl)) rfl d0_277 (by decide) 4 (by decide) (by decide) (by decide) (by decide) (fun h66 T66 X66 E66 A66 => ?_)
      have n_sa : n0 ≤ h65.size := X65.2.1
      have A66 : own_I Z h66 h65.size .int 4 (fun _ => (0 : Int32)) := A66
      generalize ez_sa : h65.size = sa at A66 n_sa lt_ca lt_oa ⊢
      have A67 := own_I_ext A65_ca E66
      have A68 := own_I_ext A65 E66
      have ne_ca_sa : ca ≠ sa := Nat.ne_of_lt lt_ca
      have ne_oa_sa : oa ≠ sa := Nat.ne_of_lt lt_oa
      show own_G p e below (T66.setTop (mkF m 279 #[.val (.long c01), .second, .val (.long c23), .second, .val (.int at0), .val (.int sel), .val (.int jk), .val (.int k0), .val (.int k1), .val (.int k2), .val (.int k3), .val (.ref ca), .val (.int (2 : Int32)), .val (.int a), .val (.int b), .val (.int mi), .val (.int ot), .val (.int c1), .val (.int d1), .val (.ref oa), .unset, .unset, .unset, .unset, .unset] [(.ref sa)])) _
      refine own_blk X66 B0_279_283 B0_279_283d (ls' := #[.val (.long c01), .second, .val (.long c23), .second, .val (.int at0), .val (.int sel), .val (.int jk), .val (.int k0), .val (.int k1), .val (.int k2), .val (.int k3), .val (.ref ca), .val (.int (2 : Int32)), .val (.int a), .val (.int b), .val (.int mi), .val (.int ot), .val (.int c1), .val (.int d1), .val (.ref oa), .unset, .unset, .unset, .unset, .unset]) (st' := [(.int jk), (.int (0 : Int32)), (.ref sa), (.ref sa)]) rfl ?_
      refine own_iast X66 A66 n_sa d0_283 (by decide) (by decide)  (fun h69 T69 X69 A69 W69 => ?_)
      have A69 : own_I Z h69 sa .int 4 (own_u (fun _ => (0 : Int32)) (0) jk) := A69
      generalize eg69 : own_u (fun _ => (0 : Int32)) (0) jk = g69 at A69
      have A69_ca := own_I_other A67 W69 (by first | exact ne_ca_sa | exact fun q => ne_sa_ca q.symm)
      have A69_oa := own_I_other A68 W69 (by first | exact ne_oa_sa | exact fun q => ne_sa_oa q.symm)
      refine own_blk X69 B0_284_290 B0_284_290d (ls' := #[.val (.long c01), .second, .val (.long c23), .second, .val (.int at0), .val (.int sel), .val (.int jk), .val (.int k0), .val (.int k1), .val (.int k2), .val (.int k3), .val (.ref ca), .val (.int (2 : Int32)), .val (.int a), .val (.int b), .val (.int mi), .val (.int ot), .val (.int c1), .val (.int d1), .val (.ref oa), .unset, .unset, .unset, .unset, .unset]) (st' := [(.int (jk + (1 : Int32))), (.int (1 : Int32)), (.ref sa), (.ref sa)]) rfl ?_
      refine own_iast X69 A69 n_sa d0_290 (by decide) (by decide)  (fun h70 T70 X70 A70 W70 => ?_)
      have A70 : own_I Z h70 sa .int 4 (own_u g69 (1) (jk + (1 : Int32))) := A70
      generalize eg70 : own_u g69 (1) (jk + (1 : Int32)) = g70 at A70
      have A70_ca := own_I_other A69_ca W70 (by first | exact ne_ca_sa | exact fun q => ne_sa_ca q.symm)
      have A70_oa := own_I_other A69_oa W70 (by first | exact ne_oa_sa | exact fun q => ne_sa_oa q.symm)
      refine own_blk X70 B0_291_297 B0_291_297d (ls' := #[.val (.long c01), .second, .val (.long c23), .second, .val (.int at0), .val (.int sel), .val (.int jk), .val (.int k0), .val (.int k1), .val (.int k2), .val (.int k3), .val (.ref ca), .val (.int (2 : Int32)), .val (.int a), .val (.int b), .val (.int mi), .val (.int ot), .val (.int c1), .val (.int d1), .val (.ref oa), .unset, .unset, .unset, .unset, .unset]) (st' := [(.int (jk + (2 : Int32))), (.int (2 : Int32)), (.ref sa), (.ref sa)]) rfl ?_
      refine own_iast X70 A70 n_sa d0_297 (by decide) (by decide)  (fun h71 T71 X71 A71 W71 => ?_)
      have A71 : own_I Z h71 sa .int 4 (own_u g70 (2) (jk + (2 : Int32))) := A71
      generalize eg71 : own_u g70 (2) (jk + (2 : Int32)) = g71 at A71
      have A71_ca := own_I_other A70_ca W71 (by first | exact ne_ca_sa | exact fun q => ne_sa_ca q.symm)
      have A71_oa := own_I_other A70_oa W71 (by first | exact ne_oa_sa | exact fun q => ne_sa_oa q.symm)
      refine own_blk X71 B0_298_304 B0_298_304d (ls' := #[.val (.long c01), .second, .val (.long c23), .second, .val (.int at0), .val (.int sel), .val (.int jk), .val (.int k0), .val (.int k1), .val (.int k2), .val (.int k3), .val (.ref ca), .val (.int (2 : Int32)), .val (.int a), .val (.int b), .val (.int mi), .val (.int ot), .val (.int c1), .val (.int d1), .val (.ref oa), .unset, .unset, .unset, .unset, .unset]) (st' := [(.int (jk + (3 : Int32))), (.int (3 : Int32)), (.ref sa), (.ref sa)]) rfl ?_
      refine own_iast X71 A71 n_sa d0_304 (by decide) (by decide)  (fun h72 T72 X72 A72 W72 => ?_)
      have A72 : own_I Z h72 sa .int 4 (own_u g71 (3) (jk + (3 : Int32))) := A72
      generalize eg72 : own_u g71 (3) (jk + (3 : Int32)) = g72 at A72
      have A72_ca := own_I_other A71_ca W72 (by first | exact ne_ca_sa | exact fun q => ne_sa_ca q.symm)
      have A72_oa := own_I_other A71_oa W72 (by first | exact ne_oa_sa | exact fun q => ne_sa_oa q.symm)
      refine own_blk X72 B0_305_308 B0_305_308d (ls' := #[.val (.long c01), .second, .val (.long c23), .second, .val (.int at0), .val (.int sel), .val (.int jk), .val (.int k0), .val (.int k1), .val (.int k2), .val (.int k3), .val (.ref ca), .val (.int (2 : Int32)), .val (.int a), .val (.int b), .val (.int mi), .val (.int ot), .val (.int c1), .val (.int d1), .val (.ref oa), .val (.ref sa), .unset, .unset, .unset, .unset]) (st' := [(.int (4 : Int32))]) rfl ?_
      have lt_ca := own_A_lt A72_ca
      have lt_oa := own_A_lt A72_oa
      have lt_sa := own_A_lt A72
      refine own_newI X72 (hw _ (List.mem_of_getElem? (i := 0) rfl)) rfl d0_308 (by decide) 4 (by decide) (by decide) (by decide) (by decide) (fun h73 T73 X73 E73 A73 => ?_)
      have n_wa : n0 ≤ h72.size := X72.2.1
      have A73 : own_I Z h73 h72.size .int 4 (fun _ => (0 : Int32)) := A73
      generalize ez_wa : h72.size = wa at A73 n_wa lt_ca lt_oa lt_sa ⊢
      have A74 := own_I_ext A72_ca E73
      have A75 := own_I_ext A72_oa E73
      have A76 := own_I_ext A72 E73
      have ne_ca_wa : ca ≠ wa := Nat.ne_of_lt lt_ca
      have ne_oa_wa : oa ≠ wa := Nat.ne_of_lt lt_oa
      have ne_sa_wa : sa ≠ wa := Nat.ne_of_lt lt_sa
      show own_G p e below (T73.setTop (mkF m 310 #[.val (.long c01), .second, .val (.long c23), .second, .val (.int at0), .val (.int sel), .val (.int jk), .val (.int k0), .val (.int k1), .val (.int k2), .val (.int k3), .val (.ref ca), .val (.int (2 : Int32)), .val (.int a), .val (.int b), .val (.int mi), .val (.int ot), .val (.int c1), .val (.int d1), .val (.ref oa), .val (.ref sa), .unset, .unset, .unset, .unset] [(.ref wa)])) _
      refine own_blk X73 B0_310_314 B0_310_314d (ls' := #[.val (.long c01), .second, .val (.long c23), .second, .val (.int at0), .val (.int sel), .val (.int jk), .val (.int k0), .val (.int k1), .val (.int k2), .val (.int k3), .val (.ref ca), .val (.int (2 : Int32)), .val (.int a), .val (.int b), .val (.int mi), .val (.int ot), .val (.int c1), .val (.int d1), .val (.ref oa), .val (.ref sa), .unset, .unset, .unset, .unset]) (st' := [(.int jk), (.int (0 : Int32)), (.ref wa), (.ref wa)]) rfl ?_
      refine own_iast X73 A73 n_wa d0_314 (by decide) (by decide)  (fun h77 T77 X77 A77 W77 => ?_)
      have A77 : own_I Z h77 wa .int 4 (own_u (fun _ => (0 : Int32)) (0) jk) := A77
      generalize eg77 : own_u (fun _ => (0 : Int32)) (0) jk = g77 at A77
      have A77_ca := own_I_other A74 W77 (by first | exact ne_ca_wa | exact fun q => ne_wa_ca q.symm)
      have A77_oa := own_I_other A75 W77 (by first | exact ne_oa_wa | exact fun q => ne_wa_oa q.symm)
      have A77_sa := own_I_other A76 W77 (by first | exact ne_sa_wa | exact fun q => ne_wa_sa q.symm)
      refine own_blk X77 B0_315_321 B0_315_321d (ls' := #[.val (.long c01), .second, .val (.long c23), .second, .val (.int at0), .val (.int sel), .val (.int jk), .val (.int k0), .val (.int k1), .val (.int k2), .val (.int k3), .val (.ref ca), .val (.int (2 : Int32)), .val (.int a), .val (.int b), .val (.int mi), .val (.int ot), .val (.int c1), .val (.int d1), .val (.ref oa), .val (.ref sa), .unset, .unset, .unset, .unset]) (st' := [(.int (jk + (1 : Int32))), (.int (1 : Int32)), (.ref wa), (.ref wa)]) rfl ?_
      refine own_iast X77 A77 n_wa d0_321 (by decide) (by decide)  (fun h78 T78 X78 A78 W78 => ?_)
      have A78 : own_I Z h78 wa .int 4 (own_u g77 (1) (jk + (1 : Int32))) := A78
      generalize eg78 : own_u g77 (1) (jk + (1 : Int32)) = g78 at A78
      have A78_ca := own_I_other A77_ca W78 (by first | exact ne_ca_wa | exact fun q => ne_wa_ca q.symm)
      have A78_oa := own_I_other A77_oa W78 (by first | exact ne_oa_wa | exact fun q => ne_wa_oa q.symm)
      have A78_sa := own_I_other A77_sa W78 (by first | exact ne_sa_wa | exact fun q => ne_wa_sa q.symm)
      refine own_blk X78 B0_322_328 B0_322_328d (ls' := #[.val (.long c01), .second, .val (.long c23), .second, .val (.int at0), .val (.int sel), .val (.int jk), .val (.int k0), .val (.int k1), .val (.int k2), .val (.int k3), .val (.ref ca), .val (.int (2 : Int32)), .val (.int a), .val (.int b), .val (.int mi), .val (.int ot), .val (.int c1), .val (.int d1), .val (.ref oa), .val (.ref sa), .unset, .unset, .unset, .unset]) (st' := [(.int (jk + (2 : Int32))), (.int (2 : Int32)), (.ref wa), (.ref wa)]) rfl ?_
      refine own_iast X78 A78 n_wa d0_328 (by decide) (by decide)  (fun h79 T79 X79 A79 W79 => ?_)
      have A79 : own_I Z h79 wa .int 4 (own_u g78 (2) (jk + (2 : Int32))) := A79
      generalize eg79 : own_u g78 (2) (jk + (2 : Int32)) = g79 at A79
      have A79_ca := own_I_other A78_ca W79 (by first | exact ne_ca_wa | exact fun q => ne_wa_ca q.symm)
      have A79_oa := own_I_other A78_oa W79 (by first | exact ne_oa_wa | exact fun q => ne_wa_oa q.symm)
      have A79_sa := own_I_other A78_sa W79 (by first | exact ne_sa_wa | exact fun q => ne_wa_sa q.symm)
      refine own_blk X79 B0_329_335 B0_329_335d (ls' := #[.val (.long c01), .second, .val (.long c23), .second, .val (.int at0), .val (.int sel), .val (.int jk), .val (.int k0), .val (.int k1), .val (.int k2), .val (.int k3), .val (.ref ca), .val (.int (2 : Int32)), .val (.int a), .val (.int b), .val (.int mi), .val (.int ot), .val (.int c1), .val (.int d1), .val (.ref oa), .val (.ref sa), .unset, .unset, .unset, .unset]) (st' := [(.int (jk + (3 : Int32))), (.int (3 : Int32)), (.ref wa), (.ref wa)]) rfl ?_
      refine own_iast X79 A79 n_wa d0_335 (by decide) (by decide)  (fun h80 T80 X80 A80 W80 => ?_)
      have A80 : own_I Z h80 wa .int 4 (own_u g79 (3) (jk + (3 : Int32))) := A80
      generalize eg80 : own_u g79 (3) (jk + (3 : Int32)) = g80 at A80
      have A80_ca := own_I_other A79_ca W80 (by first | exact ne_ca_wa | exact fun q => ne_wa_ca q.symm)
      have A80_oa := own_I_other A79_oa W80 (by first | exact ne_oa_wa | exact fun q => ne_wa_oa q.symm)
      have A80_sa := own_I_other A79_sa W80 (by first | exact ne_sa_wa | exact fun q => ne_wa_sa q.symm)
      refine own_blk X80 B0_336_339 B0_336_339d (ls' := #[.val (.long c01), .second, .val (.long c23), .second, .val (.int at0), .val (.int sel), .val (.int jk), .val (.int k0), .val (.int k1), .val (.int k2), .val (.int k3), .val (.ref ca), .val (.int (2 : Int32)), .val (.int a), .val (.int b), .val (.int mi), .val (.int ot), .val (.int c1), .val (.int d1), .val (.ref oa), .val (.ref sa), .val (.ref wa), .unset, .unset, .unset]) (st' := [(.int (4 : Int32))]) rfl ?_
      have lt_ca := own_A_lt A80_ca
      have lt_oa := own_A_lt A80_oa
      have lt_sa := own_A_lt A80_sa
      have lt_wa := own_A_lt A80
      refine own_newI X80 (hw _ (List.mem_of_getElem? (i := 0) rfl)) rfl d0_339 (by decide) 4 (by decide) (by decide) (by decide) (by decide) (fun h81 T81 X81 E81 A81 => ?_)
      have n_ka : n0 ≤ h80.size := X80.2.1
      have A81 : own_I Z h81 h80.size .int 4 (fun _ => (0 : Int32)) := A81
      generalize ez_ka : h80.size = ka at A81 n_ka lt_ca lt_oa lt_sa lt_wa ⊢
      have A82 := own_I_ext A80_ca E81
      have A83 := own_I_ext A80_oa E81
      have A84 := own_I_ext A80_sa E81
      have A85 := own_I_ext A80 E81
      have ne_ca_ka : ca ≠ ka := Nat.ne_of_lt lt_ca
      have ne_oa_ka : oa ≠ ka := Nat.ne_of_lt lt_oa
      have ne_sa_ka : sa ≠ ka := Nat.ne_of_lt lt_sa
      have ne_wa_ka : wa ≠ ka := Nat.ne_of_lt lt_wa
      show own_G p e below (T81.setTop (mkF m 341 #[.val (.long c01), .second, .val (.long c23), .second, .val (.int at0), .val (.int sel), .val (.int jk), .val (.int k0), .val (.int k1), .val (.int k2), .val (.int k3), .val (.ref ca), .val (.int (2 : Int32)), .val (.int a), .val (.int b), .val (.int mi), .val (.int ot), .val (.int c1), .val (.int d1), .val (.ref oa), .val (.ref sa), .val (.ref wa), .unset, .unset, .unset] [(.ref ka)])) _
      refine own_blk X81 B0_341_345 B0_341_345d (ls' := #[.val (.long c01), .second, .val (.long c23), .second, .val (.int at0), .val (.int sel), .val (.int jk), .val (.int k0), .val (.int k1), .val (.int k2), .val (.int k3), .val (.ref ca), .val (.int (2 : Int32)), .val (.int a), .val (.int b), .val (.int mi), .val (.int ot), .val (.int c1), .val (.int d1), .val (.ref oa), .val (.ref sa), .val (.ref wa), .unset, .unset, .unset]) (st' := [(.int k0), (.int (0 : Int32)), (.ref ka), (.ref ka)]) rfl ?_
      refine own_iast X81 A81 n_ka d0_345 (by decide) (by decide)  (fun h86 T86 X86 A86 W86 => ?_)
      have A86 : own_I Z h86 ka .int 4 (own_u (fun _ => (0 : Int32)) (0) k0) := A86
      generalize eg86 : own_u (fun _ => (0 : Int32)) (0) k0 = g86 at A86
      have A86_ca := own_I_other A82 W86 (by first | exact ne_ca_ka | exact fun q => ne_ka_ca q.symm)
      have A86_oa := own_I_other A83 W86 (by first | exact ne_oa_ka | exact fun q => ne_ka_oa q.symm)
      have A86_sa := own_I_other A84 W86 (by first | exact ne_sa_ka | exact fun q => ne_ka_sa q.symm)
      have A86_wa := own_I_other A85 W86 (by first | exact ne_wa_ka | exact fun q => ne_ka_wa q.symm)
      refine own_blk X86 B0_346_350 B0_346_350d (ls' := #[.val (.long c01), .second, .val (.long c23), .second, .val (.int at0), .val (.int sel), .val (.int jk), .val (.int k0), .val (.int k1), .val (.int k2), .val (.int k3), .val (.ref ca), .val (.int (2 : Int32)), .val (.int a), .val (.int b), .val (.int mi), .val (.int ot), .val (.int c1), .val (.int d1), .val (.ref oa), .val (.ref sa), .val (.ref wa), .unset, .unset, .unset]) (st' := [(.int k1), (.int (1 : Int32)), (.ref ka), (.ref ka)]) rfl ?_
      refine own_iast X86 A86 n_ka d0_350 (by decide) (by decide)  (fun h87 T87 X87 A87 W87 => ?_)
      have A87 : own_I Z h87 ka .int 4 (own_u g86 (1) k1) := A87
      generalize eg87 : own_u g86 (1) k1 = g87 at A87
      have A87_ca := own_I_other A86_ca W87 (by first | exact ne_ca_ka | exact fun q => ne_ka_ca q.symm)
      have A87_oa := own_I_other A86_oa W87 (by first | exact ne_oa_ka | exact fun q => ne_ka_oa q.symm)
      have A87_sa := own_I_other A86_sa W87 (by first | exact ne_sa_ka | exact fun q => ne_ka_sa q.symm)
      have A87_wa := own_I_other A86_wa W87 (by first | exact ne_wa_ka | exact fun q => ne_ka_wa q.symm)
      refine own_blk X87 B0_351_355 B0_351_355d (ls' := #[.val (.long c01), .second, .val (.long c23), .second, .val (.int at0), .val (.int sel), .val (.int jk), .val (.int k0), .val (.int k1), .val (.int k2), .val (.int k3), .val (.ref ca), .val (.int (2 : Int32)), .val (.int a), .val (.int b), .val (.int mi), .val (.int ot), .val (.int c1), .val (.int d1), .val (.ref oa), .val (.ref sa), .val (.ref wa), .unset, .unset, .unset]) (st' := [(.int k2), (.int (2 : Int32)), (.ref ka), (.ref ka)]) rfl ?_
      refine own_iast X87 A87 n_ka d0_355 (by decide) (by decide)  (fun h88 T88 X88 A88 W88 => ?_)
      have A88 : own_I Z h88 ka .int 4 (own_u g87 (2) k2) := A88
      generalize eg88 : own_u g87 (2) k2 = g88 at A88
      have A88_ca := own_I_other A87_ca W88 (by first | exact ne_ca_ka | exact fun q => ne_ka_ca q.symm)
      have A88_oa := own_I_other A87_oa W88 (by first | exact ne_oa_ka | exact fun q => ne_ka_oa q.symm)
      have A88_sa := own_I_other A87_sa W88 (by first | exact ne_sa_ka | exact fun q => ne_ka_sa q.symm)
      have A88_wa := own_I_other A87_wa W88 (by first | exact ne_wa_ka | exact fun q => ne_ka_wa q.symm)
      refine own_blk X88 B0_356_360 B0_356_360d (ls' := #[.val (.long c01), .second, .val (.long c23), .second, .val (.int at0), .val (.int sel), .val (.int jk), .val (.int k0), .val (.int k1), .val (.int k2), .val (.int k3), .val (.ref ca), .val (.int (2 : Int32)), .val (.int a), .val (.int b), .val (.int mi), .val (.int ot), .val (.int c1), .val (.int d1), .val (.ref oa), .val (.ref sa), .val (.ref wa), .unset, .unset, .unset]) (st' := [(.int k3), (.int (3 : Int32)), (.ref ka), (.ref ka)]) rfl ?_
      refine own_iast X88 A88 n_ka d0_360 (by decide) (by decide)  (fun h89 T89 X89 A89 W89 => ?_)
      have A89 : own_I Z h89 ka .int 4 (own_u g88 (3) k3) := A89
      generalize eg89 : own_u g88 (3) k3 = g89 at A89
      have A89_ca := own_I_other A88_ca W89 (by first | exact ne_ca_ka | exact fun q => ne_ka_ca q.symm)
      have A89_oa := own_I_other A88_oa W89 (by first | exact ne_oa_ka | exact fun q => ne_ka_oa q.symm)
      have A89_sa := own_I_other A88_sa W89 (by first | exact ne_sa_ka | exact fun q => ne_ka_sa q.symm)
      have A89_wa := own_I_other A88_wa W89 (by first | exact ne_wa_ka | exact fun q => ne_ka_wa q.symm)
      refine own_blk X89 B0_361_366 B0_361_366d (ls' := #[.val (.long c01), .second, .val (.long c23), .second, .val (.int at0), .val (.int sel), .val (.int jk), .val (.int k0), .val (.int k1), .val (.int k2), .val (.int k3), .val (.ref ca), .val (.int (2 : Int32)), .val (.int a), .val (.int b), .val (.int mi), .val (.int ot), .val (.int c1), .val (.int d1), .val (.ref oa), .val (.ref sa), .val (.ref wa), .val (.ref ka), .unset, .unset]) (st' := [(.int (1 : Int32)), (.int (2 : Int32))]) rfl ?_
      refine own_icmp X89 d0_366 (pc' := 376) (by decide) (fun (c366 : (2 : Int) < 1) => by exfalso; omega) (fun c366 => ?_)
      have c366 : ¬ ((2 : Int) < 1) := c366
      refine own_blk X89 B0_369_375 B0_369_375d (ls' := #[.val (.long c01), .second, .val (.long c23), .second, .val (.int at0), .val (.int sel), .val (.int jk), .val (.int k0), .val (.int k1), .val (.int k2), .val (.int k3), .val (.ref ca), .val (.int (2 : Int32)), .val (.int a), .val (.int b), .val (.int mi), .val (.int ot), .val (.int c1), .val (.int d1), .val (.ref oa), .val (.ref sa), .val (.ref wa), .val (.ref ka), .unset, .unset]) (st' := [(.int at0), (.int a), (.ref wa)]) rfl ?_
      refine own_iast X89 A89_wa n_wa d0_375 (by omega) (by omega)  (fun h90 T90 X90 A90 W90 => ?_)
      have A90 : own_I Z h90 wa .int 4 (own_u g80 (a.toInt) at0) := A90
      generalize eg90 : own_u g80 (a.toInt) at0 = g90 at A90
      have A90_ca := own_I_other A89_ca W90 (by first | exact ne_ca_wa | exact fun q => ne_wa_ca q.symm)
      have A90_oa := own_I_other A89_oa W90 (by first | exact ne_oa_wa | exact fun q => ne_wa_oa q.symm)
      have A90_sa := own_I_other A89_sa W90 (by first | exact ne_sa_wa | exact fun q => ne_wa_sa q.symm)
      have A90_ka := own_I_other A89 W90 (by first | exact ne_ka_wa | exact fun q => ne_wa_ka q.symm)
      refine own_blk X90 B0_376_379 B0_376_379d (ls' := #[.val (.long c01), .second, .val (.long c23), .second, .val (.int at0), .val (.int sel), .val (.int jk), .val (.int k0), .val (.int k1), .val (.int k2), .val (.int k3), .val (.ref ca), .val (.int (2 : Int32)), .val (.int a), .val (.int b), .val (.int mi), .val (.int ot), .val (.int c1), .val (.int d1), .val (.ref oa), .val (.ref sa), .val (.ref wa), .val (.ref ka), .unset, .unset]) (st' := [(.int (2 : Int32)), (.int (2 : Int32))]) rfl ?_
      refine own_icmp X90 d0_379 (pc' := 395) (by decide) (fun (c379 : (2 : Int) < 2) => by exfalso; omega) (fun c379 => ?_)
      have c379 : ¬ ((2 : Int) < 2) := c379
      refine own_blk X90 B0_382_392 B0_382_392d (ls' := #[.val (.long c01), .second, .val (.long c23), .second, .val (.int at0), .val (.int sel), .val (.int jk), .val (.int k0), .val (.int k1), .val (.int k2), .val (.int k3), .val (.ref ca), .val (.int (2 : Int32)), .val (.int a), .val (.int b), .val (.int mi), .val (.int ot), .val (.int c1), .val (.int d1), .val (.ref oa), .val (.ref sa), .val (.ref wa), .val (.ref ka), .unset, .unset]) (st' := [(.int a), (.ref ka), (.int at0), (.int b), (.ref wa)]) rfl ?_
      refine own_iald X90 A90_ka d0_392 (by omega) (by omega) ?_
      show own_G p e below (T90.setTop (mkF m 393 #[.val (.long c01), .second, .val (.long c23), .second, .val (.int at0), .val (.int sel), .val (.int jk), .val (.int k0), .val (.int k1), .val (.int k2), .val (.int k3), .val (.ref ca), .val (.int (2 : Int32)), .val (.int a), .val (.int b), .val (.int mi), .val (.int ot), .val (.int c1), .val (.int d1), .val (.ref oa), .val (.ref sa), .val (.ref wa), .val (.ref ka), .unset, .unset] [(.int (g89 a.toInt)), (.int at0), (.int b), (.ref wa)])) _
      refine own_blk X90 B0_393_394 B0_393_394d (ls' := #[.val (.long c01), .second, .val (.long c23), .second, .val (.int at0), .val (.int sel), .val (.int jk), .val (.int k0), .val (.int k1), .val (.int k2), .val (.int k3), .val (.ref ca), .val (.int (2 : Int32)), .val (.int a), .val (.int b), .val (.int mi), .val (.int ot), .val (.int c1), .val (.int d1), .val (.ref oa), .val (.ref sa), .val (.ref wa), .val (.ref ka), .unset, .unset]) (st' := [(.int (at0 + (g89 a.toInt))), (.int b), (.ref wa)]) rfl ?_
      refine own_iast X90 A90 n_wa d0_394 (by omega) (by omega)  (fun h91 T91 X91 A91 W91 => ?_)
      have A91 : own_I Z h91 wa .int 4 (own_u g90 (b.toInt) (at0 + (g89 a.toInt))) := A91
      generalize eg91 : own_u g90 (b.toInt) (at0 + (g89 a.toInt)) = g91 at A91
      have A91_ca := own_I_other A90_ca W91 (by first | exact ne_ca_wa | exact fun q => ne_wa_ca q.symm)
      have A91_oa := own_I_other A90_oa W91 (by first | exact ne_oa_wa | exact fun q => ne_wa_oa q.symm)
      have A91_sa := own_I_other A90_sa W91 (by first | exact ne_sa_wa | exact fun q => ne_wa_sa q.symm)
      have A91_ka := own_I_other A90_ka W91 (by first | exact ne_ka_wa | exact fun q => ne_wa_ka q.symm)
      refine own_blk X91 B0_395_398 B0_395_398d (ls' := #[.val (.long c01), .second, .val (.long c23), .second, .val (.int at0), .val (.int sel), .val (.int jk), .val (.int k0), .val (.int k1), .val (.int k2), .val (.int k3), .val (.ref ca), .val (.int (2 : Int32)), .val (.int a), .val (.int b), .val (.int mi), .val (.int ot), .val (.int c1), .val (.int d1), .val (.ref oa), .val (.ref sa), .val (.ref wa), .val (.ref ka), .unset, .unset]) (st' := [(.int (3 : Int32)), (.int (2 : Int32))]) rfl ?_
      refine own_icmp X91 d0_398 (pc' := 420) (by decide) (fun c398 => ?_) (fun (c398 : ¬ ((2 : Int) < 3)) => by exfalso; omega)
      have c398 : (2 : Int) < 3 := c398
      refine own_blk X91 B0_420_423 B0_420_423d (ls' := #[.val (.long c01), .second, .val (.long c23), .second, .val (.int at0), .val (.int sel), .val (.int jk), .val (.int k0), .val (.int k1), .val (.int k2), .val (.int k3), .val (.ref ca), .val (.int (2 : Int32)), .val (.int a), .val (.int b), .val (.int mi), .val (.int ot), .val (.int c1), .val (.int d1), .val (.ref oa), .val (.ref sa), .val (.ref wa), .val (.ref ka), .unset, .unset]) (st' := [(.int (4 : Int32)), (.int (2 : Int32))]) rfl ?_
      refine own_icmp X91 d0_423 (pc' := 451) (by decide) (fun c423 => ?_) (fun (c423 : ¬ ((2 : Int) < 4)) => by exfalso; omega)
      have c423 : (2 : Int) < 4 := c423
      refine own_blk X91 B0_451_459 B0_451_459d (ls' := #[.val (.long c01), .second, .val (.long c23), .second, .val (.int at0), .val (.int sel), .val (.int jk), .val (.int k0), .val (.int k1), .val (.int k2), .val (.int k3), .val (.ref ca), .val (.int (2 : Int32)), .val (.int a), .val (.int b), .val (.int mi), .val (.int ot), .val (.int c1), .val (.int d1), .val (.ref oa), .val (.ref sa), .val (.ref wa), .val (.ref ka), .unset, .unset]) (st' := [(.ref sa), (.int at0), (.ref oa), (.ref ca)]) rfl ?_
      have hSW : (own_u (own_u g72 (g65 0).toInt at0) (g65 1).toInt (at0 + (g5 (g65 0).toInt))) = g91 := by
        rw [o0, o1]
        subst eg91 eg90 eg89 eg88 eg87 eg86 eg80 eg79 eg78 eg77 eg72 eg71 eg70 eg69 eg5 eg4 eg3 eg2
        rfl
      refine own_callS X91 (hw _ (List.mem_of_getElem? (i := 1) rfl)) (hw _ (List.mem_of_getElem? (i := 2) rfl)) (hw _ (List.mem_of_getElem? (i := 3) rfl)) (hw _ (List.mem_of_getElem? (i := 4) rfl)) (by decide) (c_sb2 l Z a0 hw ca oa at0 sa g5 g65 g72 h91 n0 X91.2.1 A91_ca A91_oa A91_sa n_sa ne_ca_sa ne_oa_sa (by rw [o0]; omega) (by rw [o1]; omega)) d0_459 [(.ref ca), (.ref oa), (.int at0), (.ref sa)] [] rfl rfl pd1 rfl rfl (by decide) (Nat.le_of_ble_eq_true rfl) (by decide) (by decide) (fun _ _ q => Nat.le_trans X91.2.1 q.2.1.1) (fun v92 h92 T92 X92 q92 => ?_)
      obtain ⟨rfl, K92, As92⟩ := q92
      show own_G p e below (T92.setTop (mkF m 462 #[.val (.long c01), .second, .val (.long c23), .second, .val (.int at0), .val (.int sel), .val (.int jk), .val (.int k0), .val (.int k1), .val (.int k2), .val (.int k3), .val (.ref ca), .val (.int (2 : Int32)), .val (.int a), .val (.int b), .val (.int mi), .val (.int ot), .val (.int c1), .val (.int d1), .val (.ref oa), .val (.ref sa), .val (.ref wa), .val (.ref ka), .unset, .unset] [])) _
      rw [hSW] at As92
      have B92_ca := own_I_keep A91_ca K92 (by simp; exact ne_ca_sa)
      have B92_oa := own_I_keep A91_oa K92 (by simp; exact ne_oa_sa)
      have B92_wa := own_I_keep A91 K92 (by simp; exact fun q => ne_sa_wa q.symm)
      refine own_blk X92 B0_462_465 B0_462_465d (ls' := #[.val (.long c01), .second, .val (.long c23), .second, .val (.int at0), .val (.int sel), .val (.int jk), .val (.int k0), .val (.int k1), .val (.int k2), .val (.int k3), .val (.ref ca), .val (.int (2 : Int32)), .val (.int a), .val (.int b), .val (.int mi), .val (.int ot), .val (.int c1), .val (.int d1), .val (.ref oa), .val (.ref sa), .val (.ref wa), .val (.ref ka), .unset, .unset]) (st' := [(.int (0 : Int32)), (.ref sa)]) rfl ?_
      refine own_iald X92 As92 d0_465 (by decide) (by decide) ?_
      show own_G p e below (T92.setTop (mkF m 466 #[.val (.long c01), .second, .val (.long c23), .second, .val (.int at0), .val (.int sel), .val (.int jk), .val (.int k0), .val (.int k1), .val (.int k2), .val (.int k3), .val (.ref ca), .val (.int (2 : Int32)), .val (.int a), .val (.int b), .val (.int mi), .val (.int ot), .val (.int c1), .val (.int d1), .val (.ref oa), .val (.ref sa), .val (.ref wa), .val (.ref ka), .unset, .unset] [(.int (g91 0))])) _
      refine own_blk X92 B0_466_469 B0_466_469d (ls' := #[.val (.long c01), .second, .val (.long c23), .second, .val (.int at0), .val (.int sel), .val (.int jk), .val (.int k0), .val (.int k1), .val (.int k2), .val (.int k3), .val (.ref ca), .val (.int (2 : Int32)), .val (.int a), .val (.int b), .val (.int mi), .val (.int ot), .val (.int c1), .val (.int d1), .val (.ref oa), .val (.ref sa), .val (.ref wa), .val (.ref ka), .unset, .unset]) (st' := [(.int (0 : Int32)), (.ref wa), (.int (g91 0))]) rfl ?_
      refine own_iald X92 B92_wa d0_469 (by decide) (by decide) ?_
      show own_G p e below (T92.setTop (mkF m 470 #[.val (.long c01), .second, .val (.long c23), .second, .val (.int at0), .val (.int sel), .val (.int jk), .val (.int k0), .val (.int k1), .val (.int k2), .val (.int k3), .val (.ref ca), .val (.int (2 : Int32)), .val (.int a), .val (.int b), .val (.int mi), .val (.int ot), .val (.int c1), .val (.int d1), .val (.ref oa), .val (.ref sa), .val (.ref wa), .val (.ref ka), .unset, .unset] [(.int (g91 0)), (.int (g91 0))])) _
      refine own_icmp X92 d0_470 (pc' := 510) (by decide) (fun (c470 : ¬ (g91 0).toInt = (g91 0).toInt) => by exfalso; exact c470 rfl) (fun c470 => ?_)
      have c470 : ¬ (¬ (g91 0).toInt = (g91 0).toInt) := c470
      refine own_blk X92 B0_473_476 B0_473_476d (ls' := #[.val (.long c01), .second, .val (.long c23), .second, .val (.int at0), .val (.int sel), .val (.int jk), .val (.int k0), .val (.int k1), .val (.int k2), .val (.int k3), .val (.ref ca), .val (.int (2 : Int32)), .val (.int a), .val (.int b), .val (.int mi), .val (.int ot), .val (.int c1), .val (.int d1), .val (.ref oa), .val (.ref sa), .val (.ref wa), .val (.ref ka), .unset, .unset]) (st' := [(.int (1 : Int32)), (.ref sa)]) rfl ?_
      refine own_iald X92 As92 d0_476 (by decide) (by decide) ?_
      show own_G p e below (T92.setTop (mkF m 477 #[.val (.long c01), .second, .val (.long c23), .second, .val (.int at0), .val (.int sel), .val (.int jk), .val (.int k0), .val (.int k1), .val (.int k2), .val (.int k3), .val (.ref ca), .val (.int (2 : Int32)), .val (.int a), .val (.int b), .val (.int mi), .val (.int ot), .val (.int c1), .val (.int d1), .val (.ref oa), .val (.ref sa), .val (.ref wa), .val (.ref ka), .unset, .unset] [(.int (g91 1))])) _
      refine own_blk X92 B0_477_480 B0_477_480d (ls' := #[.val (.long c01), .second, .val (.long c23), .second, .val (.int at0), .val (.int sel), .val (.int jk), .val (.int k0), .val (.int k1), .val (.int k2), .val (.int k3), .val (.ref ca), .val (.int (2 : Int32)), .val (.int a), .val (.int b), .val (.int mi), .val (.int ot), .val (.int c1), .val (.int d1), .val (.ref oa), .val (.ref sa), .val (.ref wa), .val (.ref ka), .unset, .unset]) (st' := [(.int (1 : Int32)), (.ref wa), (.int (g91 1))]) rfl ?_
      refine own_iald X92 B92_wa d0_480 (by decide) (by decide) ?_
      show own_G p e below (T92.setTop (mkF m 481 #[.val (.long c01), .second, .val (.long c23), .second, .val (.int at0), .val (.int sel), .val (.int jk), .val (.int k0), .val (.int k1), .val (.int k2), .val (.int k3), .val (.ref ca), .val (.int (2 : Int32)), .val (.int a), .val (.int b), .val (.int mi), .val (.int ot), .val (.int c1), .val (.int d1), .val (.ref oa), .val (.ref sa), .val (.ref wa), .val (.ref ka), .unset, .unset] [(.int (g91 1)), (.int (g91 1))])) _
      refine own_icmp X92 d0_481 (pc' := 510) (by decide) (fun (c481 : ¬ (g91 1).toInt = (g91 1).toInt) => by exfalso; exact c481 rfl) (fun c481 => ?_)
      have c481 : ¬ (¬ (g91 1).toInt = (g91 1).toInt) := c481
      refine own_blk X92 B0_484_487 B0_484_487d (ls' := #[.val (.long c01), .second, .val (.long c23), .second, .val (.int at0), .val (.int sel), .val (.int jk), .val (.int k0), .val (.int k1), .val (.int k2), .val (.int k3), .val (.ref ca), .val (.int (2 : Int32)), .val (.int a), .val (.int b), .val (.int mi), .val (.int ot), .val (.int c1), .val (.int d1), .val (.ref oa), .val (.ref sa), .val (.ref wa), .val (.ref ka), .unset, .unset]) (st' := [(.int (2 : Int32)), (.ref sa)]) rfl ?_
      refine own_iald X92 As92 d0_487 (by decide) (by decide) ?_
      show own_G p e below (T92.setTop (mkF m 488 #[.val (.long c01), .second, .val (.long c23), .second, .val (.int at0), .val (.int sel), .val (.int jk), .val (.int k0), .val (.int k1), .val (.int k2), .val (.int k3), .val (.ref ca), .val (.int (2 : Int32)), .val (.int a), .val (.int b), .val (.int mi), .val (.int ot), .val (.int c1), .val (.int d1), .val (.ref oa), .val (.ref sa), .val (.ref wa), .val (.ref ka), .unset, .unset] [(.int (g91 2))])) _
      refine own_blk X92 B0_488_491 B0_488_491d (ls' := #[.val (.long c01), .second, .val (.long c23), .second, .val (.int at0), .val (.int sel), .val (.int jk), .val (.int k0), .val (.int k1), .val (.int k2), .val (.int k3), .val (.ref ca), .val (.int (2 : Int32)), .val (.int a), .val (.int b), .val (.int mi), .val (.int ot), .val (.int c1), .val (.int d1), .val (.ref oa), .val (.ref sa), .val (.ref wa), .val (.ref ka), .unset, .unset]) (st' := [(.int (2 : Int32)), (.ref wa), (.int (g91 2))]) rfl ?_
      refine own_iald X92 B92_wa d0_491 (by decide) (by decide) ?_
      show own_G p e below (T92.setTop (mkF m 492 #[.val (.long c01), .second, .val (.long c23), .second, .val (.int at0), .val (.int sel), .val (.int jk), .val (.int k0), .val (.int k1), .val (.int k2), .val (.int k3), .val (.ref ca), .val (.int (2 : Int32)), .val (.int a), .val (.int b), .val (.int mi), .val (.int ot), .val (.int c1), .val (.int d1), .val (.ref oa), .val (.ref sa), .val (.ref wa), .val (.ref ka), .unset, .unset] [(.int (g91 2)), (.int (g91 2))])) _
      refine own_icmp X92 d0_492 (pc' := 510) (by decide) (fun (c492 : ¬ (g91 2).toInt = (g91 2).toInt) => by exfalso; exact c492 rfl) (fun c492 => ?_)
      have c492 : ¬ (¬ (g91 2).toInt = (g91 2).toInt) := c492
      refine own_blk X92 B0_495_498 B0_495_498d (ls' := #[.val (.long c01), .second, .val (.long c23), .second, .val (.int at0), .val (.int sel), .val (.int jk), .val (.int k0), .val (.int k1), .val (.int k2), .val (.int k3), .val (.ref ca), .val (.int (2 : Int32)), .val (.int a), .val (.int b), .val (.int mi), .val (.int ot), .val (.int c1), .val (.int d1), .val (.ref oa), .val (.ref sa), .val (.ref wa), .val (.ref ka), .unset, .unset]) (st' := [(.int (3 : Int32)), (.ref sa)]) rfl ?_
      refine own_iald X92 As92 d0_498 (by decide) (by decide) ?_
      show own_G p e below (T92.setTop (mkF m 499 #[.val (.long c01), .second, .val (.long c23), .second, .val (.int at0), .val (.int sel), .val (.int jk), .val (.int k0), .val (.int k1), .val (.int k2), .val (.int k3), .val (.ref ca), .val (.int (2 : Int32)), .val (.int a), .val (.int b), .val (.int mi), .val (.int ot), .val (.int c1), .val (.int d1), .val (.ref oa), .val (.ref sa), .val (.ref wa), .val (.ref ka), .unset, .unset] [(.int (g91 3))])) _
      refine own_blk X92 B0_499_502 B0_499_502d (ls' := #[.val (.long c01), .second, .val (.long c23), .second, .val (.int at0), .val (.int sel), .val (.int jk), .val (.int k0), .val (.int k1), .val (.int k2), .val (.int k3), .val (.ref ca), .val (.int (2 : Int32)), .val (.int a), .val (.int b), .val (.int mi), .val (.int ot), .val (.int c1), .val (.int d1), .val (.ref oa), .val (.ref sa), .val (.ref wa), .val (.ref ka), .unset, .unset]) (st' := [(.int (3 : Int32)), (.ref wa), (.int (g91 3))]) rfl ?_
      refine own_iald X92 B92_wa d0_502 (by decide) (by decide) ?_
      show own_G p e below (T92.setTop (mkF m 503 #[.val (.long c01), .second, .val (.long c23), .second, .val (.int at0), .val (.int sel), .val (.int jk), .val (.int k0), .val (.int k1), .val (.int k2), .val (.int k3), .val (.ref ca), .val (.int (2 : Int32)), .val (.int a), .val (.int b), .val (.int mi), .val (.int ot), .val (.int c1), .val (.int d1), .val (.ref oa), .val (.ref sa), .val (.ref wa), .val (.ref ka), .unset, .unset] [(.int (g91 3)), (.int (g91 3))])) _
      refine own_icmp X92 d0_503 (pc' := 510) (by decide) (fun (c503 : ¬ (g91 3).toInt = (g91 3).toInt) => by exfalso; exact c503 rfl) (fun c503 => ?_)
      have c503 : ¬ (¬ (g91 3).toInt = (g91 3).toInt) := c503
      refine own_blk X92 B0_506_507 B0_506_507d (ls' := #[.val (.long c01), .second, .val (.long c23), .second, .val (.int at0), .val (.int sel), .val (.int jk), .val (.int k0), .val (.int k1), .val (.int k2), .val (.int k3), .val (.ref ca), .val (.int (2 : Int32)), .val (.int a), .val (.int b), .val (.int mi), .val (.int ot), .val (.int c1), .val (.int d1), .val (.ref oa), .val (.ref sa), .val (.ref wa), .val (.ref ka), .unset, .unset]) (st' := [(.int (1 : Int32))]) rfl ?_
      refine own_goto X92 d0_507 (pc' := 511) (by decide) ?_
      refine own_blk X92 B0_511_516 B0_511_516d (ls' := #[.val (.long c01), .second, .val (.long c23), .second, .val (.int at0), .val (.int sel), .val (.int jk), .val (.int k0), .val (.int k1), .val (.int k2), .val (.int k3), .val (.ref ca), .val (.int (2 : Int32)), .val (.int a), .val (.int b), .val (.int mi), .val (.int ot), .val (.int c1), .val (.int d1), .val (.ref oa), .val (.ref sa), .val (.ref wa), .val (.ref ka), .val (.int (1 : Int32)), .unset]) (st' := [(.int (0 : Int32)), (.ref ca)]) rfl ?_
      refine own_iald X92 B92_ca d0_516 (by decide) (by decide) ?_
      show own_G p e below (T92.setTop (mkF m 517 #[.val (.long c01), .second, .val (.long c23), .second, .val (.int at0), .val (.int sel), .val (.int jk), .val (.int k0), .val (.int k1), .val (.int k2), .val (.int k3), .val (.ref ca), .val (.int (2 : Int32)), .val (.int a), .val (.int b), .val (.int mi), .val (.int ot), .val (.int c1), .val (.int d1), .val (.ref oa), .val (.ref sa), .val (.ref wa), .val (.ref ka), .val (.int (1 : Int32)), .unset] [(.int (g5 0))])) _
      refine own_blk X92 B0_517_519 B0_517_519d (ls' := #[.val (.long c01), .second, .val (.long c23), .second, .val (.int at0), .val (.int sel), .val (.int jk), .val (.int k0), .val (.int k1), .val (.int k2), .val (.int k3), .val (.ref ca), .val (.int (2 : Int32)), .val (.int a), .val (.int b), .val (.int mi), .val (.int ot), .val (.int c1), .val (.int d1), .val (.ref oa), .val (.ref sa), .val (.ref wa), .val (.ref ka), .val (.int (1 : Int32)), .unset]) (st' := [(.int k0), (.int (g5 0))]) rfl ?_
      refine own_icmp X92 d0_519 (pc' := 553) (by decide) (fun (c519 : ¬ (g5 0).toInt = k0.toInt) => by exfalso; exact c519 (by rw [← eg5, own_u_ne (by decide), ← eg4, own_u_ne (by decide), ← eg3, own_u_ne (by decide), ← eg2, own_u_eq rfl])) (fun c519 => ?_)
      have c519 : ¬ (¬ (g5 0).toInt = k0.toInt) := c519
      refine own_blk X92 B0_522_525 B0_522_525d (ls' := #[.val (.long c01), .second, .val (.long c23), .second, .val (.int at0), .val (.int sel), .val (.int jk), .val (.int k0), .val (.int k1), .val (.int k2), .val (.int k3), .val (.ref ca), .val (.int (2 : Int32)), .val (.int a), .val (.int b), .val (.int mi), .val (.int ot), .val (.int c1), .val (.int d1), .val (.ref oa), .val (.ref sa), .val (.ref wa), .val (.ref ka), .val (.int (1 : Int32)), .unset]) (st' := [(.int (1 : Int32)), (.ref ca)]) rfl ?_
      refine own_iald X92 B92_ca d0_525 (by decide) (by decide) ?_
      show own_G p e below (T92.setTop (mkF m 526 #[.val (.long c01), .second, .val (.long c23), .second, .val (.int at0), .val (.int sel), .val (.int jk), .val (.int k0), .val (.int k1), .val (.int k2), .val (.int k3), .val (.ref ca), .val (.int (2 : Int32)), .val (.int a), .val (.int b), .val (.int mi), .val (.int ot), .val (.int c1), .val (.int d1), .val (.ref oa), .val (.ref sa), .val (.ref wa), .val (.ref ka), .val (.int (1 : Int32)), .unset] [(.int (g5 1))])) _
      refine own_blk X92 B0_526_528 B0_526_528d (ls' := #[.val (.long c01), .second, .val (.long c23), .second, .val (.int at0), .val (.int sel), .val (.int jk), .val (.int k0), .val (.int k1), .val (.int k2), .val (.int k3), .val (.ref ca), .val (.int (2 : Int32)), .val (.int a), .val (.int b), .val (.int mi), .val (.int ot), .val (.int c1), .val (.int d1), .val (.ref oa), .val (.ref sa), .val (.ref wa), .val (.ref ka), .val (.int (1 : Int32)), .unset]) (st' := [(.int k1), (.int (g5 1))]) rfl ?_
      refine own_icmp X92 d0_528 (pc' := 553) (by decide) (fun (c528 : ¬ (g5 1).toInt = k1.toInt) => by exfalso; exact c528 (by rw [← eg5, own_u_ne (by decide), ← eg4, own_u_ne (by decide), ← eg3, own_u_eq rfl])) (fun c528 => ?_)
      have c528 : ¬ (¬ (g5 1).toInt = k1.toInt) := c528
      refine own_blk X92 B0_531_534 B0_531_534d (ls' := #[.val (.long c01), .second, .val (.long c23), .second, .val (.int at0), .val (.int sel), .val (.int jk), .val (.int k0), .val (.int k1), .val (.int k2), .val (.int k3), .val (.ref ca), .val (.int (2 : Int32)), .val (.int a), .val (.int b), .val (.int mi), .val (.int ot), .val (.int c1), .val (.int d1), .val (.ref oa), .val (.ref sa), .val (.ref wa), .val (.ref ka), .val (.int (1 : Int32)), .unset]) (st' := [(.int (2 : Int32)), (.ref ca)]) rfl ?_
      refine own_iald X92 B92_ca d0_534 (by decide) (by decide) ?_
      show own_G p e below (T92.setTop (mkF m 535 #[.val (.long c01), .second, .val (.long c23), .second, .val (.int at0), .val (.int sel), .val (.int jk), .val (.int k0), .val (.int k1), .val (.int k2), .val (.int k3), .val (.ref ca), .val (.int (2 : Int32)), .val (.int a), .val (.int b), .val (.int mi), .val (.int ot), .val (.int c1), .val (.int d1), .val (.ref oa), .val (.ref sa), .val (.ref wa), .val (.ref ka), .val (.int (1 : Int32)), .unset] [(.int (g5 2))])) _
      refine own_blk X92 B0_535_537 B0_535_537d (ls' := #[.val (.long c01), .second, .val (.long c23), .second, .val (.int at0), .val (.int sel), .val (.int jk), .val (.int k0), .val (.int k1), .val (.int k2), .val (.int k3), .val (.ref ca), .val (.int (2 : Int32)), .val (.int a), .val (.int b), .val (.int mi), .val (.int ot), .val (.int c1), .val (.int d1), .val (.ref oa), .val (.ref sa), .val (.ref wa), .val (.ref ka), .val (.int (1 : Int32)), .unset]) (st' := [(.int k2), (.int (g5 2))]) rfl ?_
      refine own_icmp X92 d0_537 (pc' := 553) (by decide) (fun (c537 : ¬ (g5 2).toInt = k2.toInt) => by exfalso; exact c537 (by rw [← eg5, own_u_ne (by decide), ← eg4, own_u_eq rfl])) (fun c537 => ?_)
      have c537 : ¬ (¬ (g5 2).toInt = k2.toInt) := c537
      refine own_blk X92 B0_540_543 B0_540_543d (ls' := #[.val (.long c01), .second, .val (.long c23), .second, .val (.int at0), .val (.int sel), .val (.int jk), .val (.int k0), .val (.int k1), .val (.int k2), .val (.int k3), .val (.ref ca), .val (.int (2 : Int32)), .val (.int a), .val (.int b), .val (.int mi), .val (.int ot), .val (.int c1), .val (.int d1), .val (.ref oa), .val (.ref sa), .val (.ref wa), .val (.ref ka), .val (.int (1 : Int32)), .unset]) (st' := [(.int (3 : Int32)), (.ref ca)]) rfl ?_
      refine own_iald X92 B92_ca d0_543 (by decide) (by decide) ?_
      show own_G p e below (T92.setTop (mkF m 544 #[.val (.long c01), .second, .val (.long c23), .second, .val (.int at0), .val (.int sel), .val (.int jk), .val (.int k0), .val (.int k1), .val (.int k2), .val (.int k3), .val (.ref ca), .val (.int (2 : Int32)), .val (.int a), .val (.int b), .val (.int mi), .val (.int ot), .val (.int c1), .val (.int d1), .val (.ref oa), .val (.ref sa), .val (.ref wa), .val (.ref ka), .val (.int (1 : Int32)), .unset] [(.int (g5 3))])) _
      refine own_blk X92 B0_544_546 B0_544_546d (ls' := #[.val (.long c01), .second, .val (.long c23), .second, .val (.int at0), .val (.int sel), .val (.int jk), .val (.int k0), .val (.int k1), .val (.int k2), .val (.int k3), .val (.ref ca), .val (.int (2 : Int32)), .val (.int a), .val (.int b), .val (.int mi), .val (.int ot), .val (.int c1), .val (.int d1), .val (.ref oa), .val (.ref sa), .val (.ref wa), .val (.ref ka), .val (.int (1 : Int32)), .unset]) (st' := [(.int k3), (.int (g5 3))]) rfl ?_
      refine own_icmp X92 d0_546 (pc' := 553) (by decide) (fun (c546 : ¬ (g5 3).toInt = k3.toInt) => by exfalso; exact c546 (by rw [← eg5, own_u_eq rfl])) (fun c546 => ?_)
      have c546 : ¬ (¬ (g5 3).toInt = k3.toInt) := c546
      refine own_blk X92 B0_549_550 B0_549_550d (ls' := #[.val (.long c01), .second, .val (.long c23), .second, .val (.int at0), .val (.int sel), .val (.int jk), .val (.int k0), .val (.int k1), .val (.int k2), .val (.int k3), .val (.ref ca), .val (.int (2 : Int32)), .val (.int a), .val (.int b), .val (.int mi), .val (.int ot), .val (.int c1), .val (.int d1), .val (.ref oa), .val (.ref sa), .val (.ref wa), .val (.ref ka), .val (.int (1 : Int32)), .unset]) (st' := [(.int (1 : Int32))]) rfl ?_
      refine own_goto X92 d0_550 (pc' := 554) (by decide) ?_
      refine own_blk X92 B0_554_558 B0_554_558d (ls' := #[.val (.long c01), .second, .val (.long c23), .second, .val (.int at0), .val (.int sel), .val (.int jk), .val (.int k0), .val (.int k1), .val (.int k2), .val (.int k3), .val (.ref ca), .val (.int (2 : Int32)), .val (.int a), .val (.int b), .val (.int mi), .val (.int ot), .val (.int c1), .val (.int d1), .val (.ref oa), .val (.ref sa), .val (.ref wa), .val (.ref ka), .val (.int (1 : Int32)), .val (.int (1 : Int32))]) (st' := [(.int (1 : Int32))]) rfl ?_
      refine own_if X92 d0_558 (pc' := 578) (by decide) (fun (c558 : (1 : Int) = 0) => by exfalso; omega) (fun c558 => ?_)
      have c558 : ¬ ((1 : Int) = 0) := c558
      refine own_blk X92 B0_561_563 B0_561_563d (ls' := #[.val (.long c01), .second, .val (.long c23), .second, .val (.int at0), .val (.int sel), .val (.int jk), .val (.int k0), .val (.int k1), .val (.int k2), .val (.int k3), .val (.ref ca), .val (.int (2 : Int32)), .val (.int a), .val (.int b), .val (.int mi), .val (.int ot), .val (.int c1), .val (.int d1), .val (.ref oa), .val (.ref sa), .val (.ref wa), .val (.ref ka), .val (.int (1 : Int32)), .val (.int (1 : Int32))]) (st' := [(.int (1 : Int32))]) rfl ?_
      refine own_if X92 d0_563 (pc' := 578) (by decide) (fun (c563 : (1 : Int) = 0) => by exfalso; omega) (fun c563 => ?_)
      have c563 : ¬ ((1 : Int) = 0) := c563
      refine own_blk X92 B0_566_568 B0_566_568d (ls' := #[.val (.long c01), .second, .val (.long c23), .second, .val (.int at0), .val (.int sel), .val (.int jk), .val (.int k0), .val (.int k1), .val (.int k2), .val (.int k3), .val (.ref ca), .val (.int (2 : Int32)), .val (.int a), .val (.int b), .val (.int mi), .val (.int ot), .val (.int c1), .val (.int d1), .val (.ref oa), .val (.ref sa), .val (.ref wa), .val (.ref ka), .val (.int (1 : Int32)), .val (.int (1 : Int32))]) (st' := [(.ref oa)]) rfl ?_
      refine own_len X92 B92_oa d0_568 ?_
      show own_G p e below (T92.setTop (mkF m 569 #[.val (.long c01), .second, .val (.long c23), .second, .val (.int at0), .val (.int sel), .val (.int jk), .val (.int k0), .val (.int k1), .val (.int k2), .val (.int k3), .val (.ref ca), .val (.int (2 : Int32)), .val (.int a), .val (.int b), .val (.int mi), .val (.int ot), .val (.int c1), .val (.int d1), .val (.ref oa), .val (.ref sa), .val (.ref wa), .val (.ref ka), .val (.int (1 : Int32)), .val (.int (1 : Int32))] [(.int (2 : Int32))])) _
      refine own_blk X92 B0_569_571 B0_569_571d (ls' := #[.val (.long c01), .second, .val (.long c23), .second, .val (.int at0), .val (.int sel), .val (.int jk), .val (.int k0), .val (.int k1), .val (.int k2), .val (.int k3), .val (.ref ca), .val (.int (2 : Int32)), .val (.int a), .val (.int b), .val (.int mi), .val (.int ot), .val (.int c1), .val (.int d1), .val (.ref oa), .val (.ref sa), .val (.ref wa), .val (.ref ka), .val (.int (1 : Int32)), .val (.int (1 : Int32))]) (st' := [(.int (2 : Int32)), (.int (2 : Int32))]) rfl ?_
      refine own_icmp X92 d0_571 (pc' := 578) (by decide) (fun (c571 : ¬ (2 : Int) = 2) => by exfalso; omega) (fun c571 => ?_)
      have c571 : ¬ (¬ (2 : Int) = 2) := c571
      refine own_blk X92 B0_574_575 B0_574_575d (ls' := #[.val (.long c01), .second, .val (.long c23), .second, .val (.int at0), .val (.int sel), .val (.int jk), .val (.int k0), .val (.int k1), .val (.int k2), .val (.int k3), .val (.ref ca), .val (.int (2 : Int32)), .val (.int a), .val (.int b), .val (.int mi), .val (.int ot), .val (.int c1), .val (.int d1), .val (.ref oa), .val (.ref sa), .val (.ref wa), .val (.ref ka), .val (.int (1 : Int32)), .val (.int (1 : Int32))]) (st' := [(.int (1 : Int32))]) rfl ?_
      refine own_goto X92 d0_575 (pc' := 579) (by decide) ?_
      exact own_retN X92 (by simp) d0_579 (v' := (1 : Int32)) (rfl) (by decide) (by decide) (rfl)
    · skip
      refine own_blk X5 B0_166_168 B0_166_168d (ls' := #[.val (.long c01), .second, .val (.long c23), .second, .val (.int at0), .val (.int sel), .val (.int jk), .val (.int k0), .val (.int k1), .val (.int k2), .val (.int k3), .val (.ref ca), .val (.int (3 : Int32)), .val (.int a), .val (.int b), .val (.int mi), .val (.int ot), .val (.int c1), .val (.int d1), .unset, .unset, .unset, .unset, .unset, .unset]) (st' := [(.int (3 : Int32))]) rfl ?_
      refine own_if X5 d0_168 (pc' := 179) (by decide) (fun c168 => ?_) (fun (c168 : ¬ (¬ (3 : Int) = 0)) => by exfalso; omega)
      have c168 : ¬ (3 : Int) = 0 := c168
      refine own_blk X5 B0_179_182 B0_179_182d (ls' := #[.val (.long c01), .second, .val (.long c23), .second, .val (.int at0), .val (.int sel), .val (.int jk), .val (.int k0), .val (.int k1), .val (.int k2), .val (.int k3), .val (.ref ca), .val (.int (3 : Int32)), .val (.int a), .val (.int b), .val (.int mi), .val (.int ot), .val (.int c1), .val (.int d1), .unset, .unset, .unset, .unset, .unset, .unset]) (st' := [(.int (1 : Int32)), (.int (3 : Int32))]) rfl ?_
      refine own_icmp X5 d0_182 (pc' := 198) (by decide) (fun c182 => ?_) (fun (c182 : ¬ (¬ (3 : Int) = 1)) => by exfalso; omega)
      have c182 : ¬ (3 : Int) = 1 := c182
      refine own_blk X5 B0_198_201 B0_198_201d (ls' := #[.val (.long c01), .second, .val (.long c23), .second, .val (.int at0), .val (.int sel), .val (.int jk), .val (.int k0), .val (.int k1), .val (.int k2), .val (.int k3), .val (.ref ca), .val (.int (3 : Int32)), .val (.int a), .val (.int b), .val (.int mi), .val (.int ot), .val (.int c1), .val (.int d1), .unset, .unset, .unset, .unset, .unset, .unset]) (st' := [(.int (2 : Int32)), (.int (3 : Int32))]) rfl ?_
      refine own_icmp X5 d0_201 (pc' := 222) (by decide) (fun c201 => ?_) (fun (c201 : ¬ (¬ (3 : Int) = 2)) => by exfalso; omega)
      have c201 : ¬ (3 : Int) = 2 := c201
      refine own_blk X5 B0_222_225 B0_222_225d (ls' := #[.val (.long c01), .second, .val (.long c23), .second, .val (.int at0), .val (.int sel), .val (.int jk), .val (.int k0), .val (.int k1), .val (.int k2), .val (.int k3), .val (.ref ca), .val (.int (3 : Int32)), .val (.int a), .val (.int b), .val (.int mi), .val (.int ot), .val (.int c1), .val (.int d1), .unset, .unset, .unset, .unset, .unset, .unset]) (st' := [(.int (3 : Int32)), (.int (3 : Int32))]) rfl ?_
      refine own_icmp X5 d0_225 (pc' := 251) (by decide) (fun (c225 : ¬ (3 : Int) = 3) => by exfalso; omega) (fun c225 => ?_)
      have c225 : ¬ (¬ (3 : Int) = 3) := c225
      refine own_blk X5 B0_228_229 B0_228_229d (ls' := #[.val (.long c01), .second, .val (.long c23), .second, .val (.int at0), .val (.int sel), .val (.int jk), .val (.int k0), .val (.int k1), .val (.int k2), .val (.int k3), .val (.ref ca), .val (.int (3 : Int32)), .val (.int a), .val (.int b), .val (.int mi), .val (.int ot), .val (.int c1), .val (.int d1), .unset, .unset, .unset, .unset, .unset, .unset]) (st' := [(.int (3 : Int32))]) rfl ?_
      have lt_ca := own_A_lt A5
      refine own_newI X5 (hw _ (List.mem_of_getElem? (i := 0) rfl)) rfl d0_229 (by decide) 3 (by decide) (by decide) (by decide) (by decide) (fun h93 T93 X93 E93 A93 => ?_)
      have n_oa : n0 ≤ h5.size := X5.2.1
      have A93 : own_I Z h93 h5.size .int 3 (fun _ => (0 : Int32)) := A93
      generalize ez_oa : h5.size = oa at A93 n_oa lt_ca ⊢
      have A94 := own_I_ext A5 E93
      have ne_ca_oa : ca ≠ oa := Nat.ne_of_lt lt_ca
      show own_G p e below (T93.setTop (mkF m 231 #[.val (.long c01), .second, .val (.long c23), .second, .val (.int at0), .val (.int sel), .val (.int jk), .val (.int k0), .val (.int k1), .val (.int k2), .val (.int k3), .val (.ref ca), .val (.int (3 : Int32)), .val (.int a), .val (.int b), .val (.int mi), .val (.int ot), .val (.int c1), .val (.int d1), .unset, .unset, .unset, .unset, .unset, .unset] [(.ref oa)])) _
      refine own_blk X93 B0_231_235 B0_231_235d (ls' := #[.val (.long c01), .second, .val (.long c23), .second, .val (.int at0), .val (.int sel), .val (.int jk), .val (.int k0), .val (.int k1), .val (.int k2), .val (.int k3), .val (.ref ca), .val (.int (3 : Int32)), .val (.int a), .val (.int b), .val (.int mi), .val (.int ot), .val (.int c1), .val (.int d1), .unset, .unset, .unset, .unset, .unset, .unset]) (st' := [(.int a), (.int (0 : Int32)), (.ref oa), (.ref oa)]) rfl ?_
      refine own_iast X93 A93 n_oa d0_235 (by decide) (by decide)  (fun h95 T95 X95 A95 W95 => ?_)
      have A95 : own_I Z h95 oa .int 3 (own_u (fun _ => (0 : Int32)) (0) a) := A95
      generalize eg95 : own_u (fun _ => (0 : Int32)) (0) a = g95 at A95
      have A95_ca := own_I_other A94 W95 (by first | exact ne_ca_oa | exact fun q => ne_oa_ca q.symm)
      refine own_blk X95 B0_236_240 B0_236_240d (ls' := #[.val (.long c01), .second, .val (.long c23), .second, .val (.int at0), .val (.int sel), .val (.int jk), .val (.int k0), .val (.int k1), .val (.int k2), .val (.int k3), .val (.ref ca), .val (.int (3 : Int32)), .val (.int a), .val (.int b), .val (.int mi), .val (.int ot), .val (.int c1), .val (.int d1), .unset, .unset, .unset, .unset, .unset, .unset]) (st' := [(.int b), (.int (1 : Int32)), (.ref oa), (.ref oa)]) rfl ?_
      refine own_iast X95 A95 n_oa d0_240 (by decide) (by decide)  (fun h96 T96 X96 A96 W96 => ?_)
      have A96 : own_I Z h96 oa .int 3 (own_u g95 (1) b) := A96
      generalize eg96 : own_u g95 (1) b = g96 at A96
      have A96_ca := own_I_other A95_ca W96 (by first | exact ne_ca_oa | exact fun q => ne_oa_ca q.symm)
      refine own_blk X96 B0_241_245 B0_241_245d (ls' := #[.val (.long c01), .second, .val (.long c23), .second, .val (.int at0), .val (.int sel), .val (.int jk), .val (.int k0), .val (.int k1), .val (.int k2), .val (.int k3), .val (.ref ca), .val (.int (3 : Int32)), .val (.int a), .val (.int b), .val (.int mi), .val (.int ot), .val (.int c1), .val (.int d1), .unset, .unset, .unset, .unset, .unset, .unset]) (st' := [(.int c1), (.int (2 : Int32)), (.ref oa), (.ref oa)]) rfl ?_
      refine own_iast X96 A96 n_oa d0_245 (by decide) (by decide)  (fun h97 T97 X97 A97 W97 => ?_)
      have A97 : own_I Z h97 oa .int 3 (own_u g96 (2) c1) := A97
      generalize eg97 : own_u g96 (2) c1 = g97 at A97
      have A97_ca := own_I_other A96_ca W97 (by first | exact ne_ca_oa | exact fun q => ne_oa_ca q.symm)
      refine own_blk X97 B0_246_248 B0_246_248d (ls' := #[.val (.long c01), .second, .val (.long c23), .second, .val (.int at0), .val (.int sel), .val (.int jk), .val (.int k0), .val (.int k1), .val (.int k2), .val (.int k3), .val (.ref ca), .val (.int (3 : Int32)), .val (.int a), .val (.int b), .val (.int mi), .val (.int ot), .val (.int c1), .val (.int d1), .val (.ref oa), .unset, .unset, .unset, .unset, .unset]) (st' := []) rfl ?_
      refine own_goto X97 d0_248 (pc' := 276) (by decide) ?_
      have o0 : g97 0 = a := by rw [← eg97, own_u_ne (by decide), ← eg96, own_u_ne (by decide), ← eg95, own_u_eq rfl]
      have o1 : g97 1 = b := by rw [← eg97, own_u_ne (by decide), ← eg96, own_u_eq rfl]
      have o2 : g97 2 = c1 := by rw [← eg97, own_u_eq rfl]
      refine own_blk X97 B0_276_277 B0_276_277d (ls' := #[.val (.long c01), .second, .val (.long c23), .second, .val (.int at0), .val (.int sel), .val (.int jk), .val (.int k0), .val (.int k1), .val (.int k2), .val (.int k3), .val (.ref ca), .val (.int (3 : Int32)), .val (.int a), .val (.int b), .val (.int mi), .val (.int ot), .val (.int c1), .val (.int d1), .val (.ref oa), .unset, .unset, .unset, .unset, .unset]) (st' := [(.int (4 : Int32))]) rfl ?_
      have lt_ca := own_A_lt A97_ca
      have lt_oa := own_A_lt A97
      refine own_newI X97 (hw _ (List.mem_of_getElem? (i := 0) rfl)) rfl d0_277 (by decide) 4 (by decide) (by decide) (by decide) (by decide) (fun h98 T98 X98 E98 A98 => ?_)
      have n_sa : n0 ≤ h97.size := X97.2.1
      have A98 : own_I Z h98 h97.size .int 4 (fun _ => (0 : Int32)) := A98
      generalize ez_sa : h97.size = sa at A98 n_sa lt_ca lt_oa ⊢
      have A99 := own_I_ext A97_ca E98
      have A100 := own_I_ext A97 E98
      have ne_ca_sa : ca ≠ sa := Nat.ne_of_lt lt_ca
      have ne_oa_sa : oa ≠ sa := Nat.ne_of_lt lt_oa
      show own_G p e below (T98.setTop (mkF m 279 #[.val (.long c01), .second, .val (.long c23), .second, .val (.int at0), .val (.int sel), .val (.int jk), .val (.int k0), .val (.int k1), .val (.int k2), .val (.int k3), .val (.ref ca), .val (.int (3 : Int32)), .val (.int a), .val (.int b), .val (.int mi), .val (.int ot), .val (.int c1), .val (.int d1), .val (.ref oa), .unset, .unset, .unset, .unset, .unset] [(.ref sa)])) _
      refine own_blk X98 B0_279_283 B0_279_283d (ls' := #[.val (.long c01), .second, .val (.long c23), .second, .val (.int at0), .val (.int sel), .val (.int jk), .val (.int k0), .val (.int k1), .val (.int k2), .val (.int k3), .val (.ref ca), .val (.int (3 : Int32)), .val (.int a), .val (.int b), .val (.int mi), .val (.int ot), .val (.int c1), .val (.int d1), .val (.ref oa), .unset, .unset, .unset, .unset, .unset]) (st' := [(.int jk), (.int (0 : Int32)), (.ref sa), (.ref sa)]) rfl ?_
      refine own_iast X98 A98 n_sa d0_283 (by decide) (by decide)  (fun h101 T101 X101 A101 W101 => ?_)
      have A101 : own_I Z h101 sa .int 4 (own_u (fun _ => (0 : Int32)) (0) jk) := A101
      generalize eg101 : own_u (fun _ => (0 : Int32)) (0) jk = g101 at A101
      have A101_ca := own_I_other A99 W101 (by first | exact ne_ca_sa | exact fun q => ne_sa_ca q.symm)
      have A101_oa := own_I_other A100 W101 (by first | exact ne_oa_sa | exact fun q => ne_sa_oa q.symm)
      refine own_blk X101 B0_284_290 B0_284_290d (ls' := #[.val (.long c01), .second, .val (.long c23), .second, .val (.int at0), .val (.int sel), .val (.int jk), .val (.int k0), .val (.int k1), .val (.int k2), .val (.int k3), .val (.ref ca), .val (.int (3 : Int32)), .val (.int a), .val (.int b), .val (.int mi), .val (.int ot), .val (.int c1), .val (.int d1), .val (.ref oa), .unset, .unset, .unset, .unset, .unset]) (st' := [(.int (jk + (1 : Int32))), (.int (1 : Int32)), (.ref sa), (.ref sa)]) rfl ?_
      refine own_iast X101 A101 n_sa d0_290 (by decide) (by decide)  (fun h102 T102 X102 A102 W102 => ?_)
      have A102 : own_I Z h102 sa .int 4 (own_u g101 (1) (jk + (1 : Int32))) := A102
      generalize eg102 : own_u g101 (1) (jk + (1 : Int32)) = g102 at A102
      have A102_ca := own_I_other A101_ca W102 (by first | exact ne_ca_sa | exact fun q => ne_sa_ca q.symm)
      have A102_oa := own_I_other A101_oa W102 (by first | exact ne_oa_sa | exact fun q => ne_sa_oa q.symm)
      refine own_blk X102 B0_291_297 B0_291_297d (ls' := #[.val (.long c01), .second, .val (.long c23), .second, .val (.int at0), .val (.int sel), .val (.int jk), .val (.int k0), .val (.int k1), .val (.int k2), .val (.int k3), .val (.ref ca), .val (.int (3 : Int32)), .val (.int a), .val (.int b), .val (.int mi), .val (.int ot), .val (.int c1), .val (.int d1), .val (.ref oa), .unset, .unset, .unset, .unset, .unset]) (st' := [(.int (jk + (2 : Int32))), (.int (2 : Int32)), (.ref sa), (.ref sa)]) rfl ?_
      refine own_iast X102 A102 n_sa d0_297 (by decide) (by decide)  (fun h103 T103 X103 A103 W103 => ?_)
      have A103 : own_I Z h103 sa .int 4 (own_u g102 (2) (jk + (2 : Int32))) := A103
      generalize eg103 : own_u g102 (2) (jk + (2 : Int32)) = g103 at A103
      have A103_ca := own_I_other A102_ca W103 (by first | exact ne_ca_sa | exact fun q => ne_sa_ca q.symm)
      have A103_oa := own_I_other A102_oa W103 (by first | exact ne_oa_sa | exact fun q => ne_sa_oa q.symm)
      refine own_blk X103 B0_298_304 B0_298_304d (ls' := #[.val (.long c01), .second, .val (.long c23), .second, .val (.int at0), .val (.int sel), .val (.int jk), .val (.int k0), .val (.int k1), .val (.int k2), .val (.int k3), .val (.ref ca), .val (.int (3 : Int32)), .val (.int a), .val (.int b), .val (.int mi), .val (.int ot), .val (.int c1), .val (.int d1), .val (.ref oa), .unset, .unset, .unset, .unset, .unset]) (st' := [(.int (jk + (3 : Int32))), (.int (3 : Int32)), (.ref sa), (.ref sa)]) rfl ?_
      refine own_iast X103 A103 n_sa d0_304 (by decide) (by decide)  (fun h104 T104 X104 A104 W104 => ?_)
      have A104 : own_I Z h104 sa .int 4 (own_u g103 (3) (jk + (3 : Int32))) := A104
      generalize eg104 : own_u g103 (3) (jk + (3 : Int32)) = g104 at A104
      have A104_ca := own_I_other A103_ca W104 (by first | exact ne_ca_sa | exact fun q => ne_sa_ca q.symm)
      have A104_oa := own_I_other A103_oa W104 (by first | exact ne_oa_sa | exact fun q => ne_sa_oa q.symm)
      refine own_blk X104 B0_305_308 B0_305_308d (ls' := #[.val (.long c01), .second, .val (.long c23), .second, .val (.int at0), .val (.int sel), .val (.int jk), .val (.int k0), .val (.int k1), .val (.int k2), .val (.int k3), .val (.ref ca), .val (.int (3 : Int32)), .val (.int a), .val (.int b), .val (.int mi), .val (.int ot), .val (.int c1), .val (.int d1), .val (.ref oa), .val (.ref sa), .unset, .unset, .unset, .unset]) (st' := [(.int (4 : Int32))]) rfl ?_
      have lt_ca := own_A_lt A104_ca
      have lt_oa := own_A_lt A104_oa
      have lt_sa := own_A_lt A104
      refine own_newI X104 (hw _ (List.mem_of_getElem? (i := 0) rfl)) rfl d0_308 (by decide) 4 (by decide) (by decide) (by decide) (by decide) (fun h105 T105 X105 E105 A105 => ?_)
      have n_wa : n0 ≤ h104.size := X104.2.1
      have A105 : own_I Z h105 h104.size .int 4 (fun _ => (0 : Int32)) := A105
      generalize ez_wa : h104.size = wa at A105 n_wa lt_ca lt_oa lt_sa ⊢
      have A106 := own_I_ext A104_ca E105
      have A107 := own_I_ext A104_oa E105
      have A108 := own_I_ext A104 E105
      have ne_ca_wa : ca ≠ wa := Nat.ne_of_lt lt_ca
      have ne_oa_wa : oa ≠ wa := Nat.ne_of_lt lt_oa
      have ne_sa_wa : sa ≠ wa := Nat.ne_of_lt lt_sa
      show own_G p e below (T105.setTop (mkF m 310 #[.val (.long c01), .second, .val (.long c23), .second, .val (.int at0), .val (.int sel), .val (.int jk), .val (.int k0), .val (.int k1), .val (.int k2), .val (.int k3), .val (.ref ca), .val (.int (3 : Int32)), .val (.int a), .val (.int b), .val (.int mi), .val (.int ot), .val (.int c1), .val (.int d1), .val (.ref oa), .val (.ref sa), .unset, .unset, .unset, .unset] [(.ref wa)])) _
      refine own_blk X105 B0_310_314 B0_310_314d (ls' := #[.val (.long c01), .second, .val (.long c23), .second, .val (.int at0), .val (.int sel), .val (.int jk), .val (.int k0), .val (.int k1), .val (.int k2), .val (.int k3), .val (.ref ca), .val (.int (3 : Int32)), .val (.int a), .val (.int b), .val (.int mi), .val (.int ot), .val (.int c1), .val (.int d1), .val (.ref oa), .val (.ref sa), .unset, .unset, .unset, .unset]) (st' := [(.int jk), (.int (0 : Int32)), (.ref wa), (.ref wa)]) rfl ?_
      refine own_iast X105 A105 n_wa d0_314 (by decide) (by decide)  (fun h109 T109 X109 A109 W109 => ?_)
      have A109 : own_I Z h109 wa .int 4 (own_u (fun _ => (0 : Int32)) (0) jk) := A109
      generalize eg109 : own_u (fun _ => (0 : Int32)) (0) jk = g109 at A109
      have A109_ca := own_I_other A106 W109 (by first | exact ne_ca_wa | exact fun q => ne_wa_ca q.symm)
      have A109_oa := own_I_other A107 W109 (by first | exact ne_oa_wa | exact fun q => ne_wa_oa q.symm)
      have A109_sa := own_I_other A108 W109 (by first | exact ne_sa_wa | exact fun q => ne_wa_sa q.symm)
      refine own_blk X109 B0_315_321 B0_315_321d (ls' := #[.val (.long c01), .second, .val (.long c23), .second, .val (.int at0), .val (.int sel), .val (.int jk), .val (.int k0), .val (.int k1), .val (.int k2), .val (.int k3), .val (.ref ca), .val (.int (3 : Int32)), .val (.int a), .val (.int b), .val (.int mi), .val (.int ot), .val (.int c1), .val (.int d1), .val (.ref oa), .val (.ref sa), .unset, .unset, .unset, .unset]) (st' := [(.int (jk + (1 : Int32))), (.int (1 : Int32)), (.ref wa), (.ref wa)]) rfl ?_
      refine own_iast X109 A109 n_wa d0_321 (by decide) (by decide)  (fun h110 T110 X110 A110 W110 => ?_)
      have A110 : own_I Z h110 wa .int 4 (own_u g109 (1) (jk + (1 : Int32))) := A110
      generalize eg110 : own_u g109 (1) (jk + (1 : Int32)) = g110 at A110
      have A110_ca := own_I_other A109_ca W110 (by first | exact ne_ca_wa | exact fun q => ne_wa_ca q.symm)
      have A110_oa := own_I_other A109_oa W110 (by first | exact ne_oa_wa | exact fun q => ne_wa_oa q.symm)
      have A110_sa := own_I_other A109_sa W110 (by first | exact ne_sa_wa | exact fun q => ne_wa_sa q.symm)
      refine own_blk X110 B0_322_328 B0_322_328d (ls' := #[.val (.long c01), .second, .val (.long c23), .second, .val (.int at0), .val (.int sel), .val (.int jk), .val (.int k0), .val (.int k1), .val (.int k2), .val (.int k3), .val (.ref ca), .val (.int (3 : Int32)), .val (.int a), .val (.int b), .val (.int mi), .val (.int ot), .val (.int c1), .val (.int d1), .val (.ref oa), .val (.ref sa), .unset, .unset, .unset, .unset]) (st' := [(.int (jk + (2 : Int32))), (.int (2 : Int32)), (.ref wa), (.ref wa)]) rfl ?_
      refine own_iast X110 A110 n_wa d0_328 (by decide) (by decide)  (fun h111 T111 X111 A111 W111 => ?_)
      have A111 : own_I Z h111 wa .int 4 (own_u g110 (2) (jk + (2 : Int32))) := A111
      generalize eg111 : own_u g110 (2) (jk + (2 : Int32)) = g111 at A111
      have A111_ca := own_I_other A110_ca W111 (by first | exact ne_ca_wa | exact fun q => ne_wa_ca q.symm)
      have A111_oa := own_I_other A110_oa W111 (by first | exact ne_oa_wa | exact fun q => ne_wa_oa q.symm)
      have A111_sa := own_I_other A110_sa W111 (by first | exact ne_sa_wa | exact fun q => ne_wa_sa q.symm)
      refine own_blk X111 B0_329_335 B0_329_335d (ls' := #[.val (.long c01), .second, .val (.long c23), .second, .val (.int at0), .val (.int sel), .val (.int jk), .val (.int k0), .val (.int k1), .val (.int k2), .val (.int k3), .val (.ref ca), .val (.int (3 : Int32)), .val (.int a), .val (.int b), .val (.int mi), .val (.int ot), .val (.int c1), .val (.int d1), .val (.ref oa), .val (.ref sa), .unset, .unset, .unset, .unset]) (st' := [(.int (jk + (3 : Int32))), (.int (3 : Int32)), (.ref wa), (.ref wa)]) rfl ?_
      refine own_iast X111 A111 n_wa d0_335 (by decide) (by decide)  (fun h112 T112 X112 A112 W112 => ?_)
      have A112 : own_I Z h112 wa .int 4 (own_u g111 (3) (jk + (3 : Int32))) := A112
      generalize eg112 : own_u g111 (3) (jk + (3 : Int32)) = g112 at A112
      have A112_ca := own_I_other A111_ca W112 (by first | exact ne_ca_wa | exact fun q => ne_wa_ca q.symm)
      have A112_oa := own_I_other A111_oa W112 (by first | exact ne_oa_wa | exact fun q => ne_wa_oa q.symm)
      have A112_sa := own_I_other A111_sa W112 (by first | exact ne_sa_wa | exact fun q => ne_wa_sa q.symm)
      refine own_blk X112 B0_336_339 B0_336_339d (ls' := #[.val (.long c01), .second, .val (.long c23), .second, .val (.int at0), .val (.int sel), .val (.int jk), .val (.int k0), .val (.int k1), .val (.int k2), .val (.int k3), .val (.ref ca), .val (.int (3 : Int32)), .val (.int a), .val (.int b), .val (.int mi), .val (.int ot), .val (.int c1), .val (.int d1), .val (.ref oa), .val (.ref sa), .val (.ref wa), .unset, .unset, .unset]) (st' := [(.int (4 : Int32))]) rfl ?_
      have lt_ca := own_A_lt A112_ca
      have lt_oa := own_A_lt A112_oa
      have lt_sa := own_A_lt A112_sa
      have lt_wa := own_A_lt A112
      refine own_newI X112 (hw _ (List.mem_of_getElem? (i := 0) rfl)) rfl d0_339 (by decide) 4 (by decide) (by decide) (by decide) (by decide) (fun h113 T113 X113 E113 A113 => ?_)
      have n_ka : n0 ≤ h112.size := X112.2.1
      have A113 : own_I Z h113 h112.size .int 4 (fun _ => (0 : Int32)) := A113
      generalize ez_ka : h112.size = ka at A113 n_ka lt_ca lt_oa lt_sa lt_wa ⊢
      have A114 := own_I_ext A112_ca E113
      have A115 := own_I_ext A112_oa E113
      have A116 := own_I_ext A112_sa E113
      have A117 := own_I_ext A112 E113
      have ne_ca_ka : ca ≠ ka := Nat.ne_of_lt lt_ca
      have ne_oa_ka : oa ≠ ka := Nat.ne_of_lt lt_oa
      have ne_sa_ka : sa ≠ ka := Nat.ne_of_lt lt_sa
      have ne_wa_ka : wa ≠ ka := Nat.ne_of_lt lt_wa
      show own_G p e below (T113.setTop (mkF m 341 #[.val (.long c01), .second, .val (.long c23), .second, .val (.int at0), .val (.int sel), .val (.int jk), .val (.int k0), .val (.int k1), .val (.int k2), .val (.int k3), .val (.ref ca), .val (.int (3 : Int32)), .val (.int a), .val (.int b), .val (.int mi), .val (.int ot), .val (.int c1), .val (.int d1), .val (.ref oa), .val (.ref sa), .val (.ref wa), .unset, .unset, .unset] [(.ref ka)])) _
      refine own_blk X113 B0_341_345 B0_341_345d (ls' := #[.val (.long c01), .second, .val (.long c23), .second, .val (.int at0), .val (.int sel), .val (.int jk), .val (.int k0), .val (.int k1), .val (.int k2), .val (.int k3), .val (.ref ca), .val (.int (3 : Int32)), .val (.int a), .val (.int b), .val (.int mi), .val (.int ot), .val (.int c1), .val (.int d1), .val (.ref oa), .val (.ref sa), .val (.ref wa), .unset, .unset, .unset]) (st' := [(.int k0), (.int (0 : Int32)), (.ref ka), (.ref ka)]) rfl ?_
      refine own_iast X113 A113 n_ka d0_345 (by decide) (by decide)  (fun h118 T118 X118 A118 W118 => ?_)
      have A118 : own_I Z h118 ka .int 4 (own_u (fun _ => (0 : Int32)) (0) k0) := A118
      generalize eg118 : own_u (fun _ => (0 : Int32)) (0) k0 = g118 at A118
      have A118_ca := own_I_other A114 W118 (by first | exact ne_ca_ka | exact fun q => ne_ka_ca q.symm)
      have A118_oa := own_I_other A115 W118 (by first | exact ne_oa_ka | exact fun q => ne_ka_oa q.symm)
      have A118_sa := own_I_other A116 W118 (by first | exact ne_sa_ka | exact fun q => ne_ka_sa q.symm)
      have A118_wa := own_I_other A117 W118 (by first | exact ne_wa_ka | exact fun q => ne_ka_wa q.symm)
      refine own_blk X118 B0_346_350 B0_346_350d (ls' := #[.val (.long c01), .second, .val (.long c23), .second, .val (.int at0), .val (.int sel), .val (.int jk), .val (.int k0), .val (.int k1), .val (.int k2), .val (.int k3), .val (.ref ca), .val (.int (3 : Int32)), .val (.int a), .val (.int b), .val (.int mi), .val (.int ot), .val (.int c1), .val (.int d1), .val (.ref oa), .val (.ref sa), .val (.ref wa), .unset, .unset, .unset]) (st' := [(.int k1), (.int (1 : Int32)), (.ref ka), (.ref ka)]) rfl ?_
      refine own_iast X118 A118 n_ka d0_350 (by decide) (by decide)  (fun h119 T119 X119 A119 W119 => ?_)
      have A119 : own_I Z h119 ka .int 4 (own_u g118 (1) k1) := A119
      generalize eg119 : own_u g118 (1) k1 = g119 at A119
      have A119_ca := own_I_other A118_ca W119 (by first | exact ne_ca_ka | exact fun q => ne_ka_ca q.symm)
      have A119_oa := own_I_other A118_oa W119 (by first | exact ne_oa_ka | exact fun q => ne_ka_oa q.symm)
      have A119_sa := own_I_other A118_sa W119 (by first | exact ne_sa_ka | exact fun q => ne_ka_sa q.symm)
      have A119_wa := own_I_other A118_wa W119 (by first | exact ne_wa_ka | exact fun q => ne_ka_wa q.symm)
      refine own_blk X119 B0_351_355 B0_351_355d (ls' := #[.val (.long c01), .second, .val (.long c23), .second, .val (.int at0), .val (.int sel), .val (.int jk), .val (.int k0), .val (.int k1), .val (.int k2), .val (.int k3), .val (.ref ca), .val (.int (3 : Int32)), .val (.int a), .val (.int b), .val (.int mi), .val (.int ot), .val (.int c1), .val (.int d1), .val (.ref oa), .val (.ref sa), .val (.ref wa), .unset, .unset, .unset]) (st' := [(.int k2), (.int (2 : Int32)), (.ref ka), (.ref ka)]) rfl ?_
      refine own_iast X119 A119 n_ka d0_355 (by decide) (by decide)  (fun h120 T120 X120 A120 W120 => ?_)
      have A120 : own_I Z h120 ka .int 4 (own_u g119 (2) k2) := A120
      generalize eg120 : own_u g119 (2) k2 = g120 at A120
      have A120_ca := own_I_other A119_ca W120 (by first | exact ne_ca_ka | exact fun q => ne_ka_ca q.symm)
      have A120_oa := own_I_other A119_oa W120 (by first | exact ne_oa_ka | exact fun q => ne_ka_oa q.symm)
      have A120_sa := own_I_other A119_sa W120 (by first | exact ne_sa_ka | exact fun q => ne_ka_sa q.symm)
      have A120_wa := own_I_other A119_wa W120 (by first | exact ne_wa_ka | exact fun q => ne_ka_wa q.symm)
      refine own_blk X120 B0_356_360 B0_356_360d (ls' := #[.val (.long c01), .second, .val (.long c23), .second, .val (.int at0), .val (.int sel), .val (.int jk), .val (.int k0), .val (.int k1), .val (.int k2), .val (.int k3), .val (.ref ca), .val (.int (3 : Int32)), .val (.int a), .val (.int b), .val (.int mi), .val (.int ot), .val (.int c1), .val (.int d1), .val (.ref oa), .val (.ref sa), .val (.ref wa), .unset, .unset, .unset]) (st' := [(.int k3), (.int (3 : Int32)), (.ref ka), (.ref ka)]) rfl ?_
      refine own_iast X120 A120 n_ka d0_360 (by decide) (by decide)  (fun h121 T121 X121 A121 W121 => ?_)
      have A121 : own_I Z h121 ka .int 4 (own_u g120 (3) k3) := A121
      generalize eg121 : own_u g120 (3) k3 = g121 at A121
      have A121_ca := own_I_other A120_ca W121 (by first | exact ne_ca_ka | exact fun q => ne_ka_ca q.symm)
      have A121_oa := own_I_other A120_oa W121 (by first | exact ne_oa_ka | exact fun q => ne_ka_oa q.symm)
      have A121_sa := own_I_other A120_sa W121 (by first | exact ne_sa_ka | exact fun q => ne_ka_sa q.symm)
      have A121_wa := own_I_other A120_wa W121 (by first | exact ne_wa_ka | exact fun q => ne_ka_wa q.symm)
      refine own_blk X121 B0_361_366 B0_361_366d (ls' := #[.val (.long c01), .second, .val (.long c23), .second, .val (.int at0), .val (.int sel), .val (.int jk), .val (.int k0), .val (.int k1), .val (.int k2), .val (.int k3), .val (.ref ca), .val (.int (3 : Int32)), .val (.int a), .val (.int b), .val (.int mi), .val (.int ot), .val (.int c1), .val (.int d1), .val (.ref oa), .val (.ref sa), .val (.ref wa), .val (.ref ka), .unset, .unset]) (st' := [(.int (1 : Int32)), (.int (3 : Int32))]) rfl ?_
      refine own_icmp X121 d0_366 (pc' := 376) (by decide) (fun (c366 : (3 : Int) < 1) => by exfalso; omega) (fun c366 => ?_)
      have c366 : ¬ ((3 : Int) < 1) := c366
      refine own_blk X121 B0_369_375 B0_369_375d (ls' := #[.val (.long c01), .second, .val (.long c23), .second, .val (.int at0), .val (.int sel), .val (.int jk), .val (.int k0), .val (.int k1), .val (.int k2), .val (.int k3), .val (.ref ca), .val (.int (3 : Int32)), .val (.int a), .val (.int b), .val (.int mi), .val (.int ot), .val (.int c1), .val (.int d1), .val (.ref oa), .val (.ref sa), .val (.ref wa), .val (.ref ka), .unset, .unset]) (st' := [(.int at0), (.int a), (.ref wa)]) rfl ?_
      refine own_iast X121 A121_wa n_wa d0_375 (by omega) (by omega)  (fun h122 T122 X122 A122 W122 => ?_)
      have A122 : own_I Z h122 wa .int 4 (own_u g112 (a.toInt) at0) := A122
      generalize eg122 : own_u g112 (a.toInt) at0 = g122 at A122
      have A122_ca := own_I_other A121_ca W122 (by first | exact ne_ca_wa | exact fun q => ne_wa_ca q.symm)
      have A122_oa := own_I_other A121_oa W122 (by first | exact ne_oa_wa | exact fun q => ne_wa_oa q.symm)
      have A122_sa := own_I_other A121_sa W122 (by first | exact ne_sa_wa | exact fun q => ne_wa_sa q.symm)
      have A122_ka := own_I_other A121 W122 (by first | exact ne_ka_wa | exact fun q => ne_wa_ka q.symm)
      refine own_blk X122 B0_376_379 B0_376_379d (ls' := #[.val (.long c01), .second, .val (.long c23), .second, .val (.int at0), .val (.int sel), .val (.int jk), .val (.int k0), .val (.int k1), .val (.int k2), .val (.int k3), .val (.ref ca), .val (.int (3 : Int32)), .val (.int a), .val (.int b), .val (.int mi), .val (.int ot), .val (.int c1), .val (.int d1), .val (.ref oa), .val (.ref sa), .val (.ref wa), .val (.ref ka), .unset, .unset]) (st' := [(.int (2 : Int32)), (.int (3 : Int32))]) rfl ?_
      refine own_icmp X122 d0_379 (pc' := 395) (by decide) (fun (c379 : (3 : Int) < 2) => by exfalso; omega) (fun c379 => ?_)
      have c379 : ¬ ((3 : Int) < 2) := c379
      refine own_blk X122 B0_382_392 B0_382_392d (ls' := #[.val (.long c01), .second, .val (.long c23), .second, .val (.int at0), .val (.int sel), .val (.int jk), .val (.int k0), .val (.int k1), .val (.int k2), .val (.int k3), .val (.ref ca), .val (.int (3 : Int32)), .val (.int a), .val (.int b), .val (.int mi), .val (.int ot), .val (.int c1), .val (.int d1), .val (.ref oa), .val (.ref sa), .val (.ref wa), .val (.ref ka), .unset, .unset]) (st' := [(.int a), (.ref ka), (.int at0), (.int b), (.ref wa)]) rfl ?_
      refine own_iald X122 A122_ka d0_392 (by omega) (by omega) ?_
      show own_G p e below (T122.setTop (mkF m 393 #[.val (.long c01), .second, .val (.long c23), .second, .val (.int at0), .val (.int sel), .val (.int jk), .val (.int k0), .val (.int k1), .val (.int k2), .val (.int k3), .val (.ref ca), .val (.int (3 : Int32)), .val (.int a), .val (.int b), .val (.int mi), .val (.int ot), .val (.int c1), .val (.int d1), .val (.ref oa), .val (.ref sa), .val (.ref wa), .val (.ref ka), .unset, .unset] [(.int (g121 a.toInt)), (.int at0), (.int b), (.ref wa)])) _
      refine own_blk X122 B0_393_394 B0_393_394d (ls' := #[.val (.long c01), .second, .val (.long c23), .second, .val (.int at0), .val (.int sel), .val (.int jk), .val (.int k0), .val (.int k1), .val (.int k2), .val (.int k3), .val (.ref ca), .val (.int (3 : Int32)), .val (.int a), .val (.int b), .val (.int mi), .val (.int ot), .val (.int c1), .val (.int d1), .val (.ref oa), .val (.ref sa), .val (.ref wa), .val (.ref ka), .unset, .unset]) (st' := [(.int (at0 + (g121 a.toInt))), (.int b), (.ref wa)]) rfl ?_
      refine own_iast X122 A122 n_wa d0_394 (by omega) (by omega)  (fun h123 T123 X123 A123 W123 => ?_)
      have A123 : own_I Z h123 wa .int 4 (own_u g122 (b.toInt) (at0 + (g121 a.toInt))) := A123
      generalize eg123 : own_u g122 (b.toInt) (at0 + (g121 a.toInt)) = g123 at A123
      have A123_ca := own_I_other A122_ca W123 (by first | exact ne_ca_wa | exact fun q => ne_wa_ca q.symm)
      have A123_oa := own_I_other A122_oa W123 (by first | exact ne_oa_wa | exact fun q => ne_wa_oa q.symm)
      have A123_sa := own_I_other A122_sa W123 (by first | exact ne_sa_wa | exact fun q => ne_wa_sa q.symm)
      have A123_ka := own_I_other A122_ka W123 (by first | exact ne_ka_wa | exact fun q => ne_wa_ka q.symm)
      refine own_blk X123 B0_395_398 B0_395_398d (ls' := #[.val (.long c01), .second, .val (.long c23), .second, .val (.int at0), .val (.int sel), .val (.int jk), .val (.int k0), .val (.int k1), .val (.int k2), .val (.int k3), .val (.ref ca), .val (.int (3 : Int32)), .val (.int a), .val (.int b), .val (.int mi), .val (.int ot), .val (.int c1), .val (.int d1), .val (.ref oa), .val (.ref sa), .val (.ref wa), .val (.ref ka), .unset, .unset]) (st' := [(.int (3 : Int32)), (.int (3 : Int32))]) rfl ?_
      refine own_icmp X123 d0_398 (pc' := 420) (by decide) (fun (c398 : (3 : Int) < 3) => by exfalso; omega) (fun c398 => ?_)
      have c398 : ¬ ((3 : Int) < 3) := c398
      refine own_blk X123 B0_401_411 B0_401_411d (ls' := #[.val (.long c01), .second, .val (.long c23), .second, .val (.int at0), .val (.int sel), .val (.int jk), .val (.int k0), .val (.int k1), .val (.int k2), .val (.int k3), .val (.ref ca), .val (.int (3 : Int32)), .val (.int a), .val (.int b), .val (.int mi), .val (.int ot), .val (.int c1), .val (.int d1), .val (.ref oa), .val (.ref sa), .val (.ref wa), .val (.ref ka), .unset, .unset]) (st' := [(.int a), (.ref ka), (.int at0), (.int c1), (.ref wa)]) rfl ?_
      refine own_iald X123 A123_ka d0_411 (by omega) (by omega) ?_
      show own_G p e below (T123.setTop (mkF m 412 #[.val (.long c01), .second, .val (.long c23), .second, .val (.int at0), .val (.int sel), .val (.int jk), .val (.int k0), .val (.int k1), .val (.int k2), .val (.int k3), .val (.ref ca), .val (.int (3 : Int32)), .val (.int a), .val (.int b), .val (.int mi), .val (.int ot), .val (.int c1), .val (.int d1), .val (.ref oa), .val (.ref sa), .val (.ref wa), .val (.ref ka), .unset, .unset] [(.int (g121 a.toInt)), (.int at0), (.int c1), (.ref wa)])) _
      refine own_blk X123 B0_412_417 B0_412_417d (ls' := #[.val (.long c01), .second, .val (.long c23), .second, .val (.int at0), .val (.int sel), .val (.int jk), .val (.int k0), .val (.int k1), .val (.int k2), .val (.int k3), .val (.ref ca), .val (.int (3 : Int32)), .val (.int a), .val (.int b), .val (.int mi), .val (.int ot), .val (.int c1), .val (.int d1), .val (.ref oa), .val (.ref sa), .val (.ref wa), .val (.ref ka), .unset, .unset]) (st' := [(.int b), (.ref ka), (.int (at0 + (g121 a.toInt))), (.int c1), (.ref wa)]) rfl ?_
      refine own_iald X123 A123_ka d0_417 (by omega) (by omega) ?_
      show own_G p e below (T123.setTop (mkF m 418 #[.val (.long c01), .second, .val (.long c23), .second, .val (.int at0), .val (.int sel), .val (.int jk), .val (.int k0), .val (.int k1), .val (.int k2), .val (.int k3), .val (.ref ca), .val (.int (3 : Int32)), .val (.int a), .val (.int b), .val (.int mi), .val (.int ot), .val (.int c1), .val (.int d1), .val (.ref oa), .val (.ref sa), .val (.ref wa), .val (.ref ka), .unset, .unset] [(.int (g121 b.toInt)), (.int (at0 + (g121 a.toInt))), (.int c1), (.ref wa)])) _
      refine own_blk X123 B0_418_419 B0_418_419d (ls' := #[.val (.long c01), .second, .val (.long c23), .second, .val (.int at0), .val (.int sel), .val (.int jk), .val (.int k0), .val (.int k1), .val (.int k2), .val (.int k3), .val (.ref ca), .val (.int (3 : Int32)), .val (.int a), .val (.int b), .val (.int mi), .val (.int ot), .val (.int c1), .val (.int d1), .val (.ref oa), .val (.ref sa), .val (.ref wa), .val (.ref ka), .unset, .unset]) (st' := [(.int ((at0 + (g121 a.toInt)) + (g121 b.toInt))), (.int c1), (.ref wa)]) rfl ?_
      refine own_iast X123 A123 n_wa d0_419 (by omega) (by omega)  (fun h124 T124 X124 A124 W124 => ?_)
      have A124 : own_I Z h124 wa .int 4 (own_u g123 (c1.toInt) ((at0 + (g121 a.toInt)) + (g121 b.toInt))) := A124
      generalize eg124 : own_u g123 (c1.toInt) ((at0 + (g121 a.toInt)) + (g121 b.toInt)) = g124 at A124
      have A124_ca := own_I_other A123_ca W124 (by first | exact ne_ca_wa | exact fun q => ne_wa_ca q.symm)
      have A124_oa := own_I_other A123_oa W124 (by first | exact ne_oa_wa | exact fun q => ne_wa_oa q.symm)
      have A124_sa := own_I_other A123_sa W124 (by first | exact ne_sa_wa | exact fun q => ne_wa_sa q.symm)
      have A124_ka := own_I_other A123_ka W124 (by first | exact ne_ka_wa | exact fun q => ne_wa_ka q.symm)
      refine own_blk X124 B0_420_423 B0_420_423d (ls' := #[.val (.long c01), .second, .val (.long c23), .second, .val (.int at0), .val (.int sel), .val (.int jk), .val (.int k0), .val (.int k1), .val (.int k2), .val (.int k3), .val (.ref ca), .val (.int (3 : Int32)), .val (.int a), .val (.int b), .val (.int mi), .val (.int ot), .val (.int c1), .val (.int d1), .val (.ref oa), .val (.ref sa), .val (.ref wa), .val (.ref ka), .unset, .unset]) (st' := [(.int (4 : Int32)), (.int (3 : Int32))]) rfl ?_
      refine own_icmp X124 d0_423 (pc' := 451) (by decide) (fun c423 => ?_) (fun (c423 : ¬ ((3 : Int) < 4)) => by exfalso; omega)
      have c423 : (3 : Int) < 4 := c423
      refine own_blk X124 B0_451_459 B0_451_459d (ls' := #[.val (.long c01), .second, .val (.long c23), .second, .val (.int at0), .val (.int sel), .val (.int jk), .val (.int k0), .val (.int k1), .val (.int k2), .val (.int k3), .val (.ref ca), .val (.int (3 : Int32)), .val (.int a), .val (.int b), .val (.int mi), .val (.int ot), .val (.int c1), .val (.int d1), .val (.ref oa), .val (.ref sa), .val (.ref wa), .val (.ref ka), .unset, .unset]) (st' := [(.ref sa), (.int at0), (.ref oa), (.ref ca)]) rfl ?_
      have hSW : (own_u (own_u (own_u g104 (g97 0).toInt at0) (g97 1).toInt (at0 + (g5 (g97 0).toInt))) (g97 2).toInt ((at0 + (g5 (g97 0).toInt)) + (g5 (g97 1).toInt))) = g124 := by
        rw [o0, o1, o2]
        subst eg124 eg123 eg122 eg121 eg120 eg119 eg118 eg112 eg111 eg110 eg109 eg104 eg103 eg102 eg101 eg5 eg4 eg3 eg2
        rfl
      refine own_callS X124 (hw _ (List.mem_of_getElem? (i := 1) rfl)) (hw _ (List.mem_of_getElem? (i := 2) rfl)) (hw _ (List.mem_of_getElem? (i := 3) rfl)) (hw _ (List.mem_of_getElem? (i := 4) rfl)) (by decide) (c_sb3 l Z a0 hw ca oa at0 sa g5 g97 g104 h124 n0 X124.2.1 A124_ca A124_oa A124_sa n_sa ne_ca_sa ne_oa_sa (by rw [o0]; omega) (by rw [o1]; omega) (by rw [o2]; omega)) d0_459 [(.ref ca), (.ref oa), (.int at0), (.ref sa)] [] rfl rfl pd1 rfl rfl (by decide) (Nat.le_of_ble_eq_true rfl) (by decide) (by decide) (fun _ _ q => Nat.le_trans X124.2.1 q.2.1.1) (fun v125 h125 T125 X125 q125 => ?_)
      obtain ⟨rfl, K125, As125⟩ := q125
      show own_G p e below (T125.setTop (mkF m 462 #[.val (.long c01), .second, .val (.long c23), .second, .val (.int at0), .val (.int sel), .val (.int jk), .val (.int k0), .val (.int k1), .val (.int k2), .val (.int k3), .val (.ref ca), .val (.int (3 : Int32)), .val (.int a), .val (.int b), .val (.int mi), .val (.int ot), .val (.int c1), .val (.int d1), .val (.ref oa), .val (.ref sa), .val (.ref wa), .val (.ref ka), .unset, .unset] [])) _
      rw [hSW] at As125
      have B125_ca := own_I_keep A124_ca K125 (by simp; exact ne_ca_sa)
      have B125_oa := own_I_keep A124_oa K125 (by simp; exact ne_oa_sa)
      have B125_wa := own_I_keep A124 K125 (by simp; exact fun q => ne_sa_wa q.symm)
      refine own_blk X125 B0_462_465 B0_462_465d (ls' := #[.val (.long c01), .second, .val (.long c23), .second, .val (.int at0), .val (.int sel), .val (.int jk), .val (.int k0), .val (.int k1), .val (.int k2), .val (.int k3), .val (.ref ca), .val (.int (3 : Int32)), .val (.int a), .val (.int b), .val (.int mi), .val (.int ot), .val (.int c1), .val (.int d1), .val (.ref oa), .val (.ref sa), .val (.ref wa), .val (.ref ka), .unset, .unset]) (st' := [(.int (0 : Int32)), (.ref sa)]) rfl ?_
      refine own_iald X125 As125 d0_465 (by decide) (by decide) ?_
      show own_G p e below (T125.setTop (mkF m 466 #[.val (.long c01), .second, .val (.long c23), .second, .val (.int at0), .val (.int sel), .val (.int jk), .val (.int k0), .val (.int k1), .val (.int k2), .val (.int k3), .val (.ref ca), .val (.int (3 : Int32)), .val (.int a), .val (.int b), .val (.int mi), .val (.int ot), .val (.int c1), .val (.int d1), .val (.ref oa), .val (.ref sa), .val (.ref wa), .val (.ref ka), .unset, .unset] [(.int (g124 0))])) _
      refine own_blk X125 B0_466_469 B0_466_469d (ls' := #[.val (.long c01), .second, .val (.long c23), .second, .val (.int at0), .val (.int sel), .val (.int jk), .val (.int k0), .val (.int k1), .val (.int k2), .val (.int k3), .val (.ref ca), .val (.int (3 : Int32)), .val (.int a), .val (.int b), .val (.int mi), .val (.int ot), .val (.int c1), .val (.int d1), .val (.ref oa), .val (.ref sa), .val (.ref wa), .val (.ref ka), .unset, .unset]) (st' := [(.int (0 : Int32)), (.ref wa), (.int (g124 0))]) rfl ?_
      refine own_iald X125 B125_wa d0_469 (by decide) (by decide) ?_
      show own_G p e below (T125.setTop (mkF m 470 #[.val (.long c01), .second, .val (.long c23), .second, .val (.int at0), .val (.int sel), .val (.int jk), .val (.int k0), .val (.int k1), .val (.int k2), .val (.int k3), .val (.ref ca), .val (.int (3 : Int32)), .val (.int a), .val (.int b), .val (.int mi), .val (.int ot), .val (.int c1), .val (.int d1), .val (.ref oa), .val (.ref sa), .val (.ref wa), .val (.ref ka), .unset, .unset] [(.int (g124 0)), (.int (g124 0))])) _
      refine own_icmp X125 d0_470 (pc' := 510) (by decide) (fun (c470 : ¬ (g124 0).toInt = (g124 0).toInt) => by exfalso; exact c470 rfl) (fun c470 => ?_)
      have c470 : ¬ (¬ (g124 0).toInt = (g124 0).toInt) := c470
      refine own_blk X125 B0_473_476 B0_473_476d (ls' := #[.val (.long c01), .second, .val (.long c23), .second, .val (.int at0), .val (.int sel), .val (.int jk), .val (.int k0), .val (.int k1), .val (.int k2), .val (.int k3), .val (.ref ca), .val (.int (3 : Int32)), .val (.int a), .val (.int b), .val (.int mi), .val (.int ot), .val (.int c1), .val (.int d1), .val (.ref oa), .val (.ref sa), .val (.ref wa), .val (.ref ka), .unset, .unset]) (st' := [(.int (1 : Int32)), (.ref sa)]) rfl ?_
      refine own_iald X125 As125 d0_476 (by decide) (by decide) ?_
      show own_G p e below (T125.setTop (mkF m 477 #[.val (.long c01), .second, .val (.long c23), .second, .val (.int at0), .val (.int sel), .val (.int jk), .val (.int k0), .val (.int k1), .val (.int k2), .val (.int k3), .val (.ref ca), .val (.int (3 : Int32)), .val (.int a), .val (.int b), .val (.int mi), .val (.int ot), .val (.int c1), .val (.int d1), .val (.ref oa), .val (.ref sa), .val (.ref wa), .val (.ref ka), .unset, .unset] [(.int (g124 1))])) _
      refine own_blk X125 B0_477_480 B0_477_480d (ls' := #[.val (.long c01), .second, .val (.long c23), .second, .val (.int at0), .val (.int sel), .val (.int jk), .val (.int k0), .val (.int k1), .val (.int k2), .val (.int k3), .val (.ref ca), .val (.int (3 : Int32)), .val (.int a), .val (.int b), .val (.int mi), .val (.int ot), .val (.int c1), .val (.int d1), .val (.ref oa), .val (.ref sa), .val (.ref wa), .val (.ref ka), .unset, .unset]) (st' := [(.int (1 : Int32)), (.ref wa), (.int (g124 1))]) rfl ?_
      refine own_iald X125 B125_wa d0_480 (by decide) (by decide) ?_
      show own_G p e below (T125.setTop (mkF m 481 #[.val (.long c01), .second, .val (.long c23), .second, .val (.int at0), .val (.int sel), .val (.int jk), .val (.int k0), .val (.int k1), .val (.int k2), .val (.int k3), .val (.ref ca), .val (.int (3 : Int32)), .val (.int a), .val (.int b), .val (.int mi), .val (.int ot), .val (.int c1), .val (.int d1), .val (.ref oa), .val (.ref sa), .val (.ref wa), .val (.ref ka), .unset, .unset] [(.int (g124 1)), (.int (g124 1))])) _
      refine own_icmp X125 d0_481 (pc' := 510) (by decide) (fun (c481 : ¬ (g124 1).toInt = (g124 1).toInt) => by exfalso; exact c481 rfl) (fun c481 => ?_)
      have c481 : ¬ (¬ (g124 1).toInt = (g124 1).toInt) := c481
      refine own_blk X125 B0_484_487 B0_484_487d (ls' := #[.val (.long c01), .second, .val (.long c23), .second, .val (.int at0), .val (.int sel), .val (.int jk), .val (.int k0), .val (.int k1), .val (.int k2), .val (.int k3), .val (.ref ca), .val (.int (3 : Int32)), .val (.int a), .val (.int b), .val (.int mi), .val (.int ot), .val (.int c1), .val (.int d1), .val (.ref oa), .val (.ref sa), .val (.ref wa), .val (.ref ka), .unset, .unset]) (st' := [(.int (2 : Int32)), (.ref sa)]) rfl ?_
      refine own_iald X125 As125 d0_487 (by decide) (by decide) ?_
      show own_G p e below (T125.setTop (mkF m 488 #[.val (.long c01), .second, .val (.long c23), .second, .val (.int at0), .val (.int sel), .val (.int jk), .val (.int k0), .val (.int k1), .val (.int k2), .val (.int k3), .val (.ref ca), .val (.int (3 : Int32)), .val (.int a), .val (.int b), .val (.int mi), .val (.int ot), .val (.int c1), .val (.int d1), .val (.ref oa), .val (.ref sa), .val (.ref wa), .val (.ref ka), .unset, .unset] [(.int (g124 2))])) _
      refine own_blk X125 B0_488_491 B0_488_491d (ls' := #[.val (.long c01), .second, .val (.long c23), .second, .val (.int at0), .val (.int sel), .val (.int jk), .val (.int k0), .val (.int k1), .val (.int k2), .val (.int k3), .val (.ref ca), .val (.int (3 : Int32)), .val (.int a), .val (.int b), .val (.int mi), .val (.int ot), .val (.int c1), .val (.int d1), .val (.ref oa), .val (.ref sa), .val (.ref wa), .val (.ref ka), .unset, .unset]) (st' := [(.int (2 : Int32)), (.ref wa), (.int (g124 2))]) rfl ?_
      refine own_iald X125 B125_wa d0_491 (by decide) (by decide) ?_
      show own_G p e below (T125.setTop (mkF m 492 #[.val (.long c01), .second, .val (.long c23), .second, .val (.int at0), .val (.int sel), .val (.int jk), .val (.int k0), .val (.int k1), .val (.int k2), .val (.int k3), .val (.ref ca), .val (.int (3 : Int32)), .val (.int a), .val (.int b), .val (.int mi), .val (.int ot), .val (.int c1), .val (.int d1), .val (.ref oa), .val (.ref sa), .val (.ref wa), .val (.ref ka), .unset, .unset] [(.int (g124 2)), (.int (g124 2))])) _
      refine own_icmp X125 d0_492 (pc' := 510) (by decide) (fun (c492 : ¬ (g124 2).toInt = (g124 2).toInt) => by exfalso; exact c492 rfl) (fun c492 => ?_)
      have c492 : ¬ (¬ (g124 2).toInt = (g124 2).toInt) := c492
      refine own_blk X125 B0_495_498 B0_495_498d (ls' := #[.val (.long c01), .second, .val (.long c23), .second, .val (.int at0), .val (.int sel), .val (.int jk), .val (.int k0), .val (.int k1), .val (.int k2), .val (.int k3), .val (.ref ca), .val (.int (3 : Int32)), .val (.int a), .val (.int b), .val (.int mi), .val (.int ot), .val (.int c1), .val (.int d1), .val (.ref oa), .val (.ref sa), .val (.ref wa), .val (.ref ka), .unset, .unset]) (st' := [(.int (3 : Int32)), (.ref sa)]) rfl ?_
      refine own_iald X125 As125 d0_498 (by decide) (by decide) ?_
      show own_G p e below (T125.setTop (mkF m 499 #[.val (.long c01), .second, .val (.long c23), .second, .val (.int at0), .val (.int sel), .val (.int jk), .val (.int k0), .val (.int k1), .val (.int k2), .val (.int k3), .val (.ref ca), .val (.int (3 : Int32)), .val (.int a), .val (.int b), .val (.int mi), .val (.int ot), .val (.int c1), .val (.int d1), .val (.ref oa), .val (.ref sa), .val (.ref wa), .val (.ref ka), .unset, .unset] [(.int (g124 3))])) _
      refine own_blk X125 B0_499_502 B0_499_502d (ls' := #[.val (.long c01), .second, .val (.long c23), .second, .val (.int at0), .val (.int sel), .val (.int jk), .val (.int k0), .val (.int k1), .val (.int k2), .val (.int k3), .val (.ref ca), .val (.int (3 : Int32)), .val (.int a), .val (.int b), .val (.int mi), .val (.int ot), .val (.int c1), .val (.int d1), .val (.ref oa), .val (.ref sa), .val (.ref wa), .val (.ref ka), .unset, .unset]) (st' := [(.int (3 : Int32)), (.ref wa), (.int (g124 3))]) rfl ?_
      refine own_iald X125 B125_wa d0_502 (by decide) (by decide) ?_
      show own_G p e below (T125.setTop (mkF m 503 #[.val (.long c01), .second, .val (.long c23), .second, .val (.int at0), .val (.int sel), .val (.int jk), .val (.int k0), .val (.int k1), .val (.int k2), .val (.int k3), .val (.ref ca), .val (.int (3 : Int32)), .val (.int a), .val (.int b), .val (.int mi), .val (.int ot), .val (.int c1), .val (.int d1), .val (.ref oa), .val (.ref sa), .val (.ref wa), .val (.ref ka), .unset, .unset] [(.int (g124 3)), (.int (g124 3))])) _
      refine own_icmp X125 d0_503 (pc' := 510) (by decide) (fun (c503 : ¬ (g124 3).toInt = (g124 3).toInt) => by exfalso; exact c503 rfl) (fun c503 => ?_)
      have c503 : ¬ (¬ (g124 3).toInt = (g124 3).toInt) := c503
      refine own_blk X125 B0_506_507 B0_506_507d (ls' := #[.val (.long c01), .second, .val (.long c23), .second, .val (.int at0), .val (.int sel), .val (.int jk), .val (.int k0), .val (.int k1), .val (.int k2), .val (.int k3), .val (.ref ca), .val (.int (3 : Int32)), .val (.int a), .val (.int b), .val (.int mi), .val (.int ot), .val (.int c1), .val (.int d1), .val (.ref oa), .val (.ref sa), .val (.ref wa), .val (.ref ka), .unset, .unset]) (st' := [(.int (1 : Int32))]) rfl ?_
      refine own_goto X125 d0_507 (pc' := 511) (by decide) ?_
      refine own_blk X125 B0_511_516 B0_511_516d (ls' := #[.val (.long c01), .second, .val (.long c23), .second, .val (.int at0), .val (.int sel), .val (.int jk), .val (.int k0), .val (.int k1), .val (.int k2), .val (.int k3), .val (.ref ca), .val (.int (3 : Int32)), .val (.int a), .val (.int b), .val (.int mi), .val (.int ot), .val (.int c1), .val (.int d1), .val (.ref oa), .val (.ref sa), .val (.ref wa), .val (.ref ka), .val (.int (1 : Int32)), .unset]) (st' := [(.int (0 : Int32)), (.ref ca)]) rfl ?_
      refine own_iald X125 B125_ca d0_516 (by decide) (by decide) ?_
      show own_G p e below (T125.setTop (mkF m 517 #[.val (.long c01), .second, .val (.long c23), .second, .val (.int at0), .val (.int sel), .val (.int jk), .val (.int k0), .val (.int k1), .val (.int k2), .val (.int k3), .val (.ref ca), .val (.int (3 : Int32)), .val (.int a), .val (.int b), .val (.int mi), .val (.int ot), .val (.int c1), .val (.int d1), .val (.ref oa), .val (.ref sa), .val (.ref wa), .val (.ref ka), .val (.int (1 : Int32)), .unset] [(.int (g5 0))])) _
      refine own_blk X125 B0_517_519 B0_517_519d (ls' := #[.val (.long c01), .second, .val (.long c23), .second, .val (.int at0), .val (.int sel), .val (.int jk), .val (.int k0), .val (.int k1), .val (.int k2), .val (.int k3), .val (.ref ca), .val (.int (3 : Int32)), .val (.int a), .val (.int b), .val (.int mi), .val (.int ot), .val (.int c1), .val (.int d1), .val (.ref oa), .val (.ref sa), .val (.ref wa), .val (.ref ka), .val (.int (1 : Int32)), .unset]) (st' := [(.int k0), (.int (g5 0))]) rfl ?_
      refine own_icmp X125 d0_519 (pc' := 553) (by decide) (fun (c519 : ¬ (g5 0).toInt = k0.toInt) => by exfalso; exact c519 (by rw [← eg5, own_u_ne (by decide), ← eg4, own_u_ne (by decide), ← eg3, own_u_ne (by decide), ← eg2, own_u_eq rfl])) (fun c519 => ?_)
      have c519 : ¬ (¬ (g5 0).toInt = k0.toInt) := c519
      refine own_blk X125 B0_522_525 B0_522_525d (ls' := #[.val (.long c01), .second, .val (.long c23), .second, .val (.int at0), .val (.int sel), .val (.int jk), .val (.int k0), .val (.int k1), .val (.int k2), .val (.int k3), .val (.ref ca), .val (.int (3 : Int32)), .val (.int a), .val (.int b), .val (.int mi), .val (.int ot), .val (.int c1), .val (.int d1), .val (.ref oa), .val (.ref sa), .val (.ref wa), .val (.ref ka), .val (.int (1 : Int32)), .unset]) (st' := [(.int (1 : Int32)), (.ref ca)]) rfl ?_
      refine own_iald X125 B125_ca d0_525 (by decide) (by decide) ?_
      show own_G p e below (T125.setTop (mkF m 526 #[.val (.long c01), .second, .val (.long c23), .second, .val (.int at0), .val (.int sel), .val (.int jk), .val (.int k0), .val (.int k1), .val (.int k2), .val (.int k3), .val (.ref ca), .val (.int (3 : Int32)), .val (.int a), .val (.int b), .val (.int mi), .val (.int ot), .val (.int c1), .val (.int d1), .val (.ref oa), .val (.ref sa), .val (.ref wa), .val (.ref ka), .val (.int (1 : Int32)), .unset] [(.int (g5 1))])) _
      refine own_blk X125 B0_526_528 B0_526_528d (ls' := #[.val (.long c01), .second, .val (.long c23), .second, .val (.int at0), .val (.int sel), .val (.int jk), .val (.int k0), .val (.int k1), .val (.int k2), .val (.int k3), .val (.ref ca), .val (.int (3 : Int32)), .val (.int a), .val (.int b), .val (.int mi), .val (.int ot), .val (.int c1), .val (.int d1), .val (.ref oa), .val (.ref sa), .val (.ref wa), .val (.ref ka), .val (.int (1 : Int32)), .unset]) (st' := [(.int k1), (.int (g5 1))]) rfl ?_
      refine own_icmp X125 d0_528 (pc' := 553) (by decide) (fun (c528 : ¬ (g5 1).toInt = k1.toInt) => by exfalso; exact c528 (by rw [← eg5, own_u_ne (by decide), ← eg4, own_u_ne (by decide), ← eg3, own_u_eq rfl])) (fun c528 => ?_)
      have c528 : ¬ (¬ (g5 1).toInt = k1.toInt) := c528
      refine own_blk X125 B0_531_534 B0_531_534d (ls' := #[.val (.long c01), .second, .val (.long c23), .second, .val (.int at0), .val (.int sel), .val (.int jk), .val (.int k0), .val (.int k1), .val (.int k2), .val (.int k3), .val (.ref ca), .val (.int (3 : Int32)), .val (.int a), .val (.int b), .val (.int mi), .val (.int ot), .val (.int c1), .val (.int d1), .val (.ref oa), .val (.ref sa), .val (.ref wa), .val (.ref ka), .val (.int (1 : Int32)), .unset]) (st' := [(.int (2 : Int32)), (.ref ca)]) rfl ?_
      refine own_iald X125 B125_ca d0_534 (by decide) (by decide) ?_
      show own_G p e below (T125.setTop (mkF m 535 #[.val (.long c01), .second, .val (.long c23), .second, .val (.int at0), .val (.int sel), .val (.int jk), .val (.int k0), .val (.int k1), .val (.int k2), .val (.int k3), .val (.ref ca), .val (.int (3 : Int32)), .val (.int a), .val (.int b), .val (.int mi), .val (.int ot), .val (.int c1), .val (.int d1), .val (.ref oa), .val (.ref sa), .val (.ref wa), .val (.ref ka), .val (.int (1 : Int32)), .unset] [(.int (g5 2))])) _
      refine own_blk X125 B0_535_537 B0_535_537d (ls' := #[.val (.long c01), .second, .val (.long c23), .second, .val (.int at0), .val (.int sel), .val (.int jk), .val (.int k0), .val (.int k1), .val (.int k2), .val (.int k3), .val (.ref ca), .val (.int (3 : Int32)), .val (.int a), .val (.int b), .val (.int mi), .val (.int ot), .val (.int c1), .val (.int d1), .val (.ref oa), .val (.ref sa), .val (.ref wa), .val (.ref ka), .val (.int (1 : Int32)), .unset]) (st' := [(.int k2), (.int (g5 2))]) rfl ?_
      refine own_icmp X125 d0_537 (pc' := 553) (by decide) (fun (c537 : ¬ (g5 2).toInt = k2.toInt) => by exfalso; exact c537 (by rw [← eg5, own_u_ne (by decide), ← eg4, own_u_eq rfl])) (fun c537 => ?_)
      have c537 : ¬ (¬ (g5 2).toInt = k2.toInt) := c537
      refine own_blk X125 B0_540_543 B0_540_543d (ls' := #[.val (.long c01), .second, .val (.long c23), .second, .val (.int at0), .val (.int sel), .val (.int jk), .val (.int k0), .val (.int k1), .val (.int k2), .val (.int k3), .val (.ref ca), .val (.int (3 : Int32)), .val (.int a), .val (.int b), .val (.int mi), .val (.int ot), .val (.int c1), .val (.int d1), .val (.ref oa), .val (.ref sa), .val (.ref wa), .val (.ref ka), .val (.int (1 : Int32)), .unset]) (st' := [(.int (3 : Int32)), (.ref ca)]) rfl ?_
      refine own_iald X125 B125_ca d0_543 (by decide) (by decide) ?_
      show own_G p e below (T125.setTop (mkF m 544 #[.val (.long c01), .second, .val (.long c23), .second, .val (.int at0), .val (.int sel), .val (.int jk), .val (.int k0), .val (.int k1), .val (.int k2), .val (.int k3), .val (.ref ca), .val (.int (3 : Int32)), .val (.int a), .val (.int b), .val (.int mi), .val (.int ot), .val (.int c1), .val (.int d1), .val (.ref oa), .val (.ref sa), .val (.ref wa), .val (.ref ka), .val (.int (1 : Int32)), .unset] [(.int (g5 3))])) _
      refine own_blk X125 B0_544_546 B0_544_546d (ls' := #[.val (.long c01), .second, .val (.long c23), .second, .val (.int at0), .val (.int sel), .val (.int jk), .val (.int k0), .val (.int k1), .val (.int k2), .val (.int k3), .val (.ref ca), .val (.int (3 : Int32)), .val (.int a), .val (.int b), .val (.int mi), .val (.int ot), .val (.int c1), .val (.int d1), .val (.ref oa), .val (.ref sa), .val (.ref wa), .val (.ref ka), .val (.int (1 : Int32)), .unset]) (st' := [(.int k3), (.int (g5 3))]) rfl ?_
      refine own_icmp X125 d0_546 (pc' := 553) (by decide) (fun (c546 : ¬ (g5 3).toInt = k3.toInt) => by exfalso; exact c546 (by rw [← eg5, own_u_eq rfl])) (fun c546 => ?_)
      have c546 : ¬ (¬ (g5 3).toInt = k3.toInt) := c546
      refine own_blk X125 B0_549_550 B0_549_550d (ls' := #[.val (.long c01), .second, .val (.long c23), .second, .val (.int at0), .val (.int sel), .val (.int jk), .val (.int k0), .val (.int k1), .val (.int k2), .val (.int k3), .val (.ref ca), .val (.int (3 : Int32)), .val (.int a), .val (.int b), .val (.int mi), .val (.int ot), .val (.int c1), .val (.int d1), .val (.ref oa), .val (.ref sa), .val (.ref wa), .val (.ref ka), .val (.int (1 : Int32)), .unset]) (st' := [(.int (1 : Int32))]) rfl ?_
      refine own_goto X125 d0_550 (pc' := 554) (by decide) ?_
      refine own_blk X125 B0_554_558 B0_554_558d (ls' := #[.val (.long c01), .second, .val (.long c23), .second, .val (.int at0), .val (.int sel), .val (.int jk), .val (.int k0), .val (.int k1), .val (.int k2), .val (.int k3), .val (.ref ca), .val (.int (3 : Int32)), .val (.int a), .val (.int b), .val (.int mi), .val (.int ot), .val (.int c1), .val (.int d1), .val (.ref oa), .val (.ref sa), .val (.ref wa), .val (.ref ka), .val (.int (1 : Int32)), .val (.int (1 : Int32))]) (st' := [(.int (1 : Int32))]) rfl ?_
      refine own_if X125 d0_558 (pc' := 578) (by decide) (fun (c558 : (1 : Int) = 0) => by exfalso; omega) (fun c558 => ?_)
      have c558 : ¬ ((1 : Int) = 0) := c558
      refine own_blk X125 B0_561_563 B0_561_563d (ls' := #[.val (.long c01), .second, .val (.long c23), .second, .val (.int at0), .val (.int sel), .val (.int jk), .val (.int k0), .val (.int k1), .val (.int k2), .val (.int k3), .val (.ref ca), .val (.int (3 : Int32)), .val (.int a), .val (.int b), .val (.int mi), .val (.int ot), .val (.int c1), .val (.int d1), .val (.ref oa), .val (.ref sa), .val (.ref wa), .val (.ref ka), .val (.int (1 : Int32)), .val (.int (1 : Int32))]) (st' := [(.int (1 : Int32))]) rfl ?_
      refine own_if X125 d0_563 (pc' := 578) (by decide) (fun (c563 : (1 : Int) = 0) => by exfalso; omega) (fun c563 => ?_)
      have c563 : ¬ ((1 : Int) = 0) := c563
      refine own_blk X125 B0_566_568 B0_566_568d (ls' := #[.val (.long c01), .second, .val (.long c23), .second, .val (.int at0), .val (.int sel), .val (.int jk), .val (.int k0), .val (.int k1), .val (.int k2), .val (.int k3), .val (.ref ca), .val (.int (3 : Int32)), .val (.int a), .val (.int b), .val (.int mi), .val (.int ot), .val (.int c1), .val (.int d1), .val (.ref oa), .val (.ref sa), .val (.ref wa), .val (.ref ka), .val (.int (1 : Int32)), .val (.int (1 : Int32))]) (st' := [(.ref oa)]) rfl ?_
      refine own_len X125 B125_oa d0_568 ?_
      show own_G p e below (T125.setTop (mkF m 569 #[.val (.long c01), .second, .val (.long c23), .second, .val (.int at0), .val (.int sel), .val (.int jk), .val (.int k0), .val (.int k1), .val (.int k2), .val (.int k3), .val (.ref ca), .val (.int (3 : Int32)), .val (.int a), .val (.int b), .val (.int mi), .val (.int ot), .val (.int c1), .val (.int d1), .val (.ref oa), .val (.ref sa), .val (.ref wa), .val (.ref ka), .val (.int (1 : Int32)), .val (.int (1 : Int32))] [(.int (3 : Int32))])) _
      refine own_blk X125 B0_569_571 B0_569_571d (ls' := #[.val (.long c01), .second, .val (.long c23), .second, .val (.int at0), .val (.int sel), .val (.int jk), .val (.int k0), .val (.int k1), .val (.int k2), .val (.int k3), .val (.ref ca), .val (.int (3 : Int32)), .val (.int a), .val (.int b), .val (.int mi), .val (.int ot), .val (.int c1), .val (.int d1), .val (.ref oa), .val (.ref sa), .val (.ref wa), .val (.ref ka), .val (.int (1 : Int32)), .val (.int (1 : Int32))]) (st' := [(.int (3 : Int32)), (.int (3 : Int32))]) rfl ?_
      refine own_icmp X125 d0_571 (pc' := 578) (by decide) (fun (c571 : ¬ (3 : Int) = 3) => by exfalso; omega) (fun c571 => ?_)
      have c571 : ¬ (¬ (3 : Int) = 3) := c571
      refine own_blk X125 B0_574_575 B0_574_575d (ls' := #[.val (.long c01), .second, .val (.long c23), .second, .val (.int at0), .val (.int sel), .val (.int jk), .val (.int k0), .val (.int k1), .val (.int k2), .val (.int k3), .val (.ref ca), .val (.int (3 : Int32)), .val (.int a), .val (.int b), .val (.int mi), .val (.int ot), .val (.int c1), .val (.int d1), .val (.ref oa), .val (.ref sa), .val (.ref wa), .val (.ref ka), .val (.int (1 : Int32)), .val (.int (1 : Int32))]) (st' := [(.int (1 : Int32))]) rfl ?_
      refine own_goto X125 d0_575 (pc' := 579) (by decide) ?_
      exact own_retN X125 (by simp) d0_579 (v' := (1 : Int32)) (rfl) (by decide) (by decide) (rfl)
    · skip
      refine own_blk X5 B0_166_168 B0_166_168d (ls' := #[.val (.long c01), .second, .val (.long c23), .second, .val (.int at0), .val (.int sel), .val (.int jk), .val (.int k0), .val (.int k1), .val (.int k2), .val (.int k3), .val (.ref ca), .val (.int (4 : Int32)), .val (.int a), .val (.int b), .val (.int mi), .val (.int ot), .val (.int c1), .val (.int d1), .unset, .unset, .unset, .unset, .unset, .unset]) (st' := [(.int (4 : Int32))]) rfl ?_
      refine own_if X5 d0_168 (pc' := 179) (by decide) (fun c168 => ?_) (fun (c168 : ¬ (¬ (4 : Int) = 0)) => by exfalso; omega)
      have c168 : ¬ (4 : Int) = 0 := c168
      refine own_blk X5 B0_179_182 B0_179_182d (ls' := #[.val (.long c01), .second, .val (.long c23), .second, .val (.int at0), .val (.int sel), .val (.int jk), .val (.int k0), .val (.int k1), .val (.int k2), .val (.int k3), .val (.ref ca), .val (.int (4 : Int32)), .val (.int a), .val (.int b), .val (.int mi), .val (.int ot), .val (.int c1), .val (.int d1), .unset, .unset, .unset, .unset, .unset, .unset]) (st' := [(.int (1 : Int32)), (.int (4 : Int32))]) rfl ?_
      refine own_icmp X5 d0_182 (pc' := 198) (by decide) (fun c182 => ?_) (fun (c182 : ¬ (¬ (4 : Int) = 1)) => by exfalso; omega)
      have c182 : ¬ (4 : Int) = 1 := c182
      refine own_blk X5 B0_198_201 B0_198_201d (ls' := #[.val (.long c01), .second, .val (.long c23), .second, .val (.int at0), .val (.int sel), .val (.int jk), .val (.int k0), .val (.int k1), .val (.int k2), .val (.int k3), .val (.ref ca), .val (.int (4 : Int32)), .val (.int a), .val (.int b), .val (.int mi), .val (.int ot), .val (.int c1), .val (.int d1), .unset, .unset, .unset, .unset, .unset, .unset]) (st' := [(.int (2 : Int32)), (.int (4 : Int32))]) rfl ?_
      refine own_icmp X5 d0_201 (pc' := 222) (by decide) (fun c201 => ?_) (fun (c201 : ¬ (¬ (4 : Int) = 2)) => by exfalso; omega)
      have c201 : ¬ (4 : Int) = 2 := c201
      refine own_blk X5 B0_222_225 B0_222_225d (ls' := #[.val (.long c01), .second, .val (.long c23), .second, .val (.int at0), .val (.int sel), .val (.int jk), .val (.int k0), .val (.int k1), .val (.int k2), .val (.int k3), .val (.ref ca), .val (.int (4 : Int32)), .val (.int a), .val (.int b), .val (.int mi), .val (.int ot), .val (.int c1), .val (.int d1), .unset, .unset, .unset, .unset, .unset, .unset]) (st' := [(.int (3 : Int32)), (.int (4 : Int32))]) rfl ?_
      refine own_icmp X5 d0_225 (pc' := 251) (by decide) (fun c225 => ?_) (fun (c225 : ¬ (¬ (4 : Int) = 3)) => by exfalso; omega)
      have c225 : ¬ (4 : Int) = 3 := c225
      refine own_blk X5 B0_251_252 B0_251_252d (ls' := #[.val (.long c01), .second, .val (.long c23), .second, .val (.int at0), .val (.int sel), .val (.int jk), .val (.int k0), .val (.int k1), .val (.int k2), .val (.int k3), .val (.ref ca), .val (.int (4 : Int32)), .val (.int a), .val (.int b), .val (.int mi), .val (.int ot), .val (.int c1), .val (.int d1), .unset, .unset, .unset, .unset, .unset, .unset]) (st' := [(.int (4 : Int32))]) rfl ?_
      have lt_ca := own_A_lt A5
      refine own_newI X5 (hw _ (List.mem_of_getElem? (i := 0) rfl)) rfl d0_252 (by decide) 4 (by decide) (by decide) (by decide) (by decide) (fun h126 T126 X126 E126 A126 => ?_)
      have n_oa : n0 ≤ h5.size := X5.2.1
      have A126 : own_I Z h126 h5.size .int 4 (fun _ => (0 : Int32)) := A126
      generalize ez_oa : h5.size = oa at A126 n_oa lt_ca ⊢
      have A127 := own_I_ext A5 E126
      have ne_ca_oa : ca ≠ oa := Nat.ne_of_lt lt_ca
      show own_G p e below (T126.setTop (mkF m 254 #[.val (.long c01), .second, .val (.long c23), .second, .val (.int at0), .val (.int sel), .val (.int jk), .val (.int k0), .val (.int k1), .val (.int k2), .val (.int k3), .val (.ref ca), .val (.int (4 : Int32)), .val (.int a), .val (.int b), .val (.int mi), .val (.int ot), .val (.int c1), .val (.int d1), .unset, .unset, .unset, .unset, .unset, .unset] [(.ref oa)])) _
      refine own_blk X126 B0_254_258 B0_254_258d (ls' := #[.val (.long c01), .second, .val (.long c23), .second, .val (.int at0), .val (.int sel), .val (.int jk), .val (.int k0), .val (.int k1), .val (.int k2), .val (.int k3), .val (.ref ca), .val (.int (4 : Int32)), .val (.int a), .val (.int b), .val (.int mi), .val (.int ot), .val (.int c1), .val (.int d1), .unset, .unset, .unset, .unset, .unset, .unset]) (st' := [(.int a), (.int (0 : Int32)), (.ref oa), (.ref oa)]) rfl ?_
      refine own_iast X126 A126 n_oa d0_258 (by decide) (by decide)  (fun h128 T128 X128 A128 W128 => ?_)
      have A128 : own_I Z h128 oa .int 4 (own_u (fun _ => (0 : Int32)) (0) a) := A128
      generalize eg128 : own_u (fun _ => (0 : Int32)) (0) a = g128 at A128
      have A128_ca := own_I_other A127 W128 (by first | exact ne_ca_oa | exact fun q => ne_oa_ca q.symm)
      refine own_blk X128 B0_259_263 B0_259_263d (ls' := #[.val (.long c01), .second, .val (.long c23), .second, .val (.int at0), .val (.int sel), .val (.int jk), .val (.int k0), .val (.int k1), .val (.int k2), .val (.int k3), .val (.ref ca), .val (.int (4 : Int32)), .val (.int a), .val (.int b), .val (.int mi), .val (.int ot), .val (.int c1), .val (.int d1), .unset, .unset, .unset, .unset, .unset, .unset]) (st' := [(.int b), (.int (1 : Int32)), (.ref oa), (.ref oa)]) rfl ?_
      refine own_iast X128 A128 n_oa d0_263 (by decide) (by decide)  (fun h129 T129 X129 A129 W129 => ?_)
      have A129 : own_I Z h129 oa .int 4 (own_u g128 (1) b) := A129
      generalize eg129 : own_u g128 (1) b = g129 at A129
      have A129_ca := own_I_other A128_ca W129 (by first | exact ne_ca_oa | exact fun q => ne_oa_ca q.symm)
      refine own_blk X129 B0_264_268 B0_264_268d (ls' := #[.val (.long c01), .second, .val (.long c23), .second, .val (.int at0), .val (.int sel), .val (.int jk), .val (.int k0), .val (.int k1), .val (.int k2), .val (.int k3), .val (.ref ca), .val (.int (4 : Int32)), .val (.int a), .val (.int b), .val (.int mi), .val (.int ot), .val (.int c1), .val (.int d1), .unset, .unset, .unset, .unset, .unset, .unset]) (st' := [(.int c1), (.int (2 : Int32)), (.ref oa), (.ref oa)]) rfl ?_
      refine own_iast X129 A129 n_oa d0_268 (by decide) (by decide)  (fun h130 T130 X130 A130 W130 => ?_)
      have A130 : own_I Z h130 oa .int 4 (own_u g129 (2) c1) := A130
      generalize eg130 : own_u g129 (2) c1 = g130 at A130
      have A130_ca := own_I_other A129_ca W130 (by first | exact ne_ca_oa | exact fun q => ne_oa_ca q.symm)
      refine own_blk X130 B0_269_273 B0_269_273d (ls' := #[.val (.long c01), .second, .val (.long c23), .second, .val (.int at0), .val (.int sel), .val (.int jk), .val (.int k0), .val (.int k1), .val (.int k2), .val (.int k3), .val (.ref ca), .val (.int (4 : Int32)), .val (.int a), .val (.int b), .val (.int mi), .val (.int ot), .val (.int c1), .val (.int d1), .unset, .unset, .unset, .unset, .unset, .unset]) (st' := [(.int d1), (.int (3 : Int32)), (.ref oa), (.ref oa)]) rfl ?_
      refine own_iast X130 A130 n_oa d0_273 (by decide) (by decide)  (fun h131 T131 X131 A131 W131 => ?_)
      have A131 : own_I Z h131 oa .int 4 (own_u g130 (3) d1) := A131
      generalize eg131 : own_u g130 (3) d1 = g131 at A131
      have A131_ca := own_I_other A130_ca W131 (by first | exact ne_ca_oa | exact fun q => ne_oa_ca q.symm)
      refine own_blk X131 B0_274_276 B0_274_276d (ls' := #[.val (.long c01), .second, .val (.long c23), .second, .val (.int at0), .val (.int sel), .val (.int jk), .val (.int k0), .val (.int k1), .val (.int k2), .val (.int k3), .val (.ref ca), .val (.int (4 : Int32)), .val (.int a), .val (.int b), .val (.int mi), .val (.int ot), .val (.int c1), .val (.int d1), .val (.ref oa), .unset, .unset, .unset, .unset, .unset]) (st' := []) rfl ?_
      have o0 : g131 0 = a := by rw [← eg131, own_u_ne (by decide), ← eg130, own_u_ne (by decide), ← eg129, own_u_ne (by decide), ← eg128, own_u_eq rfl]
      have o1 : g131 1 = b := by rw [← eg131, own_u_ne (by decide), ← eg130, own_u_ne (by decide), ← eg129, own_u_eq rfl]
      have o2 : g131 2 = c1 := by rw [← eg131, own_u_ne (by decide), ← eg130, own_u_eq rfl]
      have o3 : g131 3 = d1 := by rw [← eg131, own_u_eq rfl]
      refine own_blk X131 B0_276_277 B0_276_277d (ls' := #[.val (.long c01), .second, .val (.long c23), .second, .val (.int at0), .val (.int sel), .val (.int jk), .val (.int k0), .val (.int k1), .val (.int k2), .val (.int k3), .val (.ref ca), .val (.int (4 : Int32)), .val (.int a), .val (.int b), .val (.int mi), .val (.int ot), .val (.int c1), .val (.int d1), .val (.ref oa), .unset, .unset, .unset, .unset, .unset]) (st' := [(.int (4 : Int32))]) rfl ?_
      have lt_ca := own_A_lt A131_ca
      have lt_oa := own_A_lt A131
      refine own_newI X131 (hw _ (List.mem_of_getElem? (i := 0) rfl)) rfl d0_277 (by decide) 4 (by decide) (by decide) (by decide) (by decide) (fun h132 T132 X132 E132 A132 => ?_)
      have n_sa : n0 ≤ h131.size := X131.2.1
      have A132 : own_I Z h132 h131.size .int 4 (fun _ => (0 : Int32)) := A132
      generalize ez_sa : h131.size = sa at A132 n_sa lt_ca lt_oa ⊢
      have A133 := own_I_ext A131_ca E132
      have A134 := own_I_ext A131 E132
      have ne_ca_sa : ca ≠ sa := Nat.ne_of_lt lt_ca
      have ne_oa_sa : oa ≠ sa := Nat.ne_of_lt lt_oa
      show own_G p e below (T132.setTop (mkF m 279 #[.val (.long c01), .second, .val (.long c23), .second, .val (.int at0), .val (.int sel), .val (.int jk), .val (.int k0), .val (.int k1), .val (.int k2), .val (.int k3), .val (.ref ca), .val (.int (4 : Int32)), .val (.int a), .val (.int b), .val (.int mi), .val (.int ot), .val (.int c1), .val (.int d1), .val (.ref oa), .unset, .unset, .unset, .unset, .unset] [(.ref sa)])) _
      refine own_blk X132 B0_279_283 B0_279_283d (ls' := #[.val (.long c01), .second, .val (.long c23), .second, .val (.int at0), .val (.int sel), .val (.int jk), .val (.int k0), .val (.int k1), .val (.int k2), .val (.int k3), .val (.ref ca), .val (.int (4 : Int32)), .val (.int a), .val (.int b), .val (.int mi), .val (.int ot), .val (.int c1), .val (.int d1), .val (.ref oa), .unset, .unset, .unset, .unset, .unset]) (st' := [(.int jk), (.int (0 : Int32)), (.ref sa), (.ref sa)]) rfl ?_
      refine own_iast X132 A132 n_sa d0_283 (by decide) (by decide)  (fun h135 T135 X135 A135 W135 => ?_)
      have A135 : own_I Z h135 sa .int 4 (own_u (fun _ => (0 : Int32)) (0) jk) := A135
      generalize eg135 : own_u (fun _ => (0 : Int32)) (0) jk = g135 at A135
      have A135_ca := own_I_other A133 W135 (by first | exact ne_ca_sa | exact fun q => ne_sa_ca q.symm)
      have A135_oa := own_I_other A134 W135 (by first | exact ne_oa_sa | exact fun q => ne_sa_oa q.symm)
      refine own_blk X135 B0_284_290 B0_284_290d (ls' := #[.val (.long c01), .second, .val (.long c23), .second, .val (.int at0), .val (.int sel), .val (.int jk), .val (.int k0), .val (.int k1), .val (.int k2), .val (.int k3), .val (.ref ca), .val (.int (4 : Int32)), .val (.int a), .val (.int b), .val (.int mi), .val (.int ot), .val (.int c1), .val (.int d1), .val (.ref oa), .unset, .unset, .unset, .unset, .unset]) (st' := [(.int (jk + (1 : Int32))), (.int (1 : Int32)), (.ref sa), (.ref sa)]) rfl ?_
      refine own_iast X135 A135 n_sa d0_290 (by decide) (by decide)  (fun h136 T136 X136 A136 W136 => ?_)
      have A136 : own_I Z h136 sa .int 4 (own_u g135 (1) (jk + (1 : Int32))) := A136
      generalize eg136 : own_u g135 (1) (jk + (1 : Int32)) = g136 at A136
      have A136_ca := own_I_other A135_ca W136 (by first | exact ne_ca_sa | exact fun q => ne_sa_ca q.symm)
      have A136_oa := own_I_other A135_oa W136 (by first | exact ne_oa_sa | exact fun q => ne_sa_oa q.symm)
      refine own_blk X136 B0_291_297 B0_291_297d (ls' := #[.val (.long c01), .second, .val (.long c23), .second, .val (.int at0), .val (.int sel), .val (.int jk), .val (.int k0), .val (.int k1), .val (.int k2), .val (.int k3), .val (.ref ca), .val (.int (4 : Int32)), .val (.int a), .val (.int b), .val (.int mi), .val (.int ot), .val (.int c1), .val (.int d1), .val (.ref oa), .unset, .unset, .unset, .unset, .unset]) (st' := [(.int (jk + (2 : Int32))), (.int (2 : Int32)), (.ref sa), (.ref sa)]) rfl ?_
      refine own_iast X136 A136 n_sa d0_297 (by decide) (by decide)  (fun h137 T137 X137 A137 W137 => ?_)
      have A137 : own_I Z h137 sa .int 4 (own_u g136 (2) (jk + (2 : Int32))) := A137
      generalize eg137 : own_u g136 (2) (jk + (2 : Int32)) = g137 at A137
      have A137_ca := own_I_other A136_ca W137 (by first | exact ne_ca_sa | exact fun q => ne_sa_ca q.symm)
      have A137_oa := own_I_other A136_oa W137 (by first | exact ne_oa_sa | exact fun q => ne_sa_oa q.symm)
      refine own_blk X137 B0_298_304 B0_298_304d (ls' := #[.val (.long c01), .second, .val (.long c23), .second, .val (.int at0), .val (.int sel), .val (.int jk), .val (.int k0), .val (.int k1), .val (.int k2), .val (.int k3), .val (.ref ca), .val (.int (4 : Int32)), .val (.int a), .val (.int b), .val (.int mi), .val (.int ot), .val (.int c1), .val (.int d1), .val (.ref oa), .unset, .unset, .unset, .unset, .unset]) (st' := [(.int (jk + (3 : Int32))), (.int (3 : Int32)), (.ref sa), (.ref sa)]) rfl ?_
      refine own_iast X137 A137 n_sa d0_304 (by decide) (by decide)  (fun h138 T138 X138 A138 W138 => ?_)
      have A138 : own_I Z h138 sa .int 4 (own_u g137 (3) (jk + (3 : Int32))) := A138
      generalize eg138 : own_u g137 (3) (jk + (3 : Int32)) = g138 at A138
      have A138_ca := own_I_other A137_ca W138 (by first | exact ne_ca_sa | exact fun q => ne_sa_ca q.symm)
      have A138_oa := own_I_other A137_oa W138 (by first | exact ne_oa_sa | exact fun q => ne_sa_oa q.symm)
      refine own_blk X138 B0_305_308 B0_305_308d (ls' := #[.val (.long c01), .second, .val (.long c23), .second, .val (.int at0), .val (.int sel), .val (.int jk), .val (.int k0), .val (.int k1), .val (.int k2), .val (.int k3), .val (.ref ca), .val (.int (4 : Int32)), .val (.int a), .val (.int b), .val (.int mi), .val (.int ot), .val (.int c1), .val (.int d1), .val (.ref oa), .val (.ref sa), .unset, .unset, .unset, .unset]) (st' := [(.int (4 : Int32))]) rfl ?_
      have lt_ca := own_A_lt A138_ca
      have lt_oa := own_A_lt A138_oa
      have lt_sa := own_A_lt A138
      refine own_newI X138 (hw _ (List.mem_of_getElem? (i := 0) rfl)) rfl d0_308 (by decide) 4 (by decide) (by decide) (by decide) (by decide) (fun h139 T139 X139 E139 A139 => ?_)
      have n_wa : n0 ≤ h138.size := X138.2.1
      have A139 : own_I Z h139 h138.size .int 4 (fun _ => (0 : Int32)) := A139
      generalize ez_wa : h138.size = wa at A139 n_wa lt_ca lt_oa lt_sa ⊢
      have A140 := own_I_ext A138_ca E139
      have A141 := own_I_ext A138_oa E139
      have A142 := own_I_ext A138 E139
      have ne_ca_wa : ca ≠ wa := Nat.ne_of_lt lt_ca
      have ne_oa_wa : oa ≠ wa := Nat.ne_of_lt lt_oa
      have ne_sa_wa : sa ≠ wa := Nat.ne_of_lt lt_sa
      show own_G p e below (T139.setTop (mkF m 310 #[.val (.long c01), .second, .val (.long c23), .second, .val (.int at0), .val (.int sel), .val (.int jk), .val (.int k0), .val (.int k1), .val (.int k2), .val (.int k3), .val (.ref ca), .val (.int (4 : Int32)), .val (.int a), .val (.int b), .val (.int mi), .val (.int ot), .val (.int c1), .val (.int d1), .val (.ref oa), .val (.ref sa), .unset, .unset, .unset, .unset] [(.ref wa)])) _
      refine own_blk X139 B0_310_314 B0_310_314d (ls' := #[.val (.long c01), .second, .val (.long c23), .second, .val (.int at0), .val (.int sel), .val (.int jk), .val (.int k0), .val (.int k1), .val (.int k2), .val (.int k3), .val (.ref ca), .val (.int (4 : Int32)), .val (.int a), .val (.int b), .val (.int mi), .val (.int ot), .val (.int c1), .val (.int d1), .val (.ref oa), .val (.ref sa), .unset, .unset, .unset, .unset]) (st' := [(.int jk), (.int (0 : Int32)), (.ref wa), (.ref wa)]) rfl ?_
      refine own_iast X139 A139 n_wa d0_314 (by decide) (by decide)  (fun h143 T143 X143 A143 W143 => ?_)
      have A143 : own_I Z h143 wa .int 4 (own_u (fun _ => (0 : Int32)) (0) jk) := A143
      generalize eg143 : own_u (fun _ => (0 : Int32)) (0) jk = g143 at A143
      have A143_ca := own_I_other A140 W143 (by first | exact ne_ca_wa | exact fun q => ne_wa_ca q.symm)
      have A143_oa := own_I_other A141 W143 (by first | exact ne_oa_wa | exact fun q => ne_wa_oa q.symm)
      have A143_sa := own_I_other A142 W143 (by first | exact ne_sa_wa | exact fun q => ne_wa_sa q.symm)
      refine own_blk X143 B0_315_321 B0_315_321d (ls' := #[.val (.long c01), .second, .val (.long c23), .second, .val (.int at0), .val (.int sel), .val (.int jk), .val (.int k0), .val (.int k1), .val (.int k2), .val (.int k3), .val (.ref ca), .val (.int (4 : Int32)), .val (.int a), .val (.int b), .val (.int mi), .val (.int ot), .val (.int c1), .val (.int d1), .val (.ref oa), .val (.ref sa), .unset, .unset, .unset, .unset]) (st' := [(.int (jk + (1 : Int32))), (.int (1 : Int32)), (.ref wa), (.ref wa)]) rfl ?_
      refine own_iast X143 A143 n_wa d0_321 (by decide) (by decide)  (fun h144 T144 X144 A144 W144 => ?_)
      have A144 : own_I Z h144 wa .int 4 (own_u g143 (1) (jk + (1 : Int32))) := A144
      generalize eg144 : own_u g143 (1) (jk + (1 : Int32)) = g144 at A144
      have A144_ca := own_I_other A143_ca W144 (by first | exact ne_ca_wa | exact fun q => ne_wa_ca q.symm)
      have A144_oa := own_I_other A143_oa W144 (by first | exact ne_oa_wa | exact fun q => ne_wa_oa q.symm)
      have A144_sa := own_I_other A143_sa W144 (by first | exact ne_sa_wa | exact fun q => ne_wa_sa q.symm)
      refine own_blk X144 B0_322_328 B0_322_328d (ls' := #[.val (.long c01), .second, .val (.long c23), .second, .val (.int at0), .val (.int sel), .val (.int jk), .val (.int k0), .val (.int k1), .val (.int k2), .val (.int k3), .val (.ref ca), .val (.int (4 : Int32)), .val (.int a), .val (.int b), .val (.int mi), .val (.int ot), .val (.int c1), .val (.int d1), .val (.ref oa), .val (.ref sa), .unset, .unset, .unset, .unset]) (st' := [(.int (jk + (2 : Int32))), (.int (2 : Int32)), (.ref wa), (.ref wa)]) rfl ?_
      refine own_iast X144 A144 n_wa d0_328 (by decide) (by decide)  (fun h145 T145 X145 A145 W145 => ?_)
      have A145 : own_I Z h145 wa .int 4 (own_u g144 (2) (jk + (2 : Int32))) := A145
      generalize eg145 : own_u g144 (2) (jk + (2 : Int32)) = g145 at A145
      have A145_ca := own_I_other A144_ca W145 (by first | exact ne_ca_wa | exact fun q => ne_wa_ca q.symm)
      have A145_oa := own_I_other A144_oa W145 (by first | exact ne_oa_wa | exact fun q => ne_wa_oa q.symm)
      have A145_sa := own_I_other A144_sa W145 (by first | exact ne_sa_wa | exact fun q => ne_wa_sa q.symm)
      refine own_blk X145 B0_329_335 B0_329_335d (ls' := #[.val (.long c01), .second, .val (.long c23), .second, .val (.int at0), .val (.int sel), .val (.int jk), .val (.int k0), .val (.int k1), .val (.int k2), .val (.int k3), .val (.ref ca), .val (.int (4 : Int32)), .val (.int a), .val (.int b), .val (.int mi), .val (.int ot), .val (.int c1), .val (.int d1), .val (.ref oa), .val (.ref sa), .unset, .unset, .unset, .unset]) (st' := [(.int (jk + (3 : Int32))), (.int (3 : Int32)), (.ref wa), (.ref wa)]) rfl ?_
      refine own_iast X145 A145 n_wa d0_335 (by decide) (by decide)  (fun h146 T146 X146 A146 W146 => ?_)
      have A146 : own_I Z h146 wa .int 4 (own_u g145 (3) (jk + (3 : Int32))) := A146
      generalize eg146 : own_u g145 (3) (jk + (3 : Int32)) = g146 at A146
      have A146_ca := own_I_other A145_ca W146 (by first | exact ne_ca_wa | exact fun q => ne_wa_ca q.symm)
      have A146_oa := own_I_other A145_oa W146 (by first | exact ne_oa_wa | exact fun q => ne_wa_oa q.symm)
      have A146_sa := own_I_other A145_sa W146 (by first | exact ne_sa_wa | exact fun q => ne_wa_sa q.symm)
      refine own_blk X146 B0_336_339 B0_336_339d (ls' := #[.val (.long c01), .second, .val (.long c23), .second, .val (.int at0), .val (.int sel), .val (.int jk), .val (.int k0), .val (.int k1), .val (.int k2), .val (.int k3), .val (.ref ca), .val (.int (4 : Int32)), .val (.int a), .val (.int b), .val (.int mi), .val (.int ot), .val (.int c1), .val (.int d1), .val (.ref oa), .val (.ref sa), .val (.ref wa), .unset, .unset, .unset]) (st' := [(.int (4 : Int32))]) rfl ?_
      have lt_ca := own_A_lt A146_ca
      have lt_oa := own_A_lt A146_oa
      have lt_sa := own_A_lt A146_sa
      have lt_wa := own_A_lt A146
      refine own_newI X146 (hw _ (List.mem_of_getElem? (i := 0) rfl)) rfl d0_339 (by decide) 4 (by decide) (by decide) (by decide) (by decide) (fun h147 T147 X147 E147 A147 => ?_)
      have n_ka : n0 ≤ h146.size := X146.2.1
      have A147 : own_I Z h147 h146.size .int 4 (fun _ => (0 : Int32)) := A147
      generalize ez_ka : h146.size = ka at A147 n_ka lt_ca lt_oa lt_sa lt_wa ⊢
      have A148 := own_I_ext A146_ca E147
      have A149 := own_I_ext A146_oa E147
      have A150 := own_I_ext A146_sa E147
      have A151 := own_I_ext A146 E147
      have ne_ca_ka : ca ≠ ka := Nat.ne_of_lt lt_ca
      have ne_oa_ka : oa ≠ ka := Nat.ne_of_lt lt_oa
      have ne_sa_ka : sa ≠ ka := Nat.ne_of_lt lt_sa
      have ne_wa_ka : wa ≠ ka := Nat.ne_of_lt lt_wa
      show own_G p e below (T147.setTop (mkF m 341 #[.val (.long c01), .second, .val (.long c23), .second, .val (.int at0), .val (.int sel), .val (.int jk), .val (.int k0), .val (.int k1), .val (.int k2), .val (.int k3), .val (.ref ca), .val (.int (4 : Int32)), .val (.int a), .val (.int b), .val (.int mi), .val (.int ot), .val (.int c1), .val (.int d1), .val (.ref oa), .val (.ref sa), .val (.ref wa), .unset, .unset, .unset] [(.ref ka)])) _
      refine own_blk X147 B0_341_345 B0_341_345d (ls' := #[.val (.long c01), .second, .val (.long c23), .second, .val (.int at0), .val (.int sel), .val (.int jk), .val (.int k0), .val (.int k1), .val (.int k2), .val (.int k3), .val (.ref ca), .val (.int (4 : Int32)), .val (.int a), .val (.int b), .val (.int mi), .val (.int ot), .val (.int c1), .val (.int d1), .val (.ref oa), .val (.ref sa), .val (.ref wa), .unset, .unset, .unset]) (st' := [(.int k0), (.int (0 : Int32)), (.ref ka), (.ref ka)]) rfl ?_
      refine own_iast X147 A147 n_ka d0_345 (by decide) (by decide)  (fun h152 T152 X152 A152 W152 => ?_)
      have A152 : own_I Z h152 ka .int 4 (own_u (fun _ => (0 : Int32)) (0) k0) := A152
      generalize eg152 : own_u (fun _ => (0 : Int32)) (0) k0 = g152 at A152
      have A152_ca := own_I_other A148 W152 (by first | exact ne_ca_ka | exact fun q => ne_ka_ca q.symm)
      have A152_oa := own_I_other A149 W152 (by first | exact ne_oa_ka | exact fun q => ne_ka_oa q.symm)
      have A152_sa := own_I_other A150 W152 (by first | exact ne_sa_ka | exact fun q => ne_ka_sa q.symm)
      have A152_wa := own_I_other A151 W152 (by first | exact ne_wa_ka | exact fun q => ne_ka_wa q.symm)
      refine own_blk X152 B0_346_350 B0_346_350d (ls' := #[.val (.long c01), .second, .val (.long c23), .second, .val (.int at0), .val (.int sel), .val (.int jk), .val (.int k0), .val (.int k1), .val (.int k2), .val (.int k3), .val (.ref ca), .val (.int (4 : Int32)), .val (.int a), .val (.int b), .val (.int mi), .val (.int ot), .val (.int c1), .val (.int d1), .val (.ref oa), .val (.ref sa), .val (.ref wa), .unset, .unset, .unset]) (st' := [(.int k1), (.int (1 : Int32)), (.ref ka), (.ref ka)]) rfl ?_
      refine own_iast X152 A152 n_ka d0_350 (by decide) (by decide)  (fun h153 T153 X153 A153 W153 => ?_)
      have A153 : own_I Z h153 ka .int 4 (own_u g152 (1) k1) := A153
      generalize eg153 : own_u g152 (1) k1 = g153 at A153
      have A153_ca := own_I_other A152_ca W153 (by first | exact ne_ca_ka | exact fun q => ne_ka_ca q.symm)
      have A153_oa := own_I_other A152_oa W153 (by first | exact ne_oa_ka | exact fun q => ne_ka_oa q.symm)
      have A153_sa := own_I_other A152_sa W153 (by first | exact ne_sa_ka | exact fun q => ne_ka_sa q.symm)
      have A153_wa := own_I_other A152_wa W153 (by first | exact ne_wa_ka | exact fun q => ne_ka_wa q.symm)
      refine own_blk X153 B0_351_355 B0_351_355d (ls' := #[.val (.long c01), .second, .val (.long c23), .second, .val (.int at0), .val (.int sel), .val (.int jk), .val (.int k0), .val (.int k1), .val (.int k2), .val (.int k3), .val (.ref ca), .val (.int (4 : Int32)), .val (.int a), .val (.int b), .val (.int mi), .val (.int ot), .val (.int c1), .val (.int d1), .val (.ref oa), .val (.ref sa), .val (.ref wa), .unset, .unset, .unset]) (st' := [(.int k2), (.int (2 : Int32)), (.ref ka), (.ref ka)]) rfl ?_
      refine own_iast X153 A153 n_ka d0_355 (by decide) (by decide)  (fun h154 T154 X154 A154 W154 => ?_)
      have A154 : own_I Z h154 ka .int 4 (own_u g153 (2) k2) := A154
      generalize eg154 : own_u g153 (2) k2 = g154 at A154
      have A154_ca := own_I_other A153_ca W154 (by first | exact ne_ca_ka | exact fun q => ne_ka_ca q.symm)
      have A154_oa := own_I_other A153_oa W154 (by first | exact ne_oa_ka | exact fun q => ne_ka_oa q.symm)
      have A154_sa := own_I_other A153_sa W154 (by first | exact ne_sa_ka | exact fun q => ne_ka_sa q.symm)
      have A154_wa := own_I_other A153_wa W154 (by first | exact ne_wa_ka | exact fun q => ne_ka_wa q.symm)
      refine own_blk X154 B0_356_360 B0_356_360d (ls' := #[.val (.long c01), .second, .val (.long c23), .second, .val (.int at0), .val (.int sel), .val (.int jk), .val (.int k0), .val (.int k1), .val (.int k2), .val (.int k3), .val (.ref ca), .val (.int (4 : Int32)), .val (.int a), .val (.int b), .val (.int mi), .val (.int ot), .val (.int c1), .val (.int d1), .val (.ref oa), .val (.ref sa), .val (.ref wa), .unset, .unset, .unset]) (st' := [(.int k3), (.int (3 : Int32)), (.ref ka), (.ref ka)]) rfl ?_
      refine own_iast X154 A154 n_ka d0_360 (by decide) (by decide)  (fun h155 T155 X155 A155 W155 => ?_)
      have A155 : own_I Z h155 ka .int 4 (own_u g154 (3) k3) := A155
      generalize eg155 : own_u g154 (3) k3 = g155 at A155
      have A155_ca := own_I_other A154_ca W155 (by first | exact ne_ca_ka | exact fun q => ne_ka_ca q.symm)
      have A155_oa := own_I_other A154_oa W155 (by first | exact ne_oa_ka | exact fun q => ne_ka_oa q.symm)
      have A155_sa := own_I_other A154_sa W155 (by first | exact ne_sa_ka | exact fun q => ne_ka_sa q.symm)
      have A155_wa := own_I_other A154_wa W155 (by first | exact ne_wa_ka | exact fun q => ne_ka_wa q.symm)
      refine own_blk X155 B0_361_366 B0_361_366d (ls' := #[.val (.long c01), .second, .val (.long c23), .second, .val (.int at0), .val (.int sel), .val (.int jk), .val (.int k0), .val (.int k1), .val (.int k2), .val (.int k3), .val (.ref ca), .val (.int (4 : Int32)), .val (.int a), .val (.int b), .val (.int mi), .val (.int ot), .val (.int c1), .val (.int d1), .val (.ref oa), .val (.ref sa), .val (.ref wa), .val (.ref ka), .unset, .unset]) (st' := [(.int (1 : Int32)), (.int (4 : Int32))]) rfl ?_
      refine own_icmp X155 d0_366 (pc' := 376) (by decide) (fun (c366 : (4 : Int) < 1) => by exfalso; omega) (fun c366 => ?_)
      have c366 : ¬ ((4 : Int) < 1) := c366
      refine own_blk X155 B0_369_375 B0_369_375d (ls' := #[.val (.long c01), .second, .val (.long c23), .second, .val (.int at0), .val (.int sel), .val (.int jk), .val (.int k0), .val (.int k1), .val (.int k2), .val (.int k3), .val (.ref ca), .val (.int (4 : Int32)), .val (.int a), .val (.int b), .val (.int mi), .val (.int ot), .val (.int c1), .val (.int d1), .val (.ref oa), .val (.ref sa), .val (.ref wa), .val (.ref ka), .unset, .unset]) (st' := [(.int at0), (.int a), (.ref wa)]) rfl ?_
      refine own_iast X155 A155_wa n_wa d0_375 (by omega) (by omega)  (fun h156 T156 X156 A156 W156 => ?_)
      have A156 : own_I Z h156 wa .int 4 (own_u g146 (a.toInt) at0) := A156
      generalize eg156 : own_u g146 (a.toInt) at0 = g156 at A156
      have A156_ca := own_I_other A155_ca W156 (by first | exact ne_ca_wa | exact fun q => ne_wa_ca q.symm)
      have A156_oa := own_I_other A155_oa W156 (by first | exact ne_oa_wa | exact fun q => ne_wa_oa q.symm)
      have A156_sa := own_I_other A155_sa W156 (by first | exact ne_sa_wa | exact fun q => ne_wa_sa q.symm)
      have A156_ka := own_I_other A155 W156 (by first | exact ne_ka_wa | exact fun q => ne_wa_ka q.symm)
      refine own_blk X156 B0_376_379 B0_376_379d (ls' := #[.val (.long c01), .second, .val (.long c23), .second, .val (.int at0), .val (.int sel), .val (.int jk), .val (.int k0), .val (.int k1), .val (.int k2), .val (.int k3), .val (.ref ca), .val (.int (4 : Int32)), .val (.int a), .val (.int b), .val (.int mi), .val (.int ot), .val (.int c1), .val (.int d1), .val (.ref oa), .val (.ref sa), .val (.ref wa), .val (.ref ka), .unset, .unset]) (st' := [(.int (2 : Int32)), (.int (4 : Int32))]) rfl ?_
      refine own_icmp X156 d0_379 (pc' := 395) (by decide) (fun (c379 : (4 : Int) < 2) => by exfalso; omega) (fun c379 => ?_)
      have c379 : ¬ ((4 : Int) < 2) := c379
      refine own_blk X156 B0_382_392 B0_382_392d (ls' := #[.val (.long c01), .second, .val (.long c23), .second, .val (.int at0), .val (.int sel), .val (.int jk), .val (.int k0), .val (.int k1), .val (.int k2), .val (.int k3), .val (.ref ca), .val (.int (4 : Int32)), .val (.int a), .val (.int b), .val (.int mi), .val (.int ot), .val (.int c1), .val (.int d1), .val (.ref oa), .val (.ref sa), .val (.ref wa), .val (.ref ka), .unset, .unset]) (st' := [(.int a), (.ref ka), (.int at0), (.int b), (.ref wa)]) rfl ?_
      refine own_iald X156 A156_ka d0_392 (by omega) (by omega) ?_
      show own_G p e below (T156.setTop (mkF m 393 #[.val (.long c01), .second, .val (.long c23), .second, .val (.int at0), .val (.int sel), .val (.int jk), .val (.int k0), .val (.int k1), .val (.int k2), .val (.int k3), .val (.ref ca), .val (.int (4 : Int32)), .val (.int a), .val (.int b), .val (.int mi), .val (.int ot), .val (.int c1), .val (.int d1), .val (.ref oa), .val (.ref sa), .val (.ref wa), .val (.ref ka), .unset, .unset] [(.int (g155 a.toInt)), (.int at0), (.int b), (.ref wa)])) _
      refine own_blk X156 B0_393_394 B0_393_394d (ls' := #[.val (.long c01), .second, .val (.long c23), .second, .val (.int at0), .val (.int sel), .val (.int jk), .val (.int k0), .val (.int k1), .val (.int k2), .val (.int k3), .val (.ref ca), .val (.int (4 : Int32)), .val (.int a), .val (.int b), .val (.int mi), .val (.int ot), .val (.int c1), .val (.int d1), .val (.ref oa), .val (.ref sa), .val (.ref wa), .val (.ref ka), .unset, .unset]) (st' := [(.int (at0 + (g155 a.toInt))), (.int b), (.ref wa)]) rfl ?_
      refine own_iast X156 A156 n_wa d0_394 (by omega) (by omega)  (fun h157 T157 X157 A157 W157 => ?_)
      have A157 : own_I Z h157 wa .int 4 (own_u g156 (b.toInt) (at0 + (g155 a.toInt))) := A157
      generalize eg157 : own_u g156 (b.toInt) (at0 + (g155 a.toInt)) = g157 at A157
      have A157_ca := own_I_other A156_ca W157 (by first | exact ne_ca_wa | exact fun q => ne_wa_ca q.symm)
      have A157_oa := own_I_other A156_oa W157 (by first | exact ne_oa_wa | exact fun q => ne_wa_oa q.symm)
      have A157_sa := own_I_other A156_sa W157 (by first | exact ne_sa_wa | exact fun q => ne_wa_sa q.symm)
      have A157_ka := own_I_other A156_ka W157 (by first | exact ne_ka_wa | exact fun q => ne_wa_ka q.symm)
      refine own_blk X157 B0_395_398 B0_395_398d (ls' := #[.val (.long c01), .second, .val (.long c23), .second, .val (.int at0), .val (.int sel), .val (.int jk), .val (.int k0), .val (.int k1), .val (.int k2), .val (.int k3), .val (.ref ca), .val (.int (4 : Int32)), .val (.int a), .val (.int b), .val (.int mi), .val (.int ot), .val (.int c1), .val (.int d1), .val (.ref oa), .val (.ref sa), .val (.ref wa), .val (.ref ka), .unset, .unset]) (st' := [(.int (3 : Int32)), (.int (4 : Int32))]) rfl ?_
      refine own_icmp X157 d0_398 (pc' := 420) (by decide) (fun (c398 : (4 : Int) < 3) => by exfalso; omega) (fun c398 => ?_)
      have c398 : ¬ ((4 : Int) < 3) := c398
      refine own_blk X157 B0_401_411 B0_401_411d (ls' := #[.val (.long c01), .second, .val (.long c23), .second, .val (.int at0), .val (.int sel), .val (.int jk), .val (.int k0), .val (.int k1), .val (.int k2), .val (.int k3), .val (.ref ca), .val (.int (4 : Int32)), .val (.int a), .val (.int b), .val (.int mi), .val (.int ot), .val (.int c1), .val (.int d1), .val (.ref oa), .val (.ref sa), .val (.ref wa), .val (.ref ka), .unset, .unset]) (st' := [(.int a), (.ref ka), (.int at0), (.int c1), (.ref wa)]) rfl ?_
      refine own_iald X157 A157_ka d0_411 (by omega) (by omega) ?_
      show own_G p e below (T157.setTop (mkF m 412 #[.val (.long c01), .second, .val (.long c23), .second, .val (.int at0), .val (.int sel), .val (.int jk), .val (.int k0), .val (.int k1), .val (.int k2), .val (.int k3), .val (.ref ca), .val (.int (4 : Int32)), .val (.int a), .val (.int b), .val (.int mi), .val (.int ot), .val (.int c1), .val (.int d1), .val (.ref oa), .val (.ref sa), .val (.ref wa), .val (.ref ka), .unset, .unset] [(.int (g155 a.toInt)), (.int at0), (.int c1), (.ref wa)])) _
      refine own_blk X157 B0_412_417 B0_412_417d (ls' := #[.val (.long c01), .second, .val (.long c23), .second, .val (.int at0), .val (.int sel), .val (.int jk), .val (.int k0), .val (.int k1), .val (.int k2), .val (.int k3), .val (.ref ca), .val (.int (4 : Int32)), .val (.int a), .val (.int b), .val (.int mi), .val (.int ot), .val (.int c1), .val (.int d1), .val (.ref oa), .val (.ref sa), .val (.ref wa), .val (.ref ka), .unset, .unset]) (st' := [(.int b), (.ref ka), (.int (at0 + (g155 a.toInt))), (.int c1), (.ref wa)]) rfl ?_
      refine own_iald X157 A157_ka d0_417 (by omega) (by omega) ?_
      show own_G p e below (T157.setTop (mkF m 418 #[.val (.long c01), .second, .val (.long c23), .second, .val (.int at0), .val (.int sel), .val (.int jk), .val (.int k0), .val (.int k1), .val (.int k2), .val (.int k3), .val (.ref ca), .val (.int (4 : Int32)), .val (.int a), .val (.int b), .val (.int mi), .val (.int ot), .val (.int c1), .val (.int d1), .val (.ref oa), .val (.ref sa), .val (.ref wa), .val (.ref ka), .unset, .unset] [(.int (g155 b.toInt)), (.int (at0 + (g155 a.toInt))), (.int c1), (.ref wa)])) _
      refine own_blk X157 B0_418_419 B0_418_419d (ls' := #[.val (.long c01), .second, .val (.long c23), .second, .val (.int at0), .val (.int sel), .val (.int jk), .val (.int k0), .val (.int k1), .val (.int k2), .val (.int k3), .val (.ref ca), .val (.int (4 : Int32)), .val (.int a), .val (.int b), .val (.int mi), .val (.int ot), .val (.int c1), .val (.int d1), .val (.ref oa), .val (.ref sa), .val (.ref wa), .val (.ref ka), .unset, .unset]) (st' := [(.int ((at0 + (g155 a.toInt)) + (g155 b.toInt))), (.int c1), (.ref wa)]) rfl ?_
      refine own_iast X157 A157 n_wa d0_419 (by omega) (by omega)  (fun h158 T158 X158 A158 W158 => ?_)
      have A158 : own_I Z h158 wa .int 4 (own_u g157 (c1.toInt) ((at0 + (g155 a.toInt)) + (g155 b.toInt))) := A158
      generalize eg158 : own_u g157 (c1.toInt) ((at0 + (g155 a.toInt)) + (g155 b.toInt)) = g158 at A158
      have A158_ca := own_I_other A157_ca W158 (by first | exact ne_ca_wa | exact fun q => ne_wa_ca q.symm)
      have A158_oa := own_I_other A157_oa W158 (by first | exact ne_oa_wa | exact fun q => ne_wa_oa q.symm)
      have A158_sa := own_I_other A157_sa W158 (by first | exact ne_sa_wa | exact fun q => ne_wa_sa q.symm)
      have A158_ka := own_I_other A157_ka W158 (by first | exact ne_ka_wa | exact fun q => ne_wa_ka q.symm)
      refine own_blk X158 B0_420_423 B0_420_423d (ls' := #[.val (.long c01), .second, .val (.long c23), .second, .val (.int at0), .val (.int sel), .val (.int jk), .val (.int k0), .val (.int k1), .val (.int k2), .val (.int k3), .val (.ref ca), .val (.int (4 : Int32)), .val (.int a), .val (.int b), .val (.int mi), .val (.int ot), .val (.int c1), .val (.int d1), .val (.ref oa), .val (.ref sa), .val (.ref wa), .val (.ref ka), .unset, .unset]) (st' := [(.int (4 : Int32)), (.int (4 : Int32))]) rfl ?_
      refine own_icmp X158 d0_423 (pc' := 451) (by decide) (fun (c423 : (4 : Int) < 4) => by exfalso; omega) (fun c423 => ?_)
      have c423 : ¬ ((4 : Int) < 4) := c423
      refine own_blk X158 B0_426_436 B0_426_436d (ls' := #[.val (.long c01), .second, .val (.long c23), .second, .val (.int at0), .val (.int sel), .val (.int jk), .val (.int k0), .val (.int k1), .val (.int k2), .val (.int k3), .val (.ref ca), .val (.int (4 : Int32)), .val (.int a), .val (.int b), .val (.int mi), .val (.int ot), .val (.int c1), .val (.int d1), .val (.ref oa), .val (.ref sa), .val (.ref wa), .val (.ref ka), .unset, .unset]) (st' := [(.int a), (.ref ka), (.int at0), (.int d1), (.ref wa)]) rfl ?_
      refine own_iald X158 A158_ka d0_436 (by omega) (by omega) ?_
      show own_G p e below (T158.setTop (mkF m 437 #[.val (.long c01), .second, .val (.long c23), .second, .val (.int at0), .val (.int sel), .val (.int jk), .val (.int k0), .val (.int k1), .val (.int k2), .val (.int k3), .val (.ref ca), .val (.int (4 : Int32)), .val (.int a), .val (.int b), .val (.int mi), .val (.int ot), .val (.int c1), .val (.int d1), .val (.ref oa), .val (.ref sa), .val (.ref wa), .val (.ref ka), .unset, .unset] [(.int (g155 a.toInt)), (.int at0), (.int d1), (.ref wa)])) _
      refine own_blk X158 B0_437_442 B0_437_442d (ls' := #[.val (.long c01), .second, .val (.long c23), .second, .val (.int at0), .val (.int sel), .val (.int jk), .val (.int k0), .val (.int k1), .val (.int k2), .val (.int k3), .val (.ref ca), .val (.int (4 : Int32)), .val (.int a), .val (.int b), .val (.int mi), .val (.int ot), .val (.int c1), .val (.int d1), .val (.ref oa), .val (.ref sa), .val (.ref wa), .val (.ref ka), .unset, .unset]) (st' := [(.int b), (.ref ka), (.int (at0 + (g155 a.toInt))), (.int d1), (.ref wa)]) rfl ?_
      refine own_iald X158 A158_ka d0_442 (by omega) (by omega) ?_
      show own_G p e below (T158.setTop (mkF m 443 #[.val (.long c01), .second, .val (.long c23), .second, .val (.int at0), .val (.int sel), .val (.int jk), .val (.int k0), .val (.int k1), .val (.int k2), .val (.int k3), .val (.ref ca), .val (.int (4 : Int32)), .val (.int a), .val (.int b), .val (.int mi), .val (.int ot), .val (.int c1), .val (.int d1), .val (.ref oa), .val (.ref sa), .val (.ref wa), .val (.ref ka), .unset, .unset] [(.int (g155 b.toInt)), (.int (at0 + (g155 a.toInt))), (.int d1), (.ref wa)])) _
      refine own_blk X158 B0_443_448 B0_443_448d (ls' := #[.val (.long c01), .second, .val (.long c23), .second, .val (.int at0), .val (.int sel), .val (.int jk), .val (.int k0), .val (.int k1), .val (.int k2), .val (.int k3), .val (.ref ca), .val (.int (4 : Int32)), .val (.int a), .val (.int b), .val (.int mi), .val (.int ot), .val (.int c1), .val (.int d1), .val (.ref oa), .val (.ref sa), .val (.ref wa), .val (.ref ka), .unset, .unset]) (st' := [(.int c1), (.ref ka), (.int ((at0 + (g155 a.toInt)) + (g155 b.toInt))), (.int d1), (.ref wa)]) rfl ?_
      refine own_iald X158 A158_ka d0_448 (by omega) (by omega) ?_
      show own_G p e below (T158.setTop (mkF m 449 #[.val (.long c01), .second, .val (.long c23), .second, .val (.int at0), .val (.int sel), .val (.int jk), .val (.int k0), .val (.int k1), .val (.int k2), .val (.int k3), .val (.ref ca), .val (.int (4 : Int32)), .val (.int a), .val (.int b), .val (.int mi), .val (.int ot), .val (.int c1), .val (.int d1), .val (.ref oa), .val (.ref sa), .val (.ref wa), .val (.ref ka), .unset, .unset] [(.int (g155 c1.toInt)), (.int ((at0 + (g155 a.toInt)) + (g155 b.toInt))), (.int d1), (.ref wa)])) _
      refine own_blk X158 B0_449_450 B0_449_450d (ls' := #[.val (.long c01), .second, .val (.long c23), .second, .val (.int at0), .val (.int sel), .val (.int jk), .val (.int k0), .val (.int k1), .val (.int k2), .val (.int k3), .val (.ref ca), .val (.int (4 : Int32)), .val (.int a), .val (.int b), .val (.int mi), .val (.int ot), .val (.int c1), .val (.int d1), .val (.ref oa), .val (.ref sa), .val (.ref wa), .val (.ref ka), .unset, .unset]) (st' := [(.int (((at0 + (g155 a.toInt)) + (g155 b.toInt)) + (g155 c1.toInt))), (.int d1), (.ref wa)]) rfl ?_
      refine own_iast X158 A158 n_wa d0_450 (by omega) (by omega)  (fun h159 T159 X159 A159 W159 => ?_)
      have A159 : own_I Z h159 wa .int 4 (own_u g158 (d1.toInt) (((at0 + (g155 a.toInt)) + (g155 b.toInt)) + (g155 c1.toInt))) := A159
      generalize eg159 : own_u g158 (d1.toInt) (((at0 + (g155 a.toInt)) + (g155 b.toInt)) + (g155 c1.toInt)) = g159 at A159
      have A159_ca := own_I_other A158_ca W159 (by first | exact ne_ca_wa | exact fun q => ne_wa_ca q.symm)
      have A159_oa := own_I_other A158_oa W159 (by first | exact ne_oa_wa | exact fun q => ne_wa_oa q.symm)
      have A159_sa := own_I_other A158_sa W159 (by first | exact ne_sa_wa | exact fun q => ne_wa_sa q.symm)
      have A159_ka := own_I_other A158_ka W159 (by first | exact ne_ka_wa | exact fun q => ne_wa_ka q.symm)
      refine own_blk X159 B0_451_459 B0_451_459d (ls' := #[.val (.long c01), .second, .val (.long c23), .second, .val (.int at0), .val (.int sel), .val (.int jk), .val (.int k0), .val (.int k1), .val (.int k2), .val (.int k3), .val (.ref ca), .val (.int (4 : Int32)), .val (.int a), .val (.int b), .val (.int mi), .val (.int ot), .val (.int c1), .val (.int d1), .val (.ref oa), .val (.ref sa), .val (.ref wa), .val (.ref ka), .unset, .unset]) (st' := [(.ref sa), (.int at0), (.ref oa), (.ref ca)]) rfl ?_
      have hSW : (own_u (own_u (own_u (own_u g138 (g131 0).toInt at0) (g131 1).toInt (at0 + (g5 (g131 0).toInt))) (g131 2).toInt ((at0 + (g5 (g131 0).toInt)) + (g5 (g131 1).toInt))) (g131 3).toInt (((at0 + (g5 (g131 0).toInt)) + (g5 (g131 1).toInt)) + (g5 (g131 2).toInt))) = g159 := by
        rw [o0, o1, o2, o3]
        subst eg159 eg158 eg157 eg156 eg155 eg154 eg153 eg152 eg146 eg145 eg144 eg143 eg138 eg137 eg136 eg135 eg5 eg4 eg3 eg2
        rfl
      refine own_callS X159 (hw _ (List.mem_of_getElem? (i := 1) rfl)) (hw _ (List.mem_of_getElem? (i := 2) rfl)) (hw _ (List.mem_of_getElem? (i := 3) rfl)) (hw _ (List.mem_of_getElem? (i := 4) rfl)) (by decide) (c_sb4 l Z a0 hw ca oa at0 sa g5 g131 g138 h159 n0 X159.2.1 A159_ca A159_oa A159_sa n_sa ne_ca_sa ne_oa_sa (by rw [o0]; omega) (by rw [o1]; omega) (by rw [o2]; omega) (by rw [o3]; omega)) d0_459 [(.ref ca), (.ref oa), (.int at0), (.ref sa)] [] rfl rfl pd1 rfl rfl (by decide) (Nat.le_of_ble_eq_true rfl) (by decide) (by decide) (fun _ _ q => Nat.le_trans X159.2.1 q.2.1.1) (fun v160 h160 T160 X160 q160 => ?_)
      obtain ⟨rfl, K160, As160⟩ := q160
      show own_G p e below (T160.setTop (mkF m 462 #[.val (.long c01), .second, .val (.long c23), .second, .val (.int at0), .val (.int sel), .val (.int jk), .val (.int k0), .val (.int k1), .val (.int k2), .val (.int k3), .val (.ref ca), .val (.int (4 : Int32)), .val (.int a), .val (.int b), .val (.int mi), .val (.int ot), .val (.int c1), .val (.int d1), .val (.ref oa), .val (.ref sa), .val (.ref wa), .val (.ref ka), .unset, .unset] [])) _
      rw [hSW] at As160
      have B160_ca := own_I_keep A159_ca K160 (by simp; exact ne_ca_sa)
      have B160_oa := own_I_keep A159_oa K160 (by simp; exact ne_oa_sa)
      have B160_wa := own_I_keep A159 K160 (by simp; exact fun q => ne_sa_wa q.symm)
      refine own_blk X160 B0_462_465 B0_462_465d (ls' := #[.val (.long c01), .second, .val (.long c23), .second, .val (.int at0), .val (.int sel), .val (.int jk), .val (.int k0), .val (.int k1), .val (.int k2), .val (.int k3), .val (.ref ca), .val (.int (4 : Int32)), .val (.int a), .val (.int b), .val (.int mi), .val (.int ot), .val (.int c1), .val (.int d1), .val (.ref oa), .val (.ref sa), .val (.ref wa), .val (.ref ka), .unset, .unset]) (st' := [(.int (0 : Int32)), (.ref sa)]) rfl ?_
      refine own_iald X160 As160 d0_465 (by decide) (by decide) ?_
      show own_G p e below (T160.setTop (mkF m 466 #[.val (.long c01), .second, .val (.long c23), .second, .val (.int at0), .val (.int sel), .val (.int jk), .val (.int k0), .val (.int k1), .val (.int k2), .val (.int k3), .val (.ref ca), .val (.int (4 : Int32)), .val (.int a), .val (.int b), .val (.int mi), .val (.int ot), .val (.int c1), .val (.int d1), .val (.ref oa), .val (.ref sa), .val (.ref wa), .val (.ref ka), .unset, .unset] [(.int (g159 0))])) _
      refine own_blk X160 B0_466_469 B0_466_469d (ls' := #[.val (.long c01), .second, .val (.long c23), .second, .val (.int at0), .val (.int sel), .val (.int jk), .val (.int k0), .val (.int k1), .val (.int k2), .val (.int k3), .val (.ref ca), .val (.int (4 : Int32)), .val (.int a), .val (.int b), .val (.int mi), .val (.int ot), .val (.int c1), .val (.int d1), .val (.ref oa), .val (.ref sa), .val (.ref wa), .val (.ref ka), .unset, .unset]) (st' := [(.int (0 : Int32)), (.ref wa), (.int (g159 0))]) rfl ?_
      refine own_iald X160 B160_wa d0_469 (by decide) (by decide) ?_
      show own_G p e below (T160.setTop (mkF m 470 #[.val (.long c01), .second, .val (.long c23), .second, .val (.int at0), .val (.int sel), .val (.int jk), .val (.int k0), .val (.int k1), .val (.int k2), .val (.int k3), .val (.ref ca), .val (.int (4 : Int32)), .val (.int a), .val (.int b), .val (.int mi), .val (.int ot), .val (.int c1), .val (.int d1), .val (.ref oa), .val (.ref sa), .val (.ref wa), .val (.ref ka), .unset, .unset] [(.int (g159 0)), (.int (g159 0))])) _
      refine own_icmp X160 d0_470 (pc' := 510) (by decide) (fun (c470 : ¬ (g159 0).toInt = (g159 0).toInt) => by exfalso; exact c470 rfl) (fun c470 => ?_)
      have c470 : ¬ (¬ (g159 0).toInt = (g159 0).toInt) := c470
      refine own_blk X160 B0_473_476 B0_473_476d (ls' := #[.val (.long c01), .second, .val (.long c23), .second, .val (.int at0), .val (.int sel), .val (.int jk), .val (.int k0), .val (.int k1), .val (.int k2), .val (.int k3), .val (.ref ca), .val (.int (4 : Int32)), .val (.int a), .val (.int b), .val (.int mi), .val (.int ot), .val (.int c1), .val (.int d1), .val (.ref oa), .val (.ref sa), .val (.ref wa), .val (.ref ka), .unset, .unset]) (st' := [(.int (1 : Int32)), (.ref sa)]) rfl ?_
      refine own_iald X160 As160 d0_476 (by decide) (by decide) ?_
      show own_G p e below (T160.setTop (mkF m 477 #[.val (.long c01), .second, .val (.long c23), .second, .val (.int at0), .val (.int sel), .val (.int jk), .val (.int k0), .val (.int k1), .val (.int k2), .val (.int k3), .val (.ref ca), .val (.int (4 : Int32)), .val (.int a), .val (.int b), .val (.int mi), .val (.int ot), .val (.int c1), .val (.int d1), .val (.ref oa), .val (.ref sa), .val (.ref wa), .val (.ref ka), .unset, .unset] [(.int (g159 1))])) _
      refine own_blk X160 B0_477_480 B0_477_480d (ls' := #[.val (.long c01), .second, .val (.long c23), .second, .val (.int at0), .val (.int sel), .val (.int jk), .val (.int k0), .val (.int k1), .val (.int k2), .val (.int k3), .val (.ref ca), .val (.int (4 : Int32)), .val (.int a), .val (.int b), .val (.int mi), .val (.int ot), .val (.int c1), .val (.int d1), .val (.ref oa), .val (.ref sa), .val (.ref wa), .val (.ref ka), .unset, .unset]) (st' := [(.int (1 : Int32)), (.ref wa), (.int (g159 1))]) rfl ?_
      refine own_iald X160 B160_wa d0_480 (by decide) (by decide) ?_
      show own_G p e below (T160.setTop (mkF m 481 #[.val (.long c01), .second, .val (.long c23), .second, .val (.int at0), .val (.int sel), .val (.int jk), .val (.int k0), .val (.int k1), .val (.int k2), .val (.int k3), .val (.ref ca), .val (.int (4 : Int32)), .val (.int a), .val (.int b), .val (.int mi), .val (.int ot), .val (.int c1), .val (.int d1), .val (.ref oa), .val (.ref sa), .val (.ref wa), .val (.ref ka), .unset, .unset] [(.int (g159 1)), (.int (g159 1))])) _
      refine own_icmp X160 d0_481 (pc' := 510) (by decide) (fun (c481 : ¬ (g159 1).toInt = (g159 1).toInt) => by exfalso; exact c481 rfl) (fun c481 => ?_)
      have c481 : ¬ (¬ (g159 1).toInt = (g159 1).toInt) := c481
      refine own_blk X160 B0_484_487 B0_484_487d (ls' := #[.val (.long c01), .second, .val (.long c23), .second, .val (.int at0), .val (.int sel), .val (.int jk), .val (.int k0), .val (.int k1), .val (.int k2), .val (.int k3), .val (.ref ca), .val (.int (4 : Int32)), .val (.int a), .val (.int b), .val (.int mi), .val (.int ot), .val (.int c1), .val (.int d1), .val (.ref oa), .val (.ref sa), .val (.ref wa), .val (.ref ka), .unset, .unset]) (st' := [(.int (2 : Int32)), (.ref sa)]) rfl ?_
      refine own_iald X160 As160 d0_487 (by decide) (by decide) ?_
      show own_G p e below (T160.setTop (mkF m 488 #[.val (.long c01), .second, .val (.long c23), .second, .val (.int at0), .val (.int sel), .val (.int jk), .val (.int k0), .val (.int k1), .val (.int k2), .val (.int k3), .val (.ref ca), .val (.int (4 : Int32)), .val (.int a), .val (.int b), .val (.int mi), .val (.int ot), .val (.int c1), .val (.int d1), .val (.ref oa), .val (.ref sa), .val (.ref wa), .val (.ref ka), .unset, .unset] [(.int (g159 2))])) _
      refine own_blk X160 B0_488_491 B0_488_491d (ls' := #[.val (.long c01), .second, .val (.long c23), .second, .val (.int at0), .val (.int sel), .val (.int jk), .val (.int k0), .val (.int k1), .val (.int k2), .val (.int k3), .val (.ref ca), .val (.int (4 : Int32)), .val (.int a), .val (.int b), .val (.int mi), .val (.int ot), .val (.int c1), .val (.int d1), .val (.ref oa), .val (.ref sa), .val (.ref wa), .val (.ref ka), .unset, .unset]) (st' := [(.int (2 : Int32)), (.ref wa), (.int (g159 2))]) rfl ?_
      refine own_iald X160 B160_wa d0_491 (by decide) (by decide) ?_
      show own_G p e below (T160.setTop (mkF m 492 #[.val (.long c01), .second, .val (.long c23), .second, .val (.int at0), .val (.int sel), .val (.int jk), .val (.int k0), .val (.int k1), .val (.int k2), .val (.int k3), .val (.ref ca), .val (.int (4 : Int32)), .val (.int a), .val (.int b), .val (.int mi), .val (.int ot), .val (.int c1), .val (.int d1), .val (.ref oa), .val (.ref sa), .val (.ref wa), .val (.ref ka), .unset, .unset] [(.int (g159 2)), (.int (g159 2))])) _
      refine own_icmp X160 d0_492 (pc' := 510) (by decide) (fun (c492 : ¬ (g159 2).toInt = (g159 2).toInt) => by exfalso; exact c492 rfl) (fun c492 => ?_)
      have c492 : ¬ (¬ (g159 2).toInt = (g159 2).toInt) := c492
      refine own_blk X160 B0_495_498 B0_495_498d (ls' := #[.val (.long c01), .second, .val (.long c23), .second, .val (.int at0), .val (.int sel), .val (.int jk), .val (.int k0), .val (.int k1), .val (.int k2), .val (.int k3), .val (.ref ca), .val (.int (4 : Int32)), .val (.int a), .val (.int b), .val (.int mi), .val (.int ot), .val (.int c1), .val (.int d1), .val (.ref oa), .val (.ref sa), .val (.ref wa), .val (.ref ka), .unset, .unset]) (st' := [(.int (3 : Int32)), (.ref sa)]) rfl ?_
      refine own_iald X160 As160 d0_498 (by decide) (by decide) ?_
      show own_G p e below (T160.setTop (mkF m 499 #[.val (.long c01), .second, .val (.long c23), .second, .val (.int at0), .val (.int sel), .val (.int jk), .val (.int k0), .val (.int k1), .val (.int k2), .val (.int k3), .val (.ref ca), .val (.int (4 : Int32)), .val (.int a), .val (.int b), .val (.int mi), .val (.int ot), .val (.int c1), .val (.int d1), .val (.ref oa), .val (.ref sa), .val (.ref wa), .val (.ref ka), .unset, .unset] [(.int (g159 3))])) _
      refine own_blk X160 B0_499_502 B0_499_502d (ls' := #[.val (.long c01), .second, .val (.long c23), .second, .val (.int at0), .val (.int sel), .val (.int jk), .val (.int k0), .val (.int k1), .val (.int k2), .val (.int k3), .val (.ref ca), .val (.int (4 : Int32)), .val (.int a), .val (.int b), .val (.int mi), .val (.int ot), .val (.int c1), .val (.int d1), .val (.ref oa), .val (.ref sa), .val (.ref wa), .val (.ref ka), .unset, .unset]) (st' := [(.int (3 : Int32)), (.ref wa), (.int (g159 3))]) rfl ?_
      refine own_iald X160 B160_wa d0_502 (by decide) (by decide) ?_
      show own_G p e below (T160.setTop (mkF m 503 #[.val (.long c01), .second, .val (.long c23), .second, .val (.int at0), .val (.int sel), .val (.int jk), .val (.int k0), .val (.int k1), .val (.int k2), .val (.int k3), .val (.ref ca), .val (.int (4 : Int32)), .val (.int a), .val (.int b), .val (.int mi), .val (.int ot), .val (.int c1), .val (.int d1), .val (.ref oa), .val (.ref sa), .val (.ref wa), .val (.ref ka), .unset, .unset] [(.int (g159 3)), (.int (g159 3))])) _
      refine own_icmp X160 d0_503 (pc' := 510) (by decide) (fun (c503 : ¬ (g159 3).toInt = (g159 3).toInt) => by exfalso; exact c503 rfl) (fun c503 => ?_)
      have c503 : ¬ (¬ (g159 3).toInt = (g159 3).toInt) := c503
      refine own_blk X160 B0_506_507 B0_506_507d (ls' := #[.val (.long c01), .second, .val (.long c23), .second, .val (.int at0), .val (.int sel), .val (.int jk), .val (.int k0), .val (.int k1), .val (.int k2), .val (.int k3), .val (.ref ca), .val (.int (4 : Int32)), .val (.int a), .val (.int b), .val (.int mi), .val (.int ot), .val (.int c1), .val (.int d1), .val (.ref oa), .val (.ref sa), .val (.ref wa), .val (.ref ka), .unset, .unset]) (st' := [(.int (1 : Int32))]) rfl ?_
      refine own_goto X160 d0_507 (pc' := 511) (by decide) ?_
      refine own_blk X160 B0_511_516 B0_511_516d (ls' := #[.val (.long c01), .second, .val (.long c23), .second, .val (.int at0), .val (.int sel), .val (.int jk), .val (.int k0), .val (.int k1), .val (.int k2), .val (.int k3), .val (.ref ca), .val (.int (4 : Int32)), .val (.int a), .val (.int b), .val (.int mi), .val (.int ot), .val (.int c1), .val (.int d1), .val (.ref oa), .val (.ref sa), .val (.ref wa), .val (.ref ka), .val (.int (1 : Int32)), .unset]) (st' := [(.int (0 : Int32)), (.ref ca)]) rfl ?_
      refine own_iald X160 B160_ca d0_516 (by decide) (by decide) ?_
      show own_G p e below (T160.setTop (mkF m 517 #[.val (.long c01), .second, .val (.long c23), .second, .val (.int at0), .val (.int sel), .val (.int jk), .val (.int k0), .val (.int k1), .val (.int k2), .val (.int k3), .val (.ref ca), .val (.int (4 : Int32)), .val (.int a), .val (.int b), .val (.int mi), .val (.int ot), .val (.int c1), .val (.int d1), .val (.ref oa), .val (.ref sa), .val (.ref wa), .val (.ref ka), .val (.int (1 : Int32)), .unset] [(.int (g5 0))])) _
      refine own_blk X160 B0_517_519 B0_517_519d (ls' := #[.val (.long c01), .second, .val (.long c23), .second, .val (.int at0), .val (.int sel), .val (.int jk), .val (.int k0), .val (.int k1), .val (.int k2), .val (.int k3), .val (.ref ca), .val (.int (4 : Int32)), .val (.int a), .val (.int b), .val (.int mi), .val (.int ot), .val (.int c1), .val (.int d1), .val (.ref oa), .val (.ref sa), .val (.ref wa), .val (.ref ka), .val (.int (1 : Int32)), .unset]) (st' := [(.int k0), (.int (g5 0))]) rfl ?_
      refine own_icmp X160 d0_519 (pc' := 553) (by decide) (fun (c519 : ¬ (g5 0).toInt = k0.toInt) => by exfalso; exact c519 (by rw [← eg5, own_u_ne (by decide), ← eg4, own_u_ne (by decide), ← eg3, own_u_ne (by decide), ← eg2, own_u_eq rfl])) (fun c519 => ?_)
      have c519 : ¬ (¬ (g5 0).toInt = k0.toInt) := c519
      refine own_blk X160 B0_522_525 B0_522_525d (ls' := #[.val (.long c01), .second, .val (.long c23), .second, .val (.int at0), .val (.int sel), .val (.int jk), .val (.int k0), .val (.int k1), .val (.int k2), .val (.int k3), .val (.ref ca), .val (.int (4 : Int32)), .val (.int a), .val (.int b), .val (.int mi), .val (.int ot), .val (.int c1), .val (.int d1), .val (.ref oa), .val (.ref sa), .val (.ref wa), .val (.ref ka), .val (.int (1 : Int32)), .unset]) (st' := [(.int (1 : Int32)), (.ref ca)]) rfl ?_
      refine own_iald X160 B160_ca d0_525 (by decide) (by decide) ?_
      show own_G p e below (T160.setTop (mkF m 526 #[.val (.long c01), .second, .val (.long c23), .second, .val (.int at0), .val (.int sel), .val (.int jk), .val (.int k0), .val (.int k1), .val (.int k2), .val (.int k3), .val (.ref ca), .val (.int (4 : Int32)), .val (.int a), .val (.int b), .val (.int mi), .val (.int ot), .val (.int c1), .val (.int d1), .val (.ref oa), .val (.ref sa), .val (.ref wa), .val (.ref ka), .val (.int (1 : Int32)), .unset] [(.int (g5 1))])) _
      refine own_blk X160 B0_526_528 B0_526_528d (ls' := #[.val (.long c01), .second, .val (.long c23), .second, .val (.int at0), .val (.int sel), .val (.int jk), .val (.int k0), .val (.int k1), .val (.int k2), .val (.int k3), .val (.ref ca), .val (.int (4 : Int32)), .val (.int a), .val (.int b), .val (.int mi), .val (.int ot), .val (.int c1), .val (.int d1), .val (.ref oa), .val (.ref sa), .val (.ref wa), .val (.ref ka), .val (.int (1 : Int32)), .unset]) (st' := [(.int k1), (.int (g5 1))]) rfl ?_
      refine own_icmp X160 d0_528 (pc' := 553) (by decide) (fun (c528 : ¬ (g5 1).toInt = k1.toInt) => by exfalso; exact c528 (by rw [← eg5, own_u_ne (by decide), ← eg4, own_u_ne (by decide), ← eg3, own_u_eq rfl])) (fun c528 => ?_)
      have c528 : ¬ (¬ (g5 1).toInt = k1.toInt) := c528
      refine own_blk X160 B0_531_534 B0_531_534d (ls' := #[.val (.long c01), .second, .val (.long c23), .second, .val (.int at0), .val (.int sel), .val (.int jk), .val (.int k0), .val (.int k1), .val (.int k2), .val (.int k3), .val (.ref ca), .val (.int (4 : Int32)), .val (.int a), .val (.int b), .val (.int mi), .val (.int ot), .val (.int c1), .val (.int d1), .val (.ref oa), .val (.ref sa), .val (.ref wa), .val (.ref ka), .val (.int (1 : Int32)), .unset]) (st' := [(.int (2 : Int32)), (.ref ca)]) rfl ?_
      refine own_iald X160 B160_ca d0_534 (by decide) (by decide) ?_
      show own_G p e below (T160.setTop (mkF m 535 #[.val (.long c01), .second, .val (.long c23), .second, .val (.int at0), .val (.int sel), .val (.int jk), .val (.int k0), .val (.int k1), .val (.int k2), .val (.int k3), .val (.ref ca), .val (.int (4 : Int32)), .val (.int a), .val (.int b), .val (.int mi), .val (.int ot), .val (.int c1), .val (.int d1), .val (.ref oa), .val (.ref sa), .val (.ref wa), .val (.ref ka), .val (.int (1 : Int32)), .unset] [(.int (g5 2))])) _
      refine own_blk X160 B0_535_537 B0_535_537d (ls' := #[.val (.long c01), .second, .val (.long c23), .second, .val (.int at0), .val (.int sel), .val (.int jk), .val (.int k0), .val (.int k1), .val (.int k2), .val (.int k3), .val (.ref ca), .val (.int (4 : Int32)), .val (.int a), .val (.int b), .val (.int mi), .val (.int ot), .val (.int c1), .val (.int d1), .val (.ref oa), .val (.ref sa), .val (.ref wa), .val (.ref ka), .val (.int (1 : Int32)), .unset]) (st' := [(.int k2), (.int (g5 2))]) rfl ?_
      refine own_icmp X160 d0_537 (pc' := 553) (by decide) (fun (c537 : ¬ (g5 2).toInt = k2.toInt) => by exfalso; exact c537 (by rw [← eg5, own_u_ne (by decide), ← eg4, own_u_eq rfl])) (fun c537 => ?_)
      have c537 : ¬ (¬ (g5 2).toInt = k2.toInt) := c537
      refine own_blk X160 B0_540_543 B0_540_543d (ls' := #[.val (.long c01), .second, .val (.long c23), .second, .val (.int at0), .val (.int sel), .val (.int jk), .val (.int k0), .val (.int k1), .val (.int k2), .val (.int k3), .val (.ref ca), .val (.int (4 : Int32)), .val (.int a), .val (.int b), .val (.int mi), .val (.int ot), .val (.int c1), .val (.int d1), .val (.ref oa), .val (.ref sa), .val (.ref wa), .val (.ref ka), .val (.int (1 : Int32)), .unset]) (st' := [(.int (3 : Int32)), (.ref ca)]) rfl ?_
      refine own_iald X160 B160_ca d0_543 (by decide) (by decide) ?_
      show own_G p e below (T160.setTop (mkF m 544 #[.val (.long c01), .second, .val (.long c23), .second, .val (.int at0), .val (.int sel), .val (.int jk), .val (.int k0), .val (.int k1), .val (.int k2), .val (.int k3), .val (.ref ca), .val (.int (4 : Int32)), .val (.int a), .val (.int b), .val (.int mi), .val (.int ot), .val (.int c1), .val (.int d1), .val (.ref oa), .val (.ref sa), .val (.ref wa), .val (.ref ka), .val (.int (1 : Int32)), .unset] [(.int (g5 3))])) _
      refine own_blk X160 B0_544_546 B0_544_546d (ls' := #[.val (.long c01), .second, .val (.long c23), .second, .val (.int at0), .val (.int sel), .val (.int jk), .val (.int k0), .val (.int k1), .val (.int k2), .val (.int k3), .val (.ref ca), .val (.int (4 : Int32)), .val (.int a), .val (.int b), .val (.int mi), .val (.int ot), .val (.int c1), .val (.int d1), .val (.ref oa), .val (.ref sa), .val (.ref wa), .val (.ref ka), .val (.int (1 : Int32)), .unset]) (st' := [(.int k3), (.int (g5 3))]) rfl ?_
      refine own_icmp X160 d0_546 (pc' := 553) (by decide) (fun (c546 : ¬ (g5 3).toInt = k3.toInt) => by exfalso; exact c546 (by rw [← eg5, own_u_eq rfl])) (fun c546 => ?_)
      have c546 : ¬ (¬ (g5 3).toInt = k3.toInt) := c546
      refine own_blk X160 B0_549_550 B0_549_550d (ls' := #[.val (.long c01), .second, .val (.long c23), .second, .val (.int at0), .val (.int sel), .val (.int jk), .val (.int k0), .val (.int k1), .val (.int k2), .val (.int k3), .val (.ref ca), .val (.int (4 : Int32)), .val (.int a), .val (.int b), .val (.int mi), .val (.int ot), .val (.int c1), .val (.int d1), .val (.ref oa), .val (.ref sa), .val (.ref wa), .val (.ref ka), .val (.int (1 : Int32)), .unset]) (st' := [(.int (1 : Int32))]) rfl ?_
      refine own_goto X160 d0_550 (pc' := 554) (by decide) ?_
      refine own_blk X160 B0_554_558 B0_554_558d (ls' := #[.val (.long c01), .second, .val (.long c23), .second, .val (.int at0), .val (.int sel), .val (.int jk), .val (.int k0), .val (.int k1), .val (.int k2), .val (.int k3), .val (.ref ca), .val (.int (4 : Int32)), .val (.int a), .val (.int b), .val (.int mi), .val (.int ot), .val (.int c1), .val (.int d1), .val (.ref oa), .val (.ref sa), .val (.ref wa), .val (.ref ka), .val (.int (1 : Int32)), .val (.int (1 : Int32))]) (st' := [(.int (1 : Int32))]) rfl ?_
      refine own_if X160 d0_558 (pc' := 578) (by decide) (fun (c558 : (1 : Int) = 0) => by exfalso; omega) (fun c558 => ?_)
      have c558 : ¬ ((1 : Int) = 0) := c558
      refine own_blk X160 B0_561_563 B0_561_563d (ls' := #[.val (.long c01), .second, .val (.long c23), .second, .val (.int at0), .val (.int sel), .val (.int jk), .val (.int k0), .val (.int k1), .val (.int k2), .val (.int k3), .val (.ref ca), .val (.int (4 : Int32)), .val (.int a), .val (.int b), .val (.int mi), .val (.int ot), .val (.int c1), .val (.int d1), .val (.ref oa), .val (.ref sa), .val (.ref wa), .val (.ref ka), .val (.int (1 : Int32)), .val (.int (1 : Int32))]) (st' := [(.int (1 : Int32))]) rfl ?_
      refine own_if X160 d0_563 (pc' := 578) (by decide) (fun (c563 : (1 : Int) = 0) => by exfalso; omega) (fun c563 => ?_)
      have c563 : ¬ ((1 : Int) = 0) := c563
      refine own_blk X160 B0_566_568 B0_566_568d (ls' := #[.val (.long c01), .second, .val (.long c23), .second, .val (.int at0), .val (.int sel), .val (.int jk), .val (.int k0), .val (.int k1), .val (.int k2), .val (.int k3), .val (.ref ca), .val (.int (4 : Int32)), .val (.int a), .val (.int b), .val (.int mi), .val (.int ot), .val (.int c1), .val (.int d1), .val (.ref oa), .val (.ref sa), .val (.ref wa), .val (.ref ka), .val (.int (1 : Int32)), .val (.int (1 : Int32))]) (st' := [(.ref oa)]) rfl ?_
      refine own_len X160 B160_oa d0_568 ?_
      show own_G p e below (T160.setTop (mkF m 569 #[.val (.long c01), .second, .val (.long c23), .second, .val (.int at0), .val (.int sel), .val (.int jk), .val (.int k0), .val (.int k1), .val (.int k2), .val (.int k3), .val (.ref ca), .val (.int (4 : Int32)), .val (.int a), .val (.int b), .val (.int mi), .val (.int ot), .val (.int c1), .val (.int d1), .val (.ref oa), .val (.ref sa), .val (.ref wa), .val (.ref ka), .val (.int (1 : Int32)), .val (.int (1 : Int32))] [(.int (4 : Int32))])) _
      refine own_blk X160 B0_569_571 B0_569_571d (ls' := #[.val (.long c01), .second, .val (.long c23), .second, .val (.int at0), .val (.int sel), .val (.int jk), .val (.int k0), .val (.int k1), .val (.int k2), .val (.int k3), .val (.ref ca), .val (.int (4 : Int32)), .val (.int a), .val (.int b), .val (.int mi), .val (.int ot), .val (.int c1), .val (.int d1), .val (.ref oa), .val (.ref sa), .val (.ref wa), .val (.ref ka), .val (.int (1 : Int32)), .val (.int (1 : Int32))]) (st' := [(.int (4 : Int32)), (.int (4 : Int32))]) rfl ?_
      refine own_icmp X160 d0_571 (pc' := 578) (by decide) (fun (c571 : ¬ (4 : Int) = 4) => by exfalso; omega) (fun c571 => ?_)
      have c571 : ¬ (¬ (4 : Int) = 4) := c571
      refine own_blk X160 B0_574_575 B0_574_575d (ls' := #[.val (.long c01), .second, .val (.long c23), .second, .val (.int at0), .val (.int sel), .val (.int jk), .val (.int k0), .val (.int k1), .val (.int k2), .val (.int k3), .val (.ref ca), .val (.int (4 : Int32)), .val (.int a), .val (.int b), .val (.int mi), .val (.int ot), .val (.int c1), .val (.int d1), .val (.ref oa), .val (.ref sa), .val (.ref wa), .val (.ref ka), .val (.int (1 : Int32)), .val (.int (1 : Int32))]) (st' := [(.int (1 : Int32))]) rfl ?_
      refine own_goto X160 d0_575 (pc' := 579) (by decide) ?_
      exact own_retN X160 (by simp) d0_579 (v' := (1 : Int32)) (rfl) (by decide) (by decide) (rfl)
  refine own_blk X5 B0_84_88 B0_84_88d (ls' := #[.val (.long c01), .second, .val (.long c23), .second, .val (.int at0), .val (.int sel), .val (.int jk), .val (.int k0), .val (.int k1), .val (.int k2), .val (.int k3), .val (.ref ca), .val (.int n), .val (.int a), .val (.int b), .val (.int (0 : Int32)), .unset, .unset, .unset, .unset, .unset, .unset, .unset, .unset, .unset]) (st' := [(.int a), (.int (0 : Int32))]) rfl ?_
  refine own_icmp X5 d0_88 (pc' := 98) (by decide) (fun c88 => ?_) (fun c88 => ?_)
  · have c88 : 0 = a.toInt := c88
    refine own_blk X5 B0_98_105 B0_98_105d (ls' := #[.val (.long c01), .second, .val (.long c23), .second, .val (.int at0), .val (.int sel), .val (.int jk), .val (.int k0), .val (.int k1), .val (.int k2), .val (.int k3), .val (.ref ca), .val (.int n), .val (.int a), .val (.int b), .val (.int (1 : Int32)), .unset, .unset, .unset, .unset, .unset, .unset, .unset, .unset, .unset]) (st' := [(.int a), (.int (1 : Int32))]) rfl ?_
    refine own_icmp X5 d0_105 (pc' := 115) (by decide) (fun c105 => ?_) (fun c105 => ?_)
    · have c105 : 1 = a.toInt := c105
      refine own_blk X5 B0_115_118 B0_115_118d (ls' := #[.val (.long c01), .second, .val (.long c23), .second, .val (.int at0), .val (.int sel), .val (.int jk), .val (.int k0), .val (.int k1), .val (.int k2), .val (.int k3), .val (.ref ca), .val (.int n), .val (.int a), .val (.int b), .val (.int (2 : Int32)), .unset, .unset, .unset, .unset, .unset, .unset, .unset, .unset, .unset]) (st' := []) rfl ?_
      have ho : 0 ≤ ((((6 : Int32) - a) - b) - (2 : Int32)).toInt ∧ ((((6 : Int32) - a) - b) - (2 : Int32)).toInt ≤ 3 := by
        have h1 : ((6 : Int32) - a).toInt = 6 - a.toInt := Jvm.Kit.i32_sub (by show _ ≤ (6 : Int) - _; omega) (by show (6 : Int) - _ < _; omega)
        have h2 : (((6 : Int32) - a) - b).toInt = 6 - a.toInt - b.toInt := by rw [Jvm.Kit.i32_sub (by omega) (by omega), h1]
        rw [own_subc (d := 2) rfl (by omega) (by omega), h2]; omega
      refine own_blk X5 B0_118_138 B0_118_138d (ls' := #[.val (.long c01), .second, .val (.long c23), .second, .val (.int at0), .val (.int sel), .val (.int jk), .val (.int k0), .val (.int k1), .val (.int k2), .val (.int k3), .val (.ref ca), .val (.int n), .val (.int a), .val (.int b), .val (.int (2 : Int32)), .val (.int ((((6 : Int32) - a) - b) - (2 : Int32))), .unset, .unset, .unset, .unset, .unset, .unset, .unset, .unset]) (st' := [(.int ((own_iushr sel (7 : Int32)) &&& (1 : Int32)))]) rfl ?_
      refine own_if X5 d0_138 (pc' := 146) (by decide) (fun c138 => ?_) (fun c138 => ?_)
      · have c138 : ((own_iushr sel (7 : Int32)) &&& (1 : Int32)).toInt = 0 := c138
        refine own_blk X5 B0_146_154 B0_146_154d (ls' := #[.val (.long c01), .second, .val (.long c23), .second, .val (.int at0), .val (.int sel), .val (.int jk), .val (.int k0), .val (.int k1), .val (.int k2), .val (.int k3), .val (.ref ca), .val (.int n), .val (.int a), .val (.int b), .val (.int (2 : Int32)), .val (.int ((((6 : Int32) - a) - b) - (2 : Int32))), .val (.int ((((6 : Int32) - a) - b) - (2 : Int32))), .unset, .unset, .unset, .unset, .unset, .unset, .unset]) (st' := [(.int (2 : Int32)), (.int ((((6 : Int32) - a) - b) - (2 : Int32)))]) rfl ?_
        refine own_icmp X5 d0_154 (pc' := 162) (by decide) (fun c154 => ?_) (fun c154 => ?_)
        · have c154 : ¬ ((((6 : Int32) - a) - b) - (2 : Int32)).toInt = 2 := c154
          refine own_blk X5 B0_162_166 B0_162_166d (ls' := #[.val (.long c01), .second, .val (.long c23), .second, .val (.int at0), .val (.int sel), .val (.int jk), .val (.int k0), .val (.int k1), .val (.int k2), .val (.int k3), .val (.ref ca), .val (.int n), .val (.int a), .val (.int b), .val (.int (2 : Int32)), .val (.int ((((6 : Int32) - a) - b) - (2 : Int32))), .val (.int ((((6 : Int32) - a) - b) - (2 : Int32))), .val (.int (2 : Int32)), .unset, .unset, .unset, .unset, .unset, .unset]) (st' := []) rfl ?_
          exact J166 _ _ _ _ ho (by decide)
        · have c154 : ¬ (¬ ((((6 : Int32) - a) - b) - (2 : Int32)).toInt = 2) := c154
          refine own_blk X5 B0_157_159 B0_157_159d (ls' := #[.val (.long c01), .second, .val (.long c23), .second, .val (.int at0), .val (.int sel), .val (.int jk), .val (.int k0), .val (.int k1), .val (.int k2), .val (.int k3), .val (.ref ca), .val (.int n), .val (.int a), .val (.int b), .val (.int (2 : Int32)), .val (.int ((((6 : Int32) - a) - b) - (2 : Int32))), .val (.int ((((6 : Int32) - a) - b) - (2 : Int32))), .unset, .unset, .unset, .unset, .unset, .unset, .unset]) (st' := [(.int ((((6 : Int32) - a) - b) - (2 : Int32)))]) rfl ?_
          refine own_goto X5 d0_159 (pc' := 164) (by decide) ?_
          refine own_blk X5 B0_164_166 B0_164_166d (ls' := #[.val (.long c01), .second, .val (.long c23), .second, .val (.int at0), .val (.int sel), .val (.int jk), .val (.int k0), .val (.int k1), .val (.int k2), .val (.int k3), .val (.ref ca), .val (.int n), .val (.int a), .val (.int b), .val (.int (2 : Int32)), .val (.int ((((6 : Int32) - a) - b) - (2 : Int32))), .val (.int ((((6 : Int32) - a) - b) - (2 : Int32))), .val (.int ((((6 : Int32) - a) - b) - (2 : Int32))), .unset, .unset, .unset, .unset, .unset, .unset]) (st' := []) rfl ?_
          exact J166 _ _ _ _ ho ho
      · have c138 : ¬ (((own_iushr sel (7 : Int32)) &&& (1 : Int32)).toInt = 0) := c138
        refine own_blk X5 B0_141_143 B0_141_143d (ls' := #[.val (.long c01), .second, .val (.long c23), .second, .val (.int at0), .val (.int sel), .val (.int jk), .val (.int k0), .val (.int k1), .val (.int k2), .val (.int k3), .val (.ref ca), .val (.int n), .val (.int a), .val (.int b), .val (.int (2 : Int32)), .val (.int ((((6 : Int32) - a) - b) - (2 : Int32))), .unset, .unset, .unset, .unset, .unset, .unset, .unset, .unset]) (st' := [(.int (2 : Int32))]) rfl ?_
        refine own_goto X5 d0_143 (pc' := 148) (by decide) ?_
        refine own_blk X5 B0_148_154 B0_148_154d (ls' := #[.val (.long c01), .second, .val (.long c23), .second, .val (.int at0), .val (.int sel), .val (.int jk), .val (.int k0), .val (.int k1), .val (.int k2), .val (.int k3), .val (.ref ca), .val (.int n), .val (.int a), .val (.int b), .val (.int (2 : Int32)), .val (.int ((((6 : Int32) - a) - b) - (2 : Int32))), .val (.int (2 : Int32)), .unset, .unset, .unset, .unset, .unset, .unset, .unset]) (st' := [(.int (2 : Int32)), (.int (2 : Int32))]) rfl ?_
        refine own_icmp X5 d0_154 (pc' := 162) (by decide) (fun (c154 : ¬ (2 : Int) = 2) => by exfalso; omega) (fun c154 => ?_)
        have c154 : ¬ (¬ (2 : Int) = 2) := c154
        refine own_blk X5 B0_157_159 B0_157_159d (ls' := #[.val (.long c01), .second, .val (.long c23), .second, .val (.int at0), .val (.int sel), .val (.int jk), .val (.int k0), .val (.int k1), .val (.int k2), .val (.int k3), .val (.ref ca), .val (.int n), .val (.int a), .val (.int b), .val (.int (2 : Int32)), .val (.int ((((6 : Int32) - a) - b) - (2 : Int32))), .val (.int (2 : Int32)), .unset, .unset, .unset, .unset, .unset, .unset, .unset]) (st' := [(.int ((((6 : Int32) - a) - b) - (2 : Int32)))]) rfl ?_
        refine own_goto X5 d0_159 (pc' := 164) (by decide) ?_
        refine own_blk X5 B0_164_166 B0_164_166d (ls' := #[.val (.long c01), .second, .val (.long c23), .second, .val (.int at0), .val (.int sel), .val (.int jk), .val (.int k0), .val (.int k1), .val (.int k2), .val (.int k3), .val (.ref ca), .val (.int n), .val (.int a), .val (.int b), .val (.int (2 : Int32)), .val (.int ((((6 : Int32) - a) - b) - (2 : Int32))), .val (.int (2 : Int32)), .val (.int ((((6 : Int32) - a) - b) - (2 : Int32))), .unset, .unset, .unset, .unset, .unset, .unset]) (st' := []) rfl ?_
        exact J166 _ _ _ _ (by decide) ho
    · have c105 : ¬ (1 = a.toInt) := c105
      refine own_blk X5 B0_108_112 B0_108_112d (ls' := #[.val (.long c01), .second, .val (.long c23), .second, .val (.int at0), .val (.int sel), .val (.int jk), .val (.int k0), .val (.int k1), .val (.int k2), .val (.int k3), .val (.ref ca), .val (.int n), .val (.int a), .val (.int b), .val (.int (1 : Int32)), .unset, .unset, .unset, .unset, .unset, .unset, .unset, .unset, .unset]) (st' := [(.int b), (.int (1 : Int32))]) rfl ?_
      refine own_icmp X5 d0_112 (pc' := 118) (by decide) (fun c112 => ?_) (fun c112 => ?_)
      · have c112 : ¬ 1 = b.toInt := c112
        have ho : 0 ≤ ((((6 : Int32) - a) - b) - (1 : Int32)).toInt ∧ ((((6 : Int32) - a) - b) - (1 : Int32)).toInt ≤ 3 := by
          have h1 : ((6 : Int32) - a).toInt = 6 - a.toInt := Jvm.Kit.i32_sub (by show _ ≤ (6 : Int) - _; omega) (by show (6 : Int) - _ < _; omega)
          have h2 : (((6 : Int32) - a) - b).toInt = 6 - a.toInt - b.toInt := by rw [Jvm.Kit.i32_sub (by omega) (by omega), h1]
          rw [own_subc (d := 1) rfl (by omega) (by omega), h2]; omega
        refine own_blk X5 B0_118_138 B0_118_138d (ls' := #[.val (.long c01), .second, .val (.long c23), .second, .val (.int at0), .val (.int sel), .val (.int jk), .val (.int k0), .val (.int k1), .val (.int k2), .val (.int k3), .val (.ref ca), .val (.int n), .val (.int a), .val (.int b), .val (.int (1 : Int32)), .val (.int ((((6 : Int32) - a) - b) - (1 : Int32))), .unset, .unset, .unset, .unset, .unset, .unset, .unset, .unset]) (st' := [(.int ((own_iushr sel (7 : Int32)) &&& (1 : Int32)))]) rfl ?_
        refine own_if X5 d0_138 (pc' := 146) (by decide) (fun c138 => ?_) (fun c138 => ?_)
        · have c138 : ((own_iushr sel (7 : Int32)) &&& (1 : Int32)).toInt = 0 := c138
          refine own_blk X5 B0_146_154 B0_146_154d (ls' := #[.val (.long c01), .second, .val (.long c23), .second, .val (.int at0), .val (.int sel), .val (.int jk), .val (.int k0), .val (.int k1), .val (.int k2), .val (.int k3), .val (.ref ca), .val (.int n), .val (.int a), .val (.int b), .val (.int (1 : Int32)), .val (.int ((((6 : Int32) - a) - b) - (1 : Int32))), .val (.int ((((6 : Int32) - a) - b) - (1 : Int32))), .unset, .unset, .unset, .unset, .unset, .unset, .unset]) (st' := [(.int (1 : Int32)), (.int ((((6 : Int32) - a) - b) - (1 : Int32)))]) rfl ?_
          refine own_icmp X5 d0_154 (pc' := 162) (by decide) (fun c154 => ?_) (fun c154 => ?_)
          · have c154 : ¬ ((((6 : Int32) - a) - b) - (1 : Int32)).toInt = 1 := c154
            refine own_blk X5 B0_162_166 B0_162_166d (ls' := #[.val (.long c01), .second, .val (.long c23), .second, .val (.int at0), .val (.int sel), .val (.int jk), .val (.int k0), .val (.int k1), .val (.int k2), .val (.int k3), .val (.ref ca), .val (.int n), .val (.int a), .val (.int b), .val (.int (1 : Int32)), .val (.int ((((6 : Int32) - a) - b) - (1 : Int32))), .val (.int ((((6 : Int32) - a) - b) - (1 : Int32))), .val (.int (1 : Int32)), .unset, .unset, .unset, .unset, .unset, .unset]) (st' := []) rfl ?_
            exact J166 _ _ _ _ ho (by decide)
          · have c154 : ¬ (¬ ((((6 : Int32) - a) - b) - (1 : Int32)).toInt = 1) := c154
            refine own_blk X5 B0_157_159 B0_157_159d (ls' := #[.val (.long c01), .second, .val (.long c23), .second, .val (.int at0), .val (.int sel), .val (.int jk), .val (.int k0), .val (.int k1), .val (.int k2), .val (.int k3), .val (.ref ca), .val (.int n), .val (.int a), .val (.int b), .val (.int (1 : Int32)), .val (.int ((((6 : Int32) - a) - b) - (1 : Int32))), .val (.int ((((6 : Int32) - a) - b) - (1 : Int32))), .unset, .unset, .unset, .unset, .unset, .unset, .unset]) (st' := [(.int ((((6 : Int32) - a) - b) - (1 : Int32)))]) rfl ?_
            refine own_goto X5 d0_159 (pc' := 164) (by decide) ?_
            refine own_blk X5 B0_164_166 B0_164_166d (ls' := #[.val (.long c01), .second, .val (.long c23), .second, .val (.int at0), .val (.int sel), .val (.int jk), .val (.int k0), .val (.int k1), .val (.int k2), .val (.int k3), .val (.ref ca), .val (.int n), .val (.int a), .val (.int b), .val (.int (1 : Int32)), .val (.int ((((6 : Int32) - a) - b) - (1 : Int32))), .val (.int ((((6 : Int32) - a) - b) - (1 : Int32))), .val (.int ((((6 : Int32) - a) - b) - (1 : Int32))), .unset, .unset, .unset, .unset, .unset, .unset]) (st' := []) rfl ?_
            exact J166 _ _ _ _ ho ho
        · have c138 : ¬ (((own_iushr sel (7 : Int32)) &&& (1 : Int32)).toInt = 0) := c138
          refine own_blk X5 B0_141_143 B0_141_143d (ls' := #[.val (.long c01), .second, .val (.long c23), .second, .val (.int at0), .val (.int sel), .val (.int jk), .val (.int k0), .val (.int k1), .val (.int k2), .val (.int k3), .val (.ref ca), .val (.int n), .val (.int a), .val (.int b), .val (.int (1 : Int32)), .val (.int ((((6 : Int32) - a) - b) - (1 : Int32))), .unset, .unset, .unset, .unset, .unset, .unset, .unset, .unset]) (st' := [(.int (1 : Int32))]) rfl ?_
          refine own_goto X5 d0_143 (pc' := 148) (by decide) ?_
          refine own_blk X5 B0_148_154 B0_148_154d (ls' := #[.val (.long c01), .second, .val (.long c23), .second, .val (.int at0), .val (.int sel), .val (.int jk), .val (.int k0), .val (.int k1), .val (.int k2), .val (.int k3), .val (.ref ca), .val (.int n), .val (.int a), .val (.int b), .val (.int (1 : Int32)), .val (.int ((((6 : Int32) - a) - b) - (1 : Int32))), .val (.int (1 : Int32)), .unset, .unset, .unset, .unset, .unset, .unset, .unset]) (st' := [(.int (1 : Int32)), (.int (1 : Int32))]) rfl ?_
          refine own_icmp X5 d0_154 (pc' := 162) (by decide) (fun (c154 : ¬ (1 : Int) = 1) => by exfalso; omega) (fun c154 => ?_)
          have c154 : ¬ (¬ (1 : Int) = 1) := c154
          refine own_blk X5 B0_157_159 B0_157_159d (ls' := #[.val (.long c01), .second, .val (.long c23), .second, .val (.int at0), .val (.int sel), .val (.int jk), .val (.int k0), .val (.int k1), .val (.int k2), .val (.int k3), .val (.ref ca), .val (.int n), .val (.int a), .val (.int b), .val (.int (1 : Int32)), .val (.int ((((6 : Int32) - a) - b) - (1 : Int32))), .val (.int (1 : Int32)), .unset, .unset, .unset, .unset, .unset, .unset, .unset]) (st' := [(.int ((((6 : Int32) - a) - b) - (1 : Int32)))]) rfl ?_
          refine own_goto X5 d0_159 (pc' := 164) (by decide) ?_
          refine own_blk X5 B0_164_166 B0_164_166d (ls' := #[.val (.long c01), .second, .val (.long c23), .second, .val (.int at0), .val (.int sel), .val (.int jk), .val (.int k0), .val (.int k1), .val (.int k2), .val (.int k3), .val (.ref ca), .val (.int n), .val (.int a), .val (.int b), .val (.int (1 : Int32)), .val (.int ((((6 : Int32) - a) - b) - (1 : Int32))), .val (.int (1 : Int32)), .val (.int ((((6 : Int32) - a) - b) - (1 : Int32))), .unset, .unset, .unset, .unset, .unset, .unset]) (st' := []) rfl ?_
          exact J166 _ _ _ _ (by decide) ho
      · have c112 : ¬ (¬ 1 = b.toInt) := c112
        refine own_blk X5 B0_115_118 B0_115_118d (ls' := #[.val (.long c01), .second, .val (.long c23), .second, .val (.int at0), .val (.int sel), .val (.int jk), .val (.int k0), .val (.int k1), .val (.int k2), .val (.int k3), .val (.ref ca), .val (.int n), .val (.int a), .val (.int b), .val (.int (2 : Int32)), .unset, .unset, .unset, .unset, .unset, .unset, .unset, .unset, .unset]) (st' := []) rfl ?_
        have ho : 0 ≤ ((((6 : Int32) - a) - b) - (2 : Int32)).toInt ∧ ((((6 : Int32) - a) - b) - (2 : Int32)).toInt ≤ 3 := by
          have h1 : ((6 : Int32) - a).toInt = 6 - a.toInt := Jvm.Kit.i32_sub (by show _ ≤ (6 : Int) - _; omega) (by show (6 : Int) - _ < _; omega)
          have h2 : (((6 : Int32) - a) - b).toInt = 6 - a.toInt - b.toInt := by rw [Jvm.Kit.i32_sub (by omega) (by omega), h1]
          rw [own_subc (d := 2) rfl (by omega) (by omega), h2]; omega
        refine own_blk X5 B0_118_138 B0_118_138d (ls' := #[.val (.long c01), .second, .val (.long c23), .second, .val (.int at0), .val (.int sel), .val (.int jk), .val (.int k0), .val (.int k1), .val (.int k2), .val (.int k3), .val (.ref ca), .val (.int n), .val (.int a), .val (.int b), .val (.int (2 : Int32)), .val (.int ((((6 : Int32) - a) - b) - (2 : Int32))), .unset, .unset, .unset, .unset, .unset, .unset, .unset, .unset]) (st' := [(.int ((own_iushr sel (7 : Int32)) &&& (1 : Int32)))]) rfl ?_
        refine own_if X5 d0_138 (pc' := 146) (by decide) (fun c138 => ?_) (fun c138 => ?_)
        · have c138 : ((own_iushr sel (7 : Int32)) &&& (1 : Int32)).toInt = 0 := c138
          refine own_blk X5 B0_146_154 B0_146_154d (ls' := #[.val (.long c01), .second, .val (.long c23), .second, .val (.int at0), .val (.int sel), .val (.int jk), .val (.int k0), .val (.int k1), .val (.int k2), .val (.int k3), .val (.ref ca), .val (.int n), .val (.int a), .val (.int b), .val (.int (2 : Int32)), .val (.int ((((6 : Int32) - a) - b) - (2 : Int32))), .val (.int ((((6 : Int32) - a) - b) - (2 : Int32))), .unset, .unset, .unset, .unset, .unset, .unset, .unset]) (st' := [(.int (2 : Int32)), (.int ((((6 : Int32) - a) - b) - (2 : Int32)))]) rfl ?_
          refine own_icmp X5 d0_154 (pc' := 162) (by decide) (fun c154 => ?_) (fun c154 => ?_)
          · have c154 : ¬ ((((6 : Int32) - a) - b) - (2 : Int32)).toInt = 2 := c154
            refine own_blk X5 B0_162_166 B0_162_166d (ls' := #[.val (.long c01), .second, .val (.long c23), .second, .val (.int at0), .val (.int sel), .val (.int jk), .val (.int k0), .val (.int k1), .val (.int k2), .val (.int k3), .val (.ref ca), .val (.int n), .val (.int a), .val (.int b), .val (.int (2 : Int32)), .val (.int ((((6 : Int32) - a) - b) - (2 : Int32))), .val (.int ((((6 : Int32) - a) - b) - (2 : Int32))), .val (.int (2 : Int32)), .unset, .unset, .unset, .unset, .unset, .unset]) (st' := []) rfl ?_
            exact J166 _ _ _ _ ho (by decide)
          · have c154 : ¬ (¬ ((((6 : Int32) - a) - b) - (2 : Int32)).toInt = 2) := c154
            refine own_blk X5 B0_157_159 B0_157_159d (ls' := #[.val (.long c01), .second, .val (.long c23), .second, .val (.int at0), .val (.int sel), .val (.int jk), .val (.int k0), .val (.int k1), .val (.int k2), .val (.int k3), .val (.ref ca), .val (.int n), .val (.int a), .val (.int b), .val (.int (2 : Int32)), .val (.int ((((6 : Int32) - a) - b) - (2 : Int32))), .val (.int ((((6 : Int32) - a) - b) - (2 : Int32))), .unset, .unset, .unset, .unset, .unset, .unset, .unset]) (st' := [(.int ((((6 : Int32) - a) - b) - (2 : Int32)))]) rfl ?_
            refine own_goto X5 d0_159 (pc' := 164) (by decide) ?_
            refine own_blk X5 B0_164_166 B0_164_166d (ls' := #[.val (.long c01), .second, .val (.long c23), .second, .val (.int at0), .val (.int sel), .val (.int jk), .val (.int k0), .val (.int k1), .val (.int k2), .val (.int k3), .val (.ref ca), .val (.int n), .val (.int a), .val (.int b), .val (.int (2 : Int32)), .val (.int ((((6 : Int32) - a) - b) - (2 : Int32))), .val (.int ((((6 : Int32) - a) - b) - (2 : Int32))), .val (.int ((((6 : Int32) - a) - b) - (2 : Int32))), .unset, .unset, .unset, .unset, .unset, .unset]) (st' := []) rfl ?_
            exact J166 _ _ _ _ ho ho
        · have c138 : ¬ (((own_iushr sel (7 : Int32)) &&& (1 : Int32)).toInt = 0) := c138
          refine own_blk X5 B0_141_143 B0_141_143d (ls' := #[.val (.long c01), .second, .val (.long c23), .second, .val (.int at0), .val (.int sel), .val (.int jk), .val (.int k0), .val (.int k1), .val (.int k2), .val (.int k3), .val (.ref ca), .val (.int n), .val (.int a), .val (.int b), .val (.int (2 : Int32)), .val (.int ((((6 : Int32) - a) - b) - (2 : Int32))), .unset, .unset, .unset, .unset, .unset, .unset, .unset, .unset]) (st' := [(.int (2 : Int32))]) rfl ?_
          refine own_goto X5 d0_143 (pc' := 148) (by decide) ?_
          refine own_blk X5 B0_148_154 B0_148_154d (ls' := #[.val (.long c01), .second, .val (.long c23), .second, .val (.int at0), .val (.int sel), .val (.int jk), .val (.int k0), .val (.int k1), .val (.int k2), .val (.int k3), .val (.ref ca), .val (.int n), .val (.int a), .val (.int b), .val (.int (2 : Int32)), .val (.int ((((6 : Int32) - a) - b) - (2 : Int32))), .val (.int (2 : Int32)), .unset, .unset, .unset, .unset, .unset, .unset, .unset]) (st' := [(.int (2 : Int32)), (.int (2 : Int32))]) rfl ?_
          refine own_icmp X5 d0_154 (pc' := 162) (by decide) (fun (c154 : ¬ (2 : Int) = 2) => by exfalso; omega) (fun c154 => ?_)
          have c154 : ¬ (¬ (2 : Int) = 2) := c154
          refine own_blk X5 B0_157_159 B0_157_159d (ls' := #[.val (.long c01), .second, .val (.long c23), .second, .val (.int at0), .val (.int sel), .val (.int jk), .val (.int k0), .val (.int k1), .val (.int k2), .val (.int k3), .val (.ref ca), .val (.int n), .val (.int a), .val (.int b), .val (.int (2 : Int32)), .val (.int ((((6 : Int32) - a) - b) - (2 : Int32))), .val (.int (2 : Int32)), .unset, .unset, .unset, .unset, .unset, .unset, .unset]) (st' := [(.int ((((6 : Int32) - a) - b) - (2 : Int32)))]) rfl ?_
          refine own_goto X5 d0_159 (pc' := 164) (by decide) ?_
          refine own_blk X5 B0_164_166 B0_164_166d (ls' := #[.val (.long c01), .second, .val (.long c23), .second, .val (.int at0), .val (.int sel), .val (.int jk), .val (.int k0), .val (.int k1), .val (.int k2), .val (.int k3), .val (.ref ca), .val (.int n), .val (.int a), .val (.int b), .val (.int (2 : Int32)), .val (.int ((((6 : Int32) - a) - b) - (2 : Int32))), .val (.int (2 : Int32)), .val (.int ((((6 : Int32) - a) - b) - (2 : Int32))), .unset, .unset, .unset, .unset, .unset, .unset]) (st' := []) rfl ?_
          exact J166 _ _ _ _ (by decide) ho
  · have c88 : ¬ (0 = a.toInt) := c88
    refine own_blk X5 B0_91_95 B0_91_95d (ls' := #[.val (.long c01), .second, .val (.long c23), .second, .val (.int at0), .val (.int sel), .val (.int jk), .val (.int k0), .val (.int k1), .val (.int k2), .val (.int k3), .val (.ref ca), .val (.int n), .val (.int a), .val (.int b), .val (.int (0 : Int32)), .unset, .unset, .unset, .unset, .unset, .unset, .unset, .unset, .unset]) (st' := [(.int b), (.int (0 : Int32))]) rfl ?_
    refine own_icmp X5 d0_95 (pc' := 101) (by decide) (fun c95 => ?_) (fun c95 => ?_)
    · have c95 : ¬ 0 = b.toInt := c95
      refine own_blk X5 B0_101_105 B0_101_105d (ls' := #[.val (.long c01), .second, .val (.long c23), .second, .val (.int at0), .val (.int sel), .val (.int jk), .val (.int k0), .val (.int k1), .val (.int k2), .val (.int k3), .val (.ref ca), .val (.int n), .val (.int a), .val (.int b), .val (.int (0 : Int32)), .unset, .unset, .unset, .unset, .unset, .unset, .unset, .unset, .unset]) (st' := [(.int a), (.int (0 : Int32))]) rfl ?_
      refine own_icmp X5 d0_105 (pc' := 115) (by decide) (fun c105 => ?_) (fun c105 => ?_)
      · have c105 : 0 = a.toInt := c105
        refine own_blk X5 B0_115_118 B0_115_118d (ls' := #[.val (.long c01), .second, .val (.long c23), .second, .val (.int at0), .val (.int sel), .val (.int jk), .val (.int k0), .val (.int k1), .val (.int k2), .val (.int k3), .val (.ref ca), .val (.int n), .val (.int a), .val (.int b), .val (.int (2 : Int32)), .unset, .unset, .unset, .unset, .unset, .unset, .unset, .unset, .unset]) (st' := []) rfl ?_
        have ho : 0 ≤ ((((6 : Int32) - a) - b) - (2 : Int32)).toInt ∧ ((((6 : Int32) - a) - b) - (2 : Int32)).toInt ≤ 3 := by
          have h1 : ((6 : Int32) - a).toInt = 6 - a.toInt := Jvm.Kit.i32_sub (by show _ ≤ (6 : Int) - _; omega) (by show (6 : Int) - _ < _; omega)
          have h2 : (((6 : Int32) - a) - b).toInt = 6 - a.toInt - b.toInt := by rw [Jvm.Kit.i32_sub (by omega) (by omega), h1]
          rw [own_subc (d := 2) rfl (by omega) (by omega), h2]; omega
        refine own_blk X5 B0_118_138 B0_118_138d (ls' := #[.val (.long c01), .second, .val (.long c23), .second, .val (.int at0), .val (.int sel), .val (.int jk), .val (.int k0), .val (.int k1), .val (.int k2), .val (.int k3), .val (.ref ca), .val (.int n), .val (.int a), .val (.int b), .val (.int (2 : Int32)), .val (.int ((((6 : Int32) - a) - b) - (2 : Int32))), .unset, .unset, .unset, .unset, .unset, .unset, .unset, .unset]) (st' := [(.int ((own_iushr sel (7 : Int32)) &&& (1 : Int32)))]) rfl ?_
        refine own_if X5 d0_138 (pc' := 146) (by decide) (fun c138 => ?_) (fun c138 => ?_)
        · have c138 : ((own_iushr sel (7 : Int32)) &&& (1 : Int32)).toInt = 0 := c138
          refine own_blk X5 B0_146_154 B0_146_154d (ls' := #[.val (.long c01), .second, .val (.long c23), .second, .val (.int at0), .val (.int sel), .val (.int jk), .val (.int k0), .val (.int k1), .val (.int k2), .val (.int k3), .val (.ref ca), .val (.int n), .val (.int a), .val (.int b), .val (.int (2 : Int32)), .val (.int ((((6 : Int32) - a) - b) - (2 : Int32))), .val (.int ((((6 : Int32) - a) - b) - (2 : Int32))), .unset, .unset, .unset, .unset, .unset, .unset, .unset]) (st' := [(.int (2 : Int32)), (.int ((((6 : Int32) - a) - b) - (2 : Int32)))]) rfl ?_
          refine own_icmp X5 d0_154 (pc' := 162) (by decide) (fun c154 => ?_) (fun c154 => ?_)
          · have c154 : ¬ ((((6 : Int32) - a) - b) - (2 : Int32)).toInt = 2 := c154
            refine own_blk X5 B0_162_166 B0_162_166d (ls' := #[.val (.long c01), .second, .val (.long c23), .second, .val (.int at0), .val (.int sel), .val (.int jk), .val (.int k0), .val (.int k1), .val (.int k2), .val (.int k3), .val (.ref ca), .val (.int n), .val (.int a), .val (.int b), .val (.int (2 : Int32)), .val (.int ((((6 : Int32) - a) - b) - (2 : Int32))), .val (.int ((((6 : Int32) - a) - b) - (2 : Int32))), .val (.int (2 : Int32)), .unset, .unset, .unset, .unset, .unset, .unset]) (st' := []) rfl ?_
            exact J166 _ _ _ _ ho (by decide)
          · have c154 : ¬ (¬ ((((6 : Int32) - a) - b) - (2 : Int32)).toInt = 2) := c154
            refine own_blk X5 B0_157_159 B0_157_159d (ls' := #[.val (.long c01), .second, .val (.long c23), .second, .val (.int at0), .val (.int sel), .val (.int jk), .val (.int k0), .val (.int k1), .val (.int k2), .val (.int k3), .val (.ref ca), .val (.int n), .val (.int a), .val (.int b), .val (.int (2 : Int32)), .val (.int ((((6 : Int32) - a) - b) - (2 : Int32))), .val (.int ((((6 : Int32) - a) - b) - (2 : Int32))), .unset, .unset, .unset, .unset, .unset, .unset, .unset]) (st' := [(.int ((((6 : Int32) - a) - b) - (2 : Int32)))]) rfl ?_
            refine own_goto X5 d0_159 (pc' := 164) (by decide) ?_
            refine own_blk X5 B0_164_166 B0_164_166d (ls' := #[.val (.long c01), .second, .val (.long c23), .second, .val (.int at0), .val (.int sel), .val (.int jk), .val (.int k0), .val (.int k1), .val (.int k2), .val (.int k3), .val (.ref ca), .val (.int n), .val (.int a), .val (.int b), .val (.int (2 : Int32)), .val (.int ((((6 : Int32) - a) - b) - (2 : Int32))), .val (.int ((((6 : Int32) - a) - b) - (2 : Int32))), .val (.int ((((6 : Int32) - a) - b) - (2 : Int32))), .unset, .unset, .unset, .unset, .unset, .unset]) (st' := []) rfl ?_
            exact J166 _ _ _ _ ho ho
        · have c138 : ¬ (((own_iushr sel (7 : Int32)) &&& (1 : Int32)).toInt = 0) := c138
          refine own_blk X5 B0_141_143 B0_141_143d (ls' := #[.val (.long c01), .second, .val (.long c23), .second, .val (.int at0), .val (.int sel), .val (.int jk), .val (.int k0), .val (.int k1), .val (.int k2), .val (.int k3), .val (.ref ca), .val (.int n), .val (.int a), .val (.int b), .val (.int (2 : Int32)), .val (.int ((((6 : Int32) - a) - b) - (2 : Int32))), .unset, .unset, .unset, .unset, .unset, .unset, .unset, .unset]) (st' := [(.int (2 : Int32))]) rfl ?_
          refine own_goto X5 d0_143 (pc' := 148) (by decide) ?_
          refine own_blk X5 B0_148_154 B0_148_154d (ls' := #[.val (.long c01), .second, .val (.long c23), .second, .val (.int at0), .val (.int sel), .val (.int jk), .val (.int k0), .val (.int k1), .val (.int k2), .val (.int k3), .val (.ref ca), .val (.int n), .val (.int a), .val (.int b), .val (.int (2 : Int32)), .val (.int ((((6 : Int32) - a) - b) - (2 : Int32))), .val (.int (2 : Int32)), .unset, .unset, .unset, .unset, .unset, .unset, .unset]) (st' := [(.int (2 : Int32)), (.int (2 : Int32))]) rfl ?_
          refine own_icmp X5 d0_154 (pc' := 162) (by decide) (fun (c154 : ¬ (2 : Int) = 2) => by exfalso; omega) (fun c154 => ?_)
          have c154 : ¬ (¬ (2 : Int) = 2) := c154
          refine own_blk X5 B0_157_159 B0_157_159d (ls' := #[.val (.long c01), .second, .val (.long c23), .second, .val (.int at0), .val (.int sel), .val (.int jk), .val (.int k0), .val (.int k1), .val (.int k2), .val (.int k3), .val (.ref ca), .val (.int n), .val (.int a), .val (.int b), .val (.int (2 : Int32)), .val (.int ((((6 : Int32) - a) - b) - (2 : Int32))), .val (.int (2 : Int32)), .unset, .unset, .unset, .unset, .unset, .unset, .unset]) (st' := [(.int ((((6 : Int32) - a) - b) - (2 : Int32)))]) rfl ?_
          refine own_goto X5 d0_159 (pc' := 164) (by decide) ?_
          refine own_blk X5 B0_164_166 B0_164_166d (ls' := #[.val (.long c01), .second, .val (.long c23), .second, .val (.int at0), .val (.int sel), .val (.int jk), .val (.int k0), .val (.int k1), .val (.int k2), .val (.int k3), .val (.ref ca), .val (.int n), .val (.int a), .val (.int b), .val (.int (2 : Int32)), .val (.int ((((6 : Int32) - a) - b) - (2 : Int32))), .val (.int (2 : Int32)), .val (.int ((((6 : Int32) - a) - b) - (2 : Int32))), .unset, .unset, .unset, .unset, .unset, .unset]) (st' := []) rfl ?_
          exact J166 _ _ _ _ (by decide) ho
      · have c105 : ¬ (0 = a.toInt) := c105
        refine own_blk X5 B0_108_112 B0_108_112d (ls' := #[.val (.long c01), .second, .val (.long c23), .second, .val (.int at0), .val (.int sel), .val (.int jk), .val (.int k0), .val (.int k1), .val (.int k2), .val (.int k3), .val (.ref ca), .val (.int n), .val (.int a), .val (.int b), .val (.int (0 : Int32)), .unset, .unset, .unset, .unset, .unset, .unset, .unset, .unset, .unset]) (st' := [(.int b), (.int (0 : Int32))]) rfl ?_
        refine own_icmp X5 d0_112 (pc' := 118) (by decide) (fun c112 => ?_) (fun c112 => ?_)
        · have c112 : ¬ 0 = b.toInt := c112
          have ho : 0 ≤ ((((6 : Int32) - a) - b) - (0 : Int32)).toInt ∧ ((((6 : Int32) - a) - b) - (0 : Int32)).toInt ≤ 3 := by
            have h1 : ((6 : Int32) - a).toInt = 6 - a.toInt := Jvm.Kit.i32_sub (by show _ ≤ (6 : Int) - _; omega) (by show (6 : Int) - _ < _; omega)
            have h2 : (((6 : Int32) - a) - b).toInt = 6 - a.toInt - b.toInt := by rw [Jvm.Kit.i32_sub (by omega) (by omega), h1]
            rw [own_subc (d := 0) rfl (by omega) (by omega), h2]; omega
          refine own_blk X5 B0_118_138 B0_118_138d (ls' := #[.val (.long c01), .second, .val (.long c23), .second, .val (.int at0), .val (.int sel), .val (.int jk), .val (.int k0), .val (.int k1), .val (.int k2), .val (.int k3), .val (.ref ca), .val (.int n), .val (.int a), .val (.int b), .val (.int (0 : Int32)), .val (.int ((((6 : Int32) - a) - b) - (0 : Int32))), .unset, .unset, .unset, .unset, .unset, .unset, .unset, .unset]) (st' := [(.int ((own_iushr sel (7 : Int32)) &&& (1 : Int32)))]) rfl ?_
          refine own_if X5 d0_138 (pc' := 146) (by decide) (fun c138 => ?_) (fun c138 => ?_)
          · have c138 : ((own_iushr sel (7 : Int32)) &&& (1 : Int32)).toInt = 0 := c138
            refine own_blk X5 B0_146_154 B0_146_154d (ls' := #[.val (.long c01), .second, .val (.long c23), .second, .val (.int at0), .val (.int sel), .val (.int jk), .val (.int k0), .val (.int k1), .val (.int k2), .val (.int k3), .val (.ref ca), .val (.int n), .val (.int a), .val (.int b), .val (.int (0 : Int32)), .val (.int ((((6 : Int32) - a) - b) - (0 : Int32))), .val (.int ((((6 : Int32) - a) - b) - (0 : Int32))), .unset, .unset, .unset, .unset, .unset, .unset, .unset]) (st' := [(.int (0 : Int32)), (.int ((((6 : Int32) - a) - b) - (0 : Int32)))]) rfl ?_
            refine own_icmp X5 d0_154 (pc' := 162) (by decide) (fun c154 => ?_) (fun c154 => ?_)
            · have c154 : ¬ ((((6 : Int32) - a) - b) - (0 : Int32)).toInt = 0 := c154
              refine own_blk X5 B0_162_166 B0_162_166d (ls' := #[.val (.long c01), .second, .val (.long c23), .second, .val (.int at0), .val (.int sel), .val (.int jk), .val (.int k0), .val (.int k1), .val (.int k2), .val (.int k3), .val (.ref ca), .val (.int n), .val (.int a), .val (.int b), .val (.int (0 : Int32)), .val (.int ((((6 : Int32) - a) - b) - (0 : Int32))), .val (.int ((((6 : Int32) - a) - b) - (0 : Int32))), .val (.int (0 : Int32)), .unset, .unset, .unset, .unset, .unset, .unset]) (st' := []) rfl ?_
              exact J166 _ _ _ _ ho (by decide)
            · have c154 : ¬ (¬ ((((6 : Int32) - a) - b) - (0 : Int32)).toInt = 0) := c154
              refine own_blk X5 B0_157_159 B0_157_159d (ls' := #[.val (.long c01), .second, .val (.long c23), .second, .val (.int at0), .val (.int sel), .val (.int jk), .val (.int k0), .val (.int k1), .val (.int k2), .val (.int k3), .val (.ref ca), .val (.int n), .val (.int a), .val (.int b), .val (.int (0 : Int32)), .val (.int ((((6 : Int32) - a) - b) - (0 : Int32))), .val (.int ((((6 : Int32) - a) - b) - (0 : Int32))), .unset, .unset, .unset, .unset, .unset, .unset, .unset]) (st' := [(.int ((((6 : Int32) - a) - b) - (0 : Int32)))]) rfl ?_
              refine own_goto X5 d0_159 (pc' := 164) (by decide) ?_
              refine own_blk X5 B0_164_166 B0_164_166d (ls' := #[.val (.long c01), .second, .val (.long c23), .second, .val (.int at0), .val (.int sel), .val (.int jk), .val (.int k0), .val (.int k1), .val (.int k2), .val (.int k3), .val (.ref ca), .val (.int n), .val (.int a), .val (.int b), .val (.int (0 : Int32)), .val (.int ((((6 : Int32) - a) - b) - (0 : Int32))), .val (.int ((((6 : Int32) - a) - b) - (0 : Int32))), .val (.int ((((6 : Int32) - a) - b) - (0 : Int32))), .unset, .unset, .unset, .unset, .unset, .unset]) (st' := []) rfl ?_
              exact J166 _ _ _ _ ho ho
          · have c138 : ¬ (((own_iushr sel (7 : Int32)) &&& (1 : Int32)).toInt = 0) := c138
            refine own_blk X5 B0_141_143 B0_141_143d (ls' := #[.val (.long c01), .second, .val (.long c23), .second, .val (.int at0), .val (.int sel), .val (.int jk), .val (.int k0), .val (.int k1), .val (.int k2), .val (.int k3), .val (.ref ca), .val (.int n), .val (.int a), .val (.int b), .val (.int (0 : Int32)), .val (.int ((((6 : Int32) - a) - b) - (0 : Int32))), .unset, .unset, .unset, .unset, .unset, .unset, .unset, .unset]) (st' := [(.int (0 : Int32))]) rfl ?_
            refine own_goto X5 d0_143 (pc' := 148) (by decide) ?_
            refine own_blk X5 B0_148_154 B0_148_154d (ls' := #[.val (.long c01), .second, .val (.long c23), .second, .val (.int at0), .val (.int sel), .val (.int jk), .val (.int k0), .val (.int k1), .val (.int k2), .val (.int k3), .val (.ref ca), .val (.int n), .val (.int a), .val (.int b), .val (.int (0 : Int32)), .val (.int ((((6 : Int32) - a) - b) - (0 : Int32))), .val (.int (0 : Int32)), .unset, .unset, .unset, .unset, .unset, .unset, .unset]) (st' := [(.int (0 : Int32)), (.int (0 : Int32))]) rfl ?_
            refine own_icmp X5 d0_154 (pc' := 162) (by decide) (fun (c154 : ¬ (0 : Int) = 0) => by exfalso; omega) (fun c154 => ?_)
            have c154 : ¬ (¬ (0 : Int) = 0) := c154
            refine own_blk X5 B0_157_159 B0_157_159d (ls' := #[.val (.long c01), .second, .val (.long c23), .second, .val (.int at0), .val (.int sel), .val (.int jk), .val (.int k0), .val (.int k1), .val (.int k2), .val (.int k3), .val (.ref ca), .val (.int n), .val (.int a), .val (.int b), .val (.int (0 : Int32)), .val (.int ((((6 : Int32) - a) - b) - (0 : Int32))), .val (.int (0 : Int32)), .unset, .unset, .unset, .unset, .unset, .unset, .unset]) (st' := [(.int ((((6 : Int32) - a) - b) - (0 : Int32)))]) rfl ?_
            refine own_goto X5 d0_159 (pc' := 164) (by decide) ?_
            refine own_blk X5 B0_164_166 B0_164_166d (ls' := #[.val (.long c01), .second, .val (.long c23), .second, .val (.int at0), .val (.int sel), .val (.int jk), .val (.int k0), .val (.int k1), .val (.int k2), .val (.int k3), .val (.ref ca), .val (.int n), .val (.int a), .val (.int b), .val (.int (0 : Int32)), .val (.int ((((6 : Int32) - a) - b) - (0 : Int32))), .val (.int (0 : Int32)), .val (.int ((((6 : Int32) - a) - b) - (0 : Int32))), .unset, .unset, .unset, .unset, .unset, .unset]) (st' := []) rfl ?_
            exact J166 _ _ _ _ (by decide) ho
        · have c112 : ¬ (¬ 0 = b.toInt) := c112
          refine own_blk X5 B0_115_118 B0_115_118d (ls' := #[.val (.long c01), .second, .val (.long c23), .second, .val (.int at0), .val (.int sel), .val (.int jk), .val (.int k0), .val (.int k1), .val (.int k2), .val (.int k3), .val (.ref ca), .val (.int n), .val (.int a), .val (.int b), .val (.int (2 : Int32)), .unset, .unset, .unset, .unset, .unset, .unset, .unset, .unset, .unset]) (st' := []) rfl ?_
          have ho : 0 ≤ ((((6 : Int32) - a) - b) - (2 : Int32)).toInt ∧ ((((6 : Int32) - a) - b) - (2 : Int32)).toInt ≤ 3 := by
            have h1 : ((6 : Int32) - a).toInt = 6 - a.toInt := Jvm.Kit.i32_sub (by show _ ≤ (6 : Int) - _; omega) (by show (6 : Int) - _ < _; omega)
            have h2 : (((6 : Int32) - a) - b).toInt = 6 - a.toInt - b.toInt := by rw [Jvm.Kit.i32_sub (by omega) (by omega), h1]
            rw [own_subc (d := 2) rfl (by omega) (by omega), h2]; omega
          refine own_blk X5 B0_118_138 B0_118_138d (ls' := #[.val (.long c01), .second, .val (.long c23), .second, .val (.int at0), .val (.int sel), .val (.int jk), .val (.int k0), .val (.int k1), .val (.int k2), .val (.int k3), .val (.ref ca), .val (.int n), .val (.int a), .val (.int b), .val (.int (2 : Int32)), .val (.int ((((6 : Int32) - a) - b) - (2 : Int32))), .unset, .unset, .unset, .unset, .unset, .unset, .unset, .unset]) (st' := [(.int ((own_iushr sel (7 : Int32)) &&& (1 : Int32)))]) rfl ?_
          refine own_if X5 d0_138 (pc' := 146) (by decide) (fun c138 => ?_) (fun c138 => ?_)
          · have c138 : ((own_iushr sel (7 : Int32)) &&& (1 : Int32)).toInt = 0 := c138
            refine own_blk X5 B0_146_154 B0_146_154d (ls' := #[.val (.long c01), .second, .val (.long c23), .second, .val (.int at0), .val (.int sel), .val (.int jk), .val (.int k0), .val (.int k1), .val (.int k2), .val (.int k3), .val (.ref ca), .val (.int n), .val (.int a), .val (.int b), .val (.int (2 : Int32)), .val (.int ((((6 : Int32) - a) - b) - (2 : Int32))), .val (.int ((((6 : Int32) - a) - b) - (2 : Int32))), .unset, .unset, .unset, .unset, .unset, .unset, .unset]) (st' := [(.int (2 : Int32)), (.int ((((6 : Int32) - a) - b) - (2 : Int32)))]) rfl ?_
            refine own_icmp X5 d0_154 (pc' := 162) (by decide) (fun c154 => ?_) (fun c154 => ?_)
            · have c154 : ¬ ((((6 : Int32) - a) - b) - (2 : Int32)).toInt = 2 := c154
              refine own_blk X5 B0_162_166 B0_162_166d (ls' := #[.val (.long c01), .second, .val (.long c23), .second, .val (.int at0), .val (.int sel), .val (.int jk), .val (.int k0), .val (.int k1), .val (.int k2), .val (.int k3), .val (.ref ca), .val (.int n), .val (.int a), .val (.int b), .val (.int (2 : Int32)), .val (.int ((((6 : Int32) - a) - b) - (2 : Int32))), .val (.int ((((6 : Int32) - a) - b) - (2 : Int32))), .val (.int (2 : Int32)), .unset, .unset, .unset, .unset, .unset, .unset]) (st' := []) rfl ?_
              exact J166 _ _ _ _ ho (by decide)
            · have c154 : ¬ (¬ ((((6 : Int32) - a) - b) - (2 : Int32)).toInt = 2) := c154
              refine own_blk X5 B0_157_159 B0_157_159d (ls' := #[.val (.long c01), .second, .val (.long c23), .second, .val (.int at0), .val (.int sel), .val (.int jk), .val (.int k0), .val (.int k1), .val (.int k2), .val (.int k3), .val (.ref ca), .val (.int n), .val (.int a), .val (.int b), .val (.int (2 : Int32)), .val (.int ((((6 : Int32) - a) - b) - (2 : Int32))), .val (.int ((((6 : Int32) - a) - b) - (2 : Int32))), .unset, .unset, .unset, .unset, .unset, .unset, .unset]) (st' := [(.int ((((6 : Int32) - a) - b) - (2 : Int32)))]) rfl ?_
              refine own_goto X5 d0_159 (pc' := 164) (by decide) ?_
              refine own_blk X5 B0_164_166 B0_164_166d (ls' := #[.val (.long c01), .second, .val (.long c23), .second, .val (.int at0), .val (.int sel), .val (.int jk), .val (.int k0), .val (.int k1), .val (.int k2), .val (.int k3), .val (.ref ca), .val (.int n), .val (.int a), .val (.int b), .val (.int (2 : Int32)), .val (.int ((((6 : Int32) - a) - b) - (2 : Int32))), .val (.int ((((6 : Int32) - a) - b) - (2 : Int32))), .val (.int ((((6 : Int32) - a) - b) - (2 : Int32))), .unset, .unset, .unset, .unset, .unset, .unset]) (st' := []) rfl ?_
              exact J166 _ _ _ _ ho ho
          · have c138 : ¬ (((own_iushr sel (7 : Int32)) &&& (1 : Int32)).toInt = 0) := c138
            refine own_blk X5 B0_141_143 B0_141_143d (ls' := #[.val (.long c01), .second, .val (.long c23), .second, .val (.int at0), .val (.int sel), .val (.int jk), .val (.int k0), .val (.int k1), .val (.int k2), .val (.int k3), .val (.ref ca), .val (.int n), .val (.int a), .val (.int b), .val (.int (2 : Int32)), .val (.int ((((6 : Int32) - a) - b) - (2 : Int32))), .unset, .unset, .unset, .unset, .unset, .unset, .unset, .unset]) (st' := [(.int (2 : Int32))]) rfl ?_
            refine own_goto X5 d0_143 (pc' := 148) (by decide) ?_
            refine own_blk X5 B0_148_154 B0_148_154d (ls' := #[.val (.long c01), .second, .val (.long c23), .second, .val (.int at0), .val (.int sel), .val (.int jk), .val (.int k0), .val (.int k1), .val (.int k2), .val (.int k3), .val (.ref ca), .val (.int n), .val (.int a), .val (.int b), .val (.int (2 : Int32)), .val (.int ((((6 : Int32) - a) - b) - (2 : Int32))), .val (.int (2 : Int32)), .unset, .unset, .unset, .unset, .unset, .unset, .unset]) (st' := [(.int (2 : Int32)), (.int (2 : Int32))]) rfl ?_
            refine own_icmp X5 d0_154 (pc' := 162) (by decide) (fun (c154 : ¬ (2 : Int) = 2) => by exfalso; omega) (fun c154 => ?_)
            have c154 : ¬ (¬ (2 : Int) = 2) := c154
            refine own_blk X5 B0_157_159 B0_157_159d (ls' := #[.val (.long c01), .second, .val (.long c23), .second, .val (.int at0), .val (.int sel), .val (.int jk), .val (.int k0), .val (.int k1), .val (.int k2), .val (.int k3), .val (.ref ca), .val (.int n), .val (.int a), .val (.int b), .val (.int (2 : Int32)), .val (.int ((((6 : Int32) - a) - b) - (2 : Int32))), .val (.int (2 : Int32)), .unset, .unset, .unset, .unset, .unset, .unset, .unset]) (st' := [(.int ((((6 : Int32) - a) - b) - (2 : Int32)))]) rfl ?_
            refine own_goto X5 d0_159 (pc' := 164) (by decide) ?_
            refine own_blk X5 B0_164_166 B0_164_166d (ls' := #[.val (.long c01), .second, .val (.long c23), .second, .val (.int at0), .val (.int sel), .val (.int jk), .val (.int k0), .val (.int k1), .val (.int k2), .val (.int k3), .val (.ref ca), .val (.int n), .val (.int a), .val (.int b), .val (.int (2 : Int32)), .val (.int ((((6 : Int32) - a) - b) - (2 : Int32))), .val (.int (2 : Int32)), .val (.int ((((6 : Int32) - a) - b) - (2 : Int32))), .unset, .unset, .unset, .unset, .unset, .unset]) (st' := []) rfl ?_
            exact J166 _ _ _ _ (by decide) ho
    · have c95 : ¬ (¬ 0 = b.toInt) := c95
      refine own_blk X5 B0_98_105 B0_98_105d (ls' := #[.val (.long c01), .second, .val (.long c23), .second, .val (.int at0), .val (.int sel), .val (.int jk), .val (.int k0), .val (.int k1), .val (.int k2), .val (.int k3), .val (.ref ca), .val (.int n), .val (.int a), .val (.int b), .val (.int (1 : Int32)), .unset, .unset, .unset, .unset, .unset, .unset, .unset, .unset, .unset]) (st' := [(.int a), (.int (1 : Int32))]) rfl ?_
      refine own_icmp X5 d0_105 (pc' := 115) (by decide) (fun c105 => ?_) (fun c105 => ?_)
      · have c105 : 1 = a.toInt := c105
        refine own_blk X5 B0_115_118 B0_115_118d (ls' := #[.val (.long c01), .second, .val (.long c23), .second, .val (.int at0), .val (.int sel), .val (.int jk), .val (.int k0), .val (.int k1), .val (.int k2), .val (.int k3), .val (.ref ca), .val (.int n), .val (.int a), .val (.int b), .val (.int (2 : Int32)), .unset, .unset, .unset, .unset, .unset, .unset, .unset, .unset, .unset]) (st' := []) rfl ?_
        have ho : 0 ≤ ((((6 : Int32) - a) - b) - (2 : Int32)).toInt ∧ ((((6 : Int32) - a) - b) - (2 : Int32)).toInt ≤ 3 := by
          have h1 : ((6 : Int32) - a).toInt = 6 - a.toInt := Jvm.Kit.i32_sub (by show _ ≤ (6 : Int) - _; omega) (by show (6 : Int) - _ < _; omega)
          have h2 : (((6 : Int32) - a) - b).toInt = 6 - a.toInt - b.toInt := by rw [Jvm.Kit.i32_sub (by omega) (by omega), h1]
          rw [own_subc (d := 2) rfl (by omega) (by omega), h2]; omega
        refine own_blk X5 B0_118_138 B0_118_138d (ls' := #[.val (.long c01), .second, .val (.long c23), .second, .val (.int at0), .val (.int sel), .val (.int jk), .val (.int k0), .val (.int k1), .val (.int k2), .val (.int k3), .val (.ref ca), .val (.int n), .val (.int a), .val (.int b), .val (.int (2 : Int32)), .val (.int ((((6 : Int32) - a) - b) - (2 : Int32))), .unset, .unset, .unset, .unset, .unset, .unset, .unset, .unset]) (st' := [(.int ((own_iushr sel (7 : Int32)) &&& (1 : Int32)))]) rfl ?_
        refine own_if X5 d0_138 (pc' := 146) (by decide) (fun c138 => ?_) (fun c138 => ?_)
        · have c138 : ((own_iushr sel (7 : Int32)) &&& (1 : Int32)).toInt = 0 := c138
          refine own_blk X5 B0_146_154 B0_146_154d (ls' := #[.val (.long c01), .second, .val (.long c23), .second, .val (.int at0), .val (.int sel), .val (.int jk), .val (.int k0), .val (.int k1), .val (.int k2), .val (.int k3), .val (.ref ca), .val (.int n), .val (.int a), .val (.int b), .val (.int (2 : Int32)), .val (.int ((((6 : Int32) - a) - b) - (2 : Int32))), .val (.int ((((6 : Int32) - a) - b) - (2 : Int32))), .unset, .unset, .unset, .unset, .unset, .unset, .unset]) (st' := [(.int (2 : Int32)), (.int ((((6 : Int32) - a) - b) - (2 : Int32)))]) rfl ?_
          refine own_icmp X5 d0_154 (pc' := 162) (by decide) (fun c154 => ?_) (fun c154 => ?_)
          · have c154 : ¬ ((((6 : Int32) - a) - b) - (2 : Int32)).toInt = 2 := c154
            refine own_blk X5 B0_162_166 B0_162_166d (ls' := #[.val (.long c01), .second, .val (.long c23), .second, .val (.int at0), .val (.int sel), .val (.int jk), .val (.int k0), .val (.int k1), .val (.int k2), .val (.int k3), .val (.ref ca), .val (.int n), .val (.int a), .val (.int b), .val (.int (2 : Int32)), .val (.int ((((6 : Int32) - a) - b) - (2 : Int32))), .val (.int ((((6 : Int32) - a) - b) - (2 : Int32))), .val (.int (2 : Int32)), .unset, .unset, .unset, .unset, .unset, .unset]) (st' := []) rfl ?_
            exact J166 _ _ _ _ ho (by decide)
          · have c154 : ¬ (¬ ((((6 : Int32) - a) - b) - (2 : Int32)).toInt = 2) := c154
            refine own_blk X5 B0_157_159 B0_157_159d (ls' := #[.val (.long c01), .second, .val (.long c23), .second, .val (.int at0), .val (.int sel), .val (.int jk), .val (.int k0), .val (.int k1), .val (.int k2), .val (.int k3), .val (.ref ca), .val (.int n), .val (.int a), .val (.int b), .val (.int (2 : Int32)), .val (.int ((((6 : Int32) - a) - b) - (2 : Int32))), .val (.int ((((6 : Int32) - a) - b) - (2 : Int32))), .unset, .unset, .unset, .unset, .unset, .unset, .unset]) (st' := [(.int ((((6 : Int32) - a) - b) - (2 : Int32)))]) rfl ?_
            refine own_goto X5 d0_159 (pc' := 164) (by decide) ?_
            refine own_blk X5 B0_164_166 B0_164_166d (ls' := #[.val (.long c01), .second, .val (.long c23), .second, .val (.int at0), .val (.int sel), .val (.int jk), .val (.int k0), .val (.int k1), .val (.int k2), .val (.int k3), .val (.ref ca), .val (.int n), .val (.int a), .val (.int b), .val (.int (2 : Int32)), .val (.int ((((6 : Int32) - a) - b) - (2 : Int32))), .val (.int ((((6 : Int32) - a) - b) - (2 : Int32))), .val (.int ((((6 : Int32) - a) - b) - (2 : Int32))), .unset, .unset, .unset, .unset, .unset, .unset]) (st' := []) rfl ?_
            exact J166 _ _ _ _ ho ho
        · have c138 : ¬ (((own_iushr sel (7 : Int32)) &&& (1 : Int32)).toInt = 0) := c138
          refine own_blk X5 B0_141_143 B0_141_143d (ls' := #[.val (.long c01), .second, .val (.long c23), .second, .val (.int at0), .val (.int sel), .val (.int jk), .val (.int k0), .val (.int k1), .val (.int k2), .val (.int k3), .val (.ref ca), .val (.int n), .val (.int a), .val (.int b), .val (.int (2 : Int32)), .val (.int ((((6 : Int32) - a) - b) - (2 : Int32))), .unset, .unset, .unset, .unset, .unset, .unset, .unset, .unset]) (st' := [(.int (2 : Int32))]) rfl ?_
          refine own_goto X5 d0_143 (pc' := 148) (by decide) ?_
          refine own_blk X5 B0_148_154 B0_148_154d (ls' := #[.val (.long c01), .second, .val (.long c23), .second, .val (.int at0), .val (.int sel), .val (.int jk), .val (.int k0), .val (.int k1), .val (.int k2), .val (.int k3), .val (.ref ca), .val (.int n), .val (.int a), .val (.int b), .val (.int (2 : Int32)), .val (.int ((((6 : Int32) - a) - b) - (2 : Int32))), .val (.int (2 : Int32)), .unset, .unset, .unset, .unset, .unset, .unset, .unset]) (st' := [(.int (2 : Int32)), (.int (2 : Int32))]) rfl ?_
          refine own_icmp X5 d0_154 (pc' := 162) (by decide) (fun (c154 : ¬ (2 : Int) = 2) => by exfalso; omega) (fun c154 => ?_)
          have c154 : ¬ (¬ (2 : Int) = 2) := c154
          refine own_blk X5 B0_157_159 B0_157_159d (ls' := #[.val (.long c01), .second, .val (.long c23), .second, .val (.int at0), .val (.int sel), .val (.int jk), .val (.int k0), .val (.int k1), .val (.int k2), .val (.int k3), .val (.ref ca), .val (.int n), .val (.int a), .val (.int b), .val (.int (2 : Int32)), .val (.int ((((6 : Int32) - a) - b) - (2 : Int32))), .val (.int (2 : Int32)), .unset, .unset, .unset, .unset, .unset, .unset, .unset]) (st' := [(.int ((((6 : Int32) - a) - b) - (2 : Int32)))]) rfl ?_
          refine own_goto X5 d0_159 (pc' := 164) (by decide) ?_
          refine own_blk X5 B0_164_166 B0_164_166d (ls' := #[.val (.long c01), .second, .val (.long c23), .second, .val (.int at0), .val (.int sel), .val (.int jk), .val (.int k0), .val (.int k1), .val (.int k2), .val (.int k3), .val (.ref ca), .val (.int n), .val (.int a), .val (.int b), .val (.int (2 : Int32)), .val (.int ((((6 : Int32) - a) - b) - (2 : Int32))), .val (.int (2 : Int32)), .val (.int ((((6 : Int32) - a) - b) - (2 : Int32))), .unset, .unset, .unset, .unset, .unset, .unset]) (st' := []) rfl ?_
          exact J166 _ _ _ _ (by decide) ho
      · have c105 : ¬ (1 = a.toInt) := c105
        refine own_blk X5 B0_108_112 B0_108_112d (ls' := #[.val (.long c01), .second, .val (.long c23), .second, .val (.int at0), .val (.int sel), .val (.int jk), .val (.int k0), .val (.int k1), .val (.int k2), .val (.int k3), .val (.ref ca), .val (.int n), .val (.int a), .val (.int b), .val (.int (1 : Int32)), .unset, .unset, .unset, .unset, .unset, .unset, .unset, .unset, .unset]) (st' := [(.int b), (.int (1 : Int32))]) rfl ?_
        refine own_icmp X5 d0_112 (pc' := 118) (by decide) (fun c112 => ?_) (fun c112 => ?_)
        · have c112 : ¬ 1 = b.toInt := c112
          have ho : 0 ≤ ((((6 : Int32) - a) - b) - (1 : Int32)).toInt ∧ ((((6 : Int32) - a) - b) - (1 : Int32)).toInt ≤ 3 := by
            have h1 : ((6 : Int32) - a).toInt = 6 - a.toInt := Jvm.Kit.i32_sub (by show _ ≤ (6 : Int) - _; omega) (by show (6 : Int) - _ < _; omega)
            have h2 : (((6 : Int32) - a) - b).toInt = 6 - a.toInt - b.toInt := by rw [Jvm.Kit.i32_sub (by omega) (by omega), h1]
            rw [own_subc (d := 1) rfl (by omega) (by omega), h2]; omega
          refine own_blk X5 B0_118_138 B0_118_138d (ls' := #[.val (.long c01), .second, .val (.long c23), .second, .val (.int at0), .val (.int sel), .val (.int jk), .val (.int k0), .val (.int k1), .val (.int k2), .val (.int k3), .val (.ref ca), .val (.int n), .val (.int a), .val (.int b), .val (.int (1 : Int32)), .val (.int ((((6 : Int32) - a) - b) - (1 : Int32))), .unset, .unset, .unset, .unset, .unset, .unset, .unset, .unset]) (st' := [(.int ((own_iushr sel (7 : Int32)) &&& (1 : Int32)))]) rfl ?_
          refine own_if X5 d0_138 (pc' := 146) (by decide) (fun c138 => ?_) (fun c138 => ?_)
          · have c138 : ((own_iushr sel (7 : Int32)) &&& (1 : Int32)).toInt = 0 := c138
            refine own_blk X5 B0_146_154 B0_146_154d (ls' := #[.val (.long c01), .second, .val (.long c23), .second, .val (.int at0), .val (.int sel), .val (.int jk), .val (.int k0), .val (.int k1), .val (.int k2), .val (.int k3), .val (.ref ca), .val (.int n), .val (.int a), .val (.int b), .val (.int (1 : Int32)), .val (.int ((((6 : Int32) - a) - b) - (1 : Int32))), .val (.int ((((6 : Int32) - a) - b) - (1 : Int32))), .unset, .unset, .unset, .unset, .unset, .unset, .unset]) (st' := [(.int (1 : Int32)), (.int ((((6 : Int32) - a) - b) - (1 : Int32)))]) rfl ?_
            refine own_icmp X5 d0_154 (pc' := 162) (by decide) (fun c154 => ?_) (fun c154 => ?_)
            · have c154 : ¬ ((((6 : Int32) - a) - b) - (1 : Int32)).toInt = 1 := c154
              refine own_blk X5 B0_162_166 B0_162_166d (ls' := #[.val (.long c01), .second, .val (.long c23), .second, .val (.int at0), .val (.int sel), .val (.int jk), .val (.int k0), .val (.int k1), .val (.int k2), .val (.int k3), .val (.ref ca), .val (.int n), .val (.int a), .val (.int b), .val (.int (1 : Int32)), .val (.int ((((6 : Int32) - a) - b) - (1 : Int32))), .val (.int ((((6 : Int32) - a) - b) - (1 : Int32))), .val (.int (1 : Int32)), .unset, .unset, .unset, .unset, .unset, .unset]) (st' := []) rfl ?_
              exact J166 _ _ _ _ ho (by decide)
            · have c154 : ¬ (¬ ((((6 : Int32) - a) - b) - (1 : Int32)).toInt = 1) := c154
              refine own_blk X5 B0_157_159 B0_157_159d (ls' := #[.val (.long c01), .second, .val (.long c23), .second, .val (.int at0), .val (.int sel), .val (.int jk), .val (.int k0), .val (.int k1), .val (.int k2), .val (.int k3), .val (.ref ca), .val (.int n), .val (.int a), .val (.int b), .val (.int (1 : Int32)), .val (.int ((((6 : Int32) - a) - b) - (1 : Int32))), .val (.int ((((6 : Int32) - a) - b) - (1 : Int32))), .unset, .unset, .unset, .unset, .unset, .unset, .unset]) (st' := [(.int ((((6 : Int32) - a) - b) - (1 : Int32)))]) rfl ?_
              refine own_goto X5 d0_159 (pc' := 164) (by decide) ?_
              refine own_blk X5 B0_164_166 B0_164_166d (ls' := #[.val (.long c01), .second, .val (.long c23), .second, .val (.int at0), .val (.int sel), .val (.int jk), .val (.int k0), .val (.int k1), .val (.int k2), .val (.int k3), .val (.ref ca), .val (.int n), .val (.int a), .val (.int b), .val (.int (1 : Int32)), .val (.int ((((6 : Int32) - a) - b) - (1 : Int32))), .val (.int ((((6 : Int32) - a) - b) - (1 : Int32))), .val (.int ((((6 : Int32) - a) - b) - (1 : Int32))), .unset, .unset, .unset, .unset, .unset, .unset]) (st' := []) rfl ?_
              exact J166 _ _ _ _ ho ho
          · have c138 : ¬ (((own_iushr sel (7 : Int32)) &&& (1 : Int32)).toInt = 0) := c138
            refine own_blk X5 B0_141_143 B0_141_143d (ls' := #[.val (.long c01), .second, .val (.long c23), .second, .val (.int at0), .val (.int sel), .val (.int jk), .val (.int k0), .val (.int k1), .val (.int k2), .val (.int k3), .val (.ref ca), .val (.int n), .val (.int a), .val (.int b), .val (.int (1 : Int32)), .val (.int ((((6 : Int32) - a) - b) - (1 : Int32))), .unset, .unset, .unset, .unset, .unset, .unset, .unset, .unset]) (st' := [(.int (1 : Int32))]) rfl ?_
            refine own_goto X5 d0_143 (pc' := 148) (by decide) ?_
            refine own_blk X5 B0_148_154 B0_148_154d (ls' := #[.val (.long c01), .second, .val (.long c23), .second, .val (.int at0), .val (.int sel), .val (.int jk), .val (.int k0), .val (.int k1), .val (.int k2), .val (.int k3), .val (.ref ca), .val (.int n), .val (.int a), .val (.int b), .val (.int (1 : Int32)), .val (.int ((((6 : Int32) - a) - b) - (1 : Int32))), .val (.int (1 : Int32)), .unset, .unset, .unset, .unset, .unset, .unset, .unset]) (st' := [(.int (1 : Int32)), (.int (1 : Int32))]) rfl ?_
            refine own_icmp X5 d0_154 (pc' := 162) (by decide) (fun (c154 : ¬ (1 : Int) = 1) => by exfalso; omega) (fun c154 => ?_)
            have c154 : ¬ (¬ (1 : Int) = 1) := c154
            refine own_blk X5 B0_157_159 B0_157_159d (ls' := #[.val (.long c01), .second, .val (.long c23), .second, .val (.int at0), .val (.int sel), .val (.int jk), .val (.int k0), .val (.int k1), .val (.int k2), .val (.int k3), .val (.ref ca), .val (.int n), .val (.int a), .val (.int b), .val (.int (1 : Int32)), .val (.int ((((6 : Int32) - a) - b) - (1 : Int32))), .val (.int (1 : Int32)), .unset, .unset, .unset, .unset, .unset, .unset, .unset]) (st' := [(.int ((((6 : Int32) - a) - b) - (1 : Int32)))]) rfl ?_
            refine own_goto X5 d0_159 (pc' := 164) (by decide) ?_
            refine own_blk X5 B0_164_166 B0_164_166d (ls' := #[.val (.long c01), .second, .val (.long c23), .second, .val (.int at0), .val (.int sel), .val (.int jk), .val (.int k0), .val (.int k1), .val (.int k2), .val (.int k3), .val (.ref ca), .val (.int n), .val (.int a), .val (.int b), .val (.int (1 : Int32)), .val (.int ((((6 : Int32) - a) - b) - (1 : Int32))), .val (.int (1 : Int32)), .val (.int ((((6 : Int32) - a) - b) - (1 : Int32))), .unset, .unset, .unset, .unset, .unset, .unset]) (st' := []) rfl ?_
            exact J166 _ _ _ _ (by decide) ho
        · have c112 : ¬ (¬ 1 = b.toInt) := c112
          refine own_blk X5 B0_115_118 B0_115_118d (ls' := #[.val (.long c01), .second, .val (.long c23), .second, .val (.int at0), .val (.int sel), .val (.int jk), .val (.int k0), .val (.int k1), .val (.int k2), .val (.int k3), .val (.ref ca), .val (.int n), .val (.int a), .val (.int b), .val (.int (2 : Int32)), .unset, .unset, .unset, .unset, .unset, .unset, .unset, .unset, .unset]) (st' := []) rfl ?_
          have ho : 0 ≤ ((((6 : Int32) - a) - b) - (2 : Int32)).toInt ∧ ((((6 : Int32) - a) - b) - (2 : Int32)).toInt ≤ 3 := by
            have h1 : ((6 : Int32) - a).toInt = 6 - a.toInt := Jvm.Kit.i32_sub (by show _ ≤ (6 : Int) - _; omega) (by show (6 : Int) - _ < _; omega)
            have h2 : (((6 : Int32) - a) - b).toInt = 6 - a.toInt - b.toInt := by rw [Jvm.Kit.i32_sub (by omega) (by omega), h1]
            rw [own_subc (d := 2) rfl (by omega) (by omega), h2]; omega
          refine own_blk X5 B0_118_138 B0_118_138d (ls' := #[.val (.long c01), .second, .val (.long c23), .second, .val (.int at0), .val (.int sel), .val (.int jk), .val (.int k0), .val (.int k1), .val (.int k2), .val (.int k3), .val (.ref ca), .val (.int n), .val (.int a), .val (.int b), .val (.int (2 : Int32)), .val (.int ((((6 : Int32) - a) - b) - (2 : Int32))), .unset, .unset, .unset, .unset, .unset, .unset, .unset, .unset]) (st' := [(.int ((own_iushr sel (7 : Int32)) &&& (1 : Int32)))]) rfl ?_
          refine own_if X5 d0_138 (pc' := 146) (by decide) (fun c138 => ?_) (fun c138 => ?_)
          · have c138 : ((own_iushr sel (7 : Int32)) &&& (1 : Int32)).toInt = 0 := c138
            refine own_blk X5 B0_146_154 B0_146_154d (ls' := #[.val (.long c01), .second, .val (.long c23), .second, .val (.int at0), .val (.int sel), .val (.int jk), .val (.int k0), .val (.int k1), .val (.int k2), .val (.int k3), .val (.ref ca), .val (.int n), .val (.int a), .val (.int b), .val (.int (2 : Int32)), .val (.int ((((6 : Int32) - a) - b) - (2 : Int32))), .val (.int ((((6 : Int32) - a) - b) - (2 : Int32))), .unset, .unset, .unset, .unset, .unset, .unset, .unset]) (st' := [(.int (2 : Int32)), (.int ((((6 : Int32) - a) - b) - (2 : Int32)))]) rfl ?_
            refine own_icmp X5 d0_154 (pc' := 162) (by decide) (fun c154 => ?_) (fun c154 => ?_)
            · have c154 : ¬ ((((6 : Int32) - a) - b) - (2 : Int32)).toInt = 2 := c154
              refine own_blk X5 B0_162_166 B0_162_166d (ls' := #[.val (.long c01), .second, .val (.long c23), .second, .val (.int at0), .val (.int sel), .val (.int jk), .val (.int k0), .val (.int k1), .val (.int k2), .val (.int k3), .val (.ref ca), .val (.int n), .val (.int a), .val (.int b), .val (.int (2 : Int32)), .val (.int ((((6 : Int32) - a) - b) - (2 : Int32))), .val (.int ((((6 : Int32) - a) - b) - (2 : Int32))), .val (.int (2 : Int32)), .unset, .unset, .unset, .unset, .unset, .unset]) (st' := []) rfl ?_
              exact J166 _ _ _ _ ho (by decide)
            · have c154 : ¬ (¬ ((((6 : Int32) - a) - b) - (2 : Int32)).toInt = 2) := c154
              refine own_blk X5 B0_157_159 B0_157_159d (ls' := #[.val (.long c01), .second, .val (.long c23), .second, .val (.int at0), .val (.int sel), .val (.int jk), .val (.int k0), .val (.int k1), .val (.int k2), .val (.int k3), .val (.ref ca), .val (.int n), .val (.int a), .val (.int b), .val (.int (2 : Int32)), .val (.int ((((6 : Int32) - a) - b) - (2 : Int32))), .val (.int ((((6 : Int32) - a) - b) - (2 : Int32))), .unset, .unset, .unset, .unset, .unset, .unset, .unset]) (st' := [(.int ((((6 : Int32) - a) - b) - (2 : Int32)))]) rfl ?_
              refine own_goto X5 d0_159 (pc' := 164) (by decide) ?_
              refine own_blk X5 B0_164_166 B0_164_166d (ls' := #[.val (.long c01), .second, .val (.long c23), .second, .val (.int at0), .val (.int sel), .val (.int jk), .val (.int k0), .val (.int k1), .val (.int k2), .val (.int k3), .val (.ref ca), .val (.int n), .val (.int a), .val (.int b), .val (.int (2 : Int32)), .val (.int ((((6 : Int32) - a) - b) - (2 : Int32))), .val (.int ((((6 : Int32) - a) - b) - (2 : Int32))), .val (.int ((((6 : Int32) - a) - b) - (2 : Int32))), .unset, .unset, .unset, .unset, .unset, .unset]) (st' := []) rfl ?_
              exact J166 _ _ _ _ ho ho
          · have c138 : ¬ (((own_iushr sel (7 : Int32)) &&& (1 : Int32)).toInt = 0) := c138
            refine own_blk X5 B0_141_143 B0_141_143d (ls' := #[.val (.long c01), .second, .val (.long c23), .second, .val (.int at0), .val (.int sel), .val (.int jk), .val (.int k0), .val (.int k1), .val (.int k2), .val (.int k3), .val (.ref ca), .val (.int n), .val (.int a), .val (.int b), .val (.int (2 : Int32)), .val (.int ((((6 : Int32) - a) - b) - (2 : Int32))), .unset, .unset, .unset, .unset, .unset, .unset, .unset, .unset]) (st' := [(.int (2 : Int32))]) rfl ?_
            refine own_goto X5 d0_143 (pc' := 148) (by decide) ?_
            refine own_blk X5 B0_148_154 B0_148_154d (ls' := #[.val (.long c01), .second, .val (.long c23), .second, .val (.int at0), .val (.int sel), .val (.int jk), .val (.int k0), .val (.int k1), .val (.int k2), .val (.int k3), .val (.ref ca), .val (.int n), .val (.int a), .val (.int b), .val (.int (2 : Int32)), .val (.int ((((6 : Int32) - a) - b) - (2 : Int32))), .val (.int (2 : Int32)), .unset, .unset, .unset, .unset, .unset, .unset, .unset]) (st' := [(.int (2 : Int32)), (.int (2 : Int32))]) rfl ?_
            refine own_icmp X5 d0_154 (pc' := 162) (by decide) (fun (c154 : ¬ (2 : Int) = 2) => by exfalso; omega) (fun c154 => ?_)
            have c154 : ¬ (¬ (2 : Int) = 2) := c154
            refine own_blk X5 B0_157_159 B0_157_159d (ls' := #[.val (.long c01), .second, .val (.long c23), .second, .val (.int at0), .val (.int sel), .val (.int jk), .val (.int k0), .val (.int k1), .val (.int k2), .val (.int k3), .val (.ref ca), .val (.int n), .val (.int a), .val (.int b), .val (.int (2 : Int32)), .val (.int ((((6 : Int32) - a) - b) - (2 : Int32))), .val (.int (2 : Int32)), .unset, .unset, .unset, .unset, .unset, .unset, .unset]) (st' := [(.int ((((6 : Int32) - a) - b) - (2 : Int32)))]) rfl ?_
            refine own_goto X5 d0_159 (pc' := 164) (by decide) ?_
            refine own_blk X5 B0_164_166 B0_164_166d (ls' := #[.val (.long c01), .second, .val (.long c23), .second, .val (.int at0), .val (.int sel), .val (.int jk), .val (.int k0), .val (.int k1), .val (.int k2), .val (.int k3), .val (.ref ca), .val (.int n), .val (.int a), .val (.int b), .val (.int (2 : Int32)), .val (.int ((((6 : Int32) - a) - b) - (2 : Int32))), .val (.int (2 : Int32)), .val (.int ((((6 : Int32) - a) - b) - (2 : Int32))), .unset, .unset, .unset, .unset, .unset, .unset]) (st' := []) rfl ?_
            exact J166 _ _ _ _ (by decide) ho
set_option maxRecDepth 65536 in
set_option maxHeartbeats 40000000 in
theorem comes_1 {Post : Tables → Env → Array Value → State → Outcome → State → Prop} (hpost : ∀ tb e args s v u, (limb_1_1.after args s (.returned v) u = true ∧ limb_1_2.after args s (.returned v) u = true ∧ True) → FrameEnd s (.returned v) u (Jvm.fieldLocs frame_1_writes args s ++ Jvm.arrayLocs frame_1_arrays args s ++ Jvm.staticLocs frame_1_statics s) 24 128 → Post tb e args s (.returned v) u) :
    ArmFor flags0 classFile x code maxLocals ret World_1 tables_1 room_1 Calls_1 rest_1 Pre_1 Post := by
  intro l hfl _ _ p e ha hc hk s m args below hf hA hF happ hP
  obtain ⟨hcalls, hrest, hpre⟩ := hP
  obtain ⟨-, -, -, hnamed, -, -, -, hat⟩ := (Spec.applies_iff hf).mp happ
  obtain ⟨hg, hn⟩ := and_e (Cond.before_iff.mp (show (Jvm.Cond.and given_1 narrow_1).before args s = true from hpre))
  obtain ⟨gc, g0⟩ := and_e hg
  obtain ⟨q0, g1⟩ := and_e g0
  obtain ⟨q1, g2⟩ := and_e g1
  obtain ⟨q2, g3⟩ := and_e g2
  obtain ⟨q3, g4⟩ := and_e g3
  obtain ⟨w0, w1, w2, w3, w4, rfl⟩ : ∃ w0 w1 w2 w3 w4 : Value, args = #[w0, w1, w2, w3, w4] := by
    have hs : args.size = 5 := by simpa [Cond.value, given_1] using gc
    obtain ⟨L⟩ := args
    match L, hs with
    | [w0, w1, w2, w3, w4], _ => exact ⟨w0, w1, w2, w3, w4, rfl⟩
  have hw := fun d (hd : d ∈ tables_1) => atoms_spec (ws := Jvm.Cond.code x code maxLocals ret :: tables_1) hat d (List.mem_cons_of_mem _ hd)
  obtain ⟨i0, ei0⟩ := isL_v q0
  obtain rfl : w0 = (.long i0) := Option.some.inj ei0
  obtain ⟨i1, ei1⟩ := isL_v q1
  obtain rfl : w1 = (.long i1) := Option.some.inj ei1
  obtain ⟨i2, ei2⟩ := is_v q2
  obtain rfl : w2 = (.int i2) := Option.some.inj ei2
  obtain ⟨i3, ei3⟩ := is_v q3
  obtain rfl : w3 = (.int i3) := Option.some.inj ei3
  obtain ⟨i4, ei4⟩ := is_v g4
  obtain rfl : w4 = (.int i4) := Option.some.inj ei4
  obtain ⟨n, o, h1, h2, h3, _, L, rfl, ⟨N, rfl⟩, hq⟩ := c_law l s _ hw i0 i1 i2 i3 i4 s.heap s.heap.size (Nat.le_refl _) tables_1 p e ha hc hk s m _ below hf ((Spec.applies_iff_loose hf).mp happ).1 ⟨rfl, State.Warmed39.refl s, rfl⟩ trivial
  refine ⟨n, _, h1, h2, h3, hpost _ _ _ _ _ _ ⟨Cond.after_iff.mpr rfl, Cond.after_iff.mpr (eq_i res_at (Term.int_eval (1)) rfl), trivial⟩ ⟨hq.1, hq.2.1, (hq.2.2.sift fun y hy => Or.inr (N y hy)).mono (by decide) (by decide)⟩⟩
theorem main_1_1 : Claimed_1_1 := comes_1 fun _ _ _ _ _ _ h hF => ⟨h.1, hF⟩
theorem main_1_2 : Claimed_1_2 := comes_1 fun _ _ _ _ _ _ h hF => ⟨h.2.1, hF⟩
end Jvm.Pilot.@@N@@
namespace Jvm.Pilot.@@N@@
open Jvm Jvm.ClassFile Sem Op Lib Jvm.Free Jvm.Stand Jvm.Pilot.@@N@@.Jvm.D
/-! MADE BY PROGRAM (witnessworld.py) out of the Statement's table words and the real class files: 9 classes; the members and pool entries that the words name. The judged class is class 1, her method 1. -/
namespace start1
open Jvm.ClassFile
def u (s : String) : CpInfo := .utf8 (stringToUtf16 s)
/-- a pool by its gaps: so many unusable entries, then the entry; so many at the end -/
def gap : Nat → List CpInfo → List CpInfo
  | 0, r => r
  | n + 1, r => .unusable :: gap n r
def poolList (es : List (Nat × CpInfo)) (last : Nat) : List CpInfo := es.foldr (fun e r => gap e.1 (e.2 :: r)) (gap last [])
def pool (es : List (Nat × CpInfo)) (last : Nat) : Array CpInfo := ⟨poolList es last⟩
def fileOf (pool : Array CpInfo) (this : Nat) (attrs : Array Attribute := #[]) (ms : Array MethodInfo := #[]) (fl : Nat := 33) (sup : Nat := 0) (ifs : Array Nat := #[]) (fds : Array FieldInfo := #[]) : ClassFile where
  minorVersion := 0
  majorVersion := 65
  constantPool := pool
  accessFlags := fl
  thisClass := this
  superClass := sup
  interfaces := ifs
  fields := fds
  methods := ms
  attributes := attrs
def plain (name : String) (sup : Option ClassId) : Class where
  name := name
  kind := .ordinary
  loader := none
  accessFlags := 33
  super := sup
  interfaces := #[]
  cf := none
  fields := #[]
  methods := #[]
  instanceTypes := #[]
  staticTypes := #[]
  resolved := #[]
  callSites := []
  init := .initialized
  statics := none
  mirror := none

def pool0 : Array CpInfo := pool [(5, u "<init>"), (0, u "()V"), (1, .class_ 10), (1, u "java/lang/Object")] 113

def k0m0 : Method := { name := "<init>", desc := "()V", sig := { parameters := [], returnType := none }, accessFlags := 1, code := none }
/-- java/lang/Object -/
def k0 : Class := { plain "java/lang/Object" none with
  accessFlags := 33
  interfaces := #[]
  cf := some (fileOf pool0 8 #[] #[{ accessFlags := 1, nameIndex := 5, descriptorIndex := 6, attributes := #[] }] 33 0 #[] #[])
  fields := #[]
  methods := #[k0m0]
  instanceTypes := #[]
  staticTypes := #[]
  resolved := Array.replicate 124 none
  statics := none }

def pool1 : Array CpInfo := pool [(2, .class_ 4), (1, u "java/lang/Object"), (0, u "<init>"), (0, u "()V"), (0, .methodref 8 9), (0, .class_ 10), (0, .nameAndType 11 12), (0, u "com/example/tallysort/tallysort/KeyIndexedCounting"), (0, u "startBuckets"), (0, u "([I[II[I)V"), (0, .class_ 14), (0, u "com/example/tallysort/tallysort/KeyIndexedCountingStartBucketsPinLaw"), (2, u "law"), (0, u "(JJIII)Z")] 5

def k1m0 : Method := { name := "<init>", desc := "()V", sig := { parameters := [], returnType := none }, accessFlags := 1, code := none }
def k1c1 : Code := { maxStack := 5, maxLocals := 25, code := code, exceptionTable := #[], attributes := #[] }
def k1m1 : Method := { name := "law", desc := "(JJIII)Z", sig := { parameters := [.long, .long, .int, .int, .int], returnType := some .boolean }, accessFlags := 9, code := some k1c1 }
/-- com/example/tallysort/tallysort/KeyIndexedCountingStartBucketsPinLaw -/
def k1 : Class := { plain "com/example/tallysort/tallysort/KeyIndexedCountingStartBucketsPinLaw" (some 0) with
  accessFlags := 49
  interfaces := #[]
  cf := some (fileOf pool1 13 #[] #[{ accessFlags := 1, nameIndex := 5, descriptorIndex := 6, attributes := #[] }, { accessFlags := 9, nameIndex := 17, descriptorIndex := 18, attributes := #[] }] 49 2 #[] #[])
  fields := #[]
  methods := #[k1m0, k1m1]
  instanceTypes := #[]
  staticTypes := #[]
  resolved := Array.replicate 24 none
  statics := none }

def pool2 : Array CpInfo := pool [(2, .class_ 4), (1, u "java/lang/Object"), (0, u "<init>"), (0, u "()V"), (1, .class_ 10), (1, u "com/example/tallysort/tallysort/KeyIndexedCounting"), (6, u "startBuckets"), (1, u "([I[II[I)V")] 4

def k2m0 : Method := { name := "<init>", desc := "()V", sig := { parameters := [], returnType := none }, accessFlags := 2, code := none }
def k2c1 : Code := { maxStack := 3, maxLocals := 9, code := prog_12_method_5_code, exceptionTable := #[], attributes := #[] }
def k2m1 : Method := { name := "startBuckets", desc := "([I[II[I)V", sig := { parameters := [(.array .int), (.array .int), .int, (.array .int)], returnType := none }, accessFlags := 8, code := some k2c1 }
/-- com/example/tallysort/tallysort/KeyIndexedCounting -/
def k2 : Class := { plain "com/example/tallysort/tallysort/KeyIndexedCounting" (some 0) with
  accessFlags := 48
  interfaces := #[]
  cf := some (fileOf pool2 8 #[] #[{ accessFlags := 2, nameIndex := 5, descriptorIndex := 6, attributes := #[] }, { accessFlags := 8, nameIndex := 17, descriptorIndex := 19, attributes := #[] }] 48 2 #[] #[])
  fields := #[]
  methods := #[k2m0, k2m1]
  instanceTypes := #[]
  staticTypes := #[]
  resolved := Array.replicate 24 none
  statics := none }

def pool3 : Array CpInfo := pool [(1, u "java/lang/Cloneable"), (0, .class_ 1), (0, u "java/lang/Object"), (0, .class_ 3)] 3

/-- java/lang/Cloneable -/
def k3 : Class := { plain "java/lang/Cloneable" (some 0) with
  accessFlags := 1537
  interfaces := #[]
  cf := some (fileOf pool3 2 #[] #[] 1537 4 #[] #[])
  fields := #[]
  methods := #[]
  instanceTypes := #[]
  staticTypes := #[]
  resolved := Array.replicate 8 none
  statics := none }

def pool4 : Array CpInfo := pool [(1, u "java/io/Serializable"), (0, .class_ 1), (0, u "java/lang/Object"), (0, .class_ 3)] 3

/-- java/io/Serializable -/
def k4 : Class := { plain "java/io/Serializable" (some 0) with
  accessFlags := 1537
  interfaces := #[]
  cf := some (fileOf pool4 2 #[] #[] 1537 4 #[] #[])
  fields := #[]
  methods := #[]
  instanceTypes := #[]
  staticTypes := #[]
  resolved := Array.replicate 8 none
  statics := none }

/-- the primitive byte -/
def k5 : Class := { plain "byte" none with kind := .primitive 'B', accessFlags := 0x411 }
/-- [B -/
def k6 : Class := { plain "[B" (some 0) with kind := .array 5 .byte, interfaces := #[3, 4], accessFlags := 1041 }

/-- the primitive int -/
def k7 : Class := { plain "int" none with kind := .primitive 'I', accessFlags := 0x411 }
/-- [I -/
def k8 : Class := { plain "[I" (some 0) with kind := .array 7 .int, interfaces := #[3, 4], accessFlags := 1041 }

def heap : Heap := #[]
def classes : Array Class := #[k0, k1, k2, k3, k4, k5, k6, k7, k8]
def interned : List (Array UInt16 × Addr) := []
def slotsUsed : Nat := 0
def theMethod : MethodId := ⟨1, 1⟩
def args0 : Array Value := #[.long 5, .long 6, .int 7, .int 8, .int 9]
def aboutOver (below : List Frame) : State where
  vm := { classes := classes, interned := interned.toArray }
  heap := heap
  slotsUsed := slotsUsed
  threads := #[{ frames := .invoking theMethod args0 :: below }]
def below0 : List Frame := [.native { method := ⟨0, 0⟩, args := #[] }]
def about1 : State := aboutOver below0
def p0 : Program := .bare "" "" ""
def e0 : Env := launch0.env 0 0 0
theorem w_frames : about1.frames = Frame.invoking theMethod args0 :: below0 := rfl
set_option maxRecDepth 65536 in
theorem w_args : argsFit about1.vm theMethod args0 = true := by decide +kernel
set_option maxRecDepth 65536 in
theorem w_heap : heapFits about1 = true := by decide +kernel
set_option maxRecDepth 65536 in
theorem w_runnable : about1.curStatus? = some .runnable := by decide +kernel
set_option maxRecDepth 65536 in
theorem w_alone : about1.alone = true := by decide +kernel
set_option maxRecDepth 65536 in
theorem w_named : about1.methodNamed? x = some theMethod := by decide +kernel
set_option maxRecDepth 65536 in
theorem w_hears : about1.hears theMethod below0 = true := by decide +kernel
set_option maxRecDepth 65536 in
theorem w_ripe : about1.ripe theMethod args0 below0 = true := by decide +kernel
theorem w_running : about1.status = .running := rfl
set_option maxRecDepth 65536 in
theorem w_room : about1.hasRoom e0.platform room_1 = true :=
  launch0.hasRoom_least _ room_1 (by decide +kernel) (by decide +kernel) (by decide +kernel) (by decide +kernel) (by decide +kernel) (by decide +kernel)
theorem allAtoms_all (ts : List Jvm.Cond) (a : Array Jvm.Value) (st : Jvm.State) : (allAtoms ts).before a st = ts.all (fun c => c.before a st) := by
  induction ts with
  | nil => rfl
  | cons c t ih =>
    show (Jvm.Cond.and c (allAtoms t)).before a st = _
    rw [Jvm.Cond.before_and, ih, List.all_cons]
def words1 : List Jvm.Cond := Jvm.Cond.code x code maxLocals ret :: tables_1
/-- a 'code' word, met by the world's own term for the bytes: nothing is compared byte by byte -/
theorem code_word {y : MethodName} {bytes : ByteArray} {mx : Nat} {rt : Option FieldType} {a : Array Value} {s : State} {m : MethodId} {meth : Method} {c : Code} (h1 : s.methodNamed? y = some m) (h2 : s.vm.method? m = some meth) (h3 : meth.code = some c) (h4 : c.code = bytes)
    (h5 : (c.maxLocals == mx && c.exceptionTable.isEmpty && decide (c.maxStack ≤ mostOperands) && decide (meth.sig.returnType = rt) && !meth.locks && decide (parseMethodDescriptor y.desc = some meth.sig)) = true) : (Jvm.Cond.code y bytes mx rt).before a s = true := by
  simp only [Bool.and_eq_true, beq_iff_eq, Bool.not_eq_true', decide_eq_true_eq] at h5
  obtain ⟨⟨⟨⟨⟨g1, g2⟩, g3⟩, g4⟩, g5⟩, g6⟩ := h5
  simp [Cond.before, Cond.holds, Cond.value, h1, h2, h3, h4, g1, g2, g3, g4, g5, g6]
def isCode : Jvm.Cond → Bool
  | .code _ _ _ _ => true
  | _ => false
theorem all_split {L : List Jvm.Cond} {P : Jvm.Cond → Bool} (h1 : L.all (fun c => isCode c || P c) = true) (h2 : ∀ c ∈ L.filter isCode, P c = true) : L.all P = true := by
  refine List.all_eq_true.mpr fun c hc => ?_
  have h := List.all_eq_true.mp h1 c hc
  rcases Bool.eq_false_or_eq_true (isCode c) with hi | hi
  · exact h2 c (List.mem_filter.mpr ⟨hc, hi⟩)
  · simpa [hi] using h
set_option maxRecDepth 65536 in
theorem w_c0 : (Jvm.Cond.code x code maxLocals ret).before args0 about1 = true := code_word (m := ⟨1, 1⟩) (meth := k1m1) (c := k1c1) (by decide +kernel) rfl rfl rfl (by decide +kernel)
set_option maxRecDepth 65536 in
theorem w_c1 : (Jvm.Cond.code ({ cls := "com/example/tallysort/tallysort/KeyIndexedCounting", name := "startBuckets", desc := "([I[II[I)V" } : Jvm.MethodName) prog_12_method_5_code (9 : Nat) (Option.none : Option Jvm.ClassFile.FieldType)).before args0 about1 = true := code_word (m := ⟨2, 1⟩) (meth := k2m1) (c := k2c1) (by decide +kernel) rfl rfl rfl (by decide +kernel)
def codes1 : List Jvm.Cond := [Jvm.Cond.code x code maxLocals ret, Jvm.Cond.code ({ cls := "com/example/tallysort/tallysort/KeyIndexedCounting", name := "startBuckets", desc := "([I[II[I)V" } : Jvm.MethodName) prog_12_method_5_code (9 : Nat) (Option.none : Option Jvm.ClassFile.FieldType)]
set_option maxRecDepth 65536 in
theorem codes_eq : words1.filter isCode = codes1 := rfl
theorem w_codes : ∀ c ∈ words1.filter isCode, c.before args0 about1 = true := by
  rw [codes_eq]
  intro c hc
  simp only [codes1, List.mem_cons, List.not_mem_nil, or_false] at hc
  rcases hc with rfl | rfl
  · exact w_c0
  · exact w_c1
set_option maxRecDepth 65536 in
theorem w_t1 : words1.all (fun c => isCode c || c.before args0 about1) = true := by decide +kernel
theorem w_tables : (allAtoms (Jvm.Cond.code x code maxLocals ret :: tables_1)).before args0 about1 = true := by
  rw [allAtoms_all]
  show words1.all (fun c => c.before args0 about1) = true
  refine all_split ?_ w_codes
  rw [w_t1]
set_option maxRecDepth 65536 in
theorem w_case : (Jvm.Cond.and given_1 narrow_1).before args0 about1 = true := by decide +kernel
theorem w_applies : (headSpec (Jvm.Cond.code x code maxLocals ret :: tables_1) room_1).applies x e0.platform about1 = true :=
  (Spec.applies_iff w_frames).mpr ⟨w_running, w_runnable, w_alone, w_named, w_hears, w_ripe, w_room, w_tables⟩
theorem atStart : AtStart classFile x code maxLocals ret World_1 tables_1 room_1 Calls_1 rest_1 Pre_1 launch0 p0 e0 about1 theMethod args0 below0 :=
  ⟨lists_1, trivial, launch0.admits_env _ _ _, launch0.least_env, fairChoices_fair.cas, fairChoices_fair.clock, w_frames, w_args, w_heap, w_applies, trivial, trivial, w_case⟩
end start1
theorem witness_1 : WitnessClaimed_1 := ⟨start1.p0, start1.e0, start1.about1, start1.theMethod, start1.args0, start1.below0, start1.atStart⟩
end Jvm.Pilot.@@N@@
