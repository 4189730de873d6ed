import JvmDerived
import JvmDerived.Pilot.@@N@@Statement
import JvmDerived.Pilot.@@N@@Code
set_option linter.unusedVariables false
set_option linter.unusedSimpArgs false
@@BLOCK:NumsL.lean.txt@@
namespace Jvm.Pilot.@@N@@
open Jvm Jvm.ClassFile Sem Op Lib Jvm.Free Jvm.Stand Jvm.LawKit Jvm.RoadKit Bundle Jvm.Pilot.@@N@@.Jvm.D
/-! ### own layer 1: plain steps by evaluation over a list of decoded instructions -/
def own_iushr (x y : Int32) : Int32 := (x.toUInt32 >>> (y &&& 31).toUInt32).toInt32
def own_ishl (x y : Int32) : Int32 := x <<< (y &&& 31)
def own_ishr (x y : Int32) : Int32 := x >>> (y &&& 31)
def own_irem (x y : Int32) : Int32 := x - (x / y) * y
def own_lrem (x y : Int64) : Int64 := x - (x / y) * y
def own_lushr (x : Int64) (y : Int32) : Int64 := (x.toUInt64 >>> (y &&& 0x3f).toInt64.toUInt64).toInt64
def own_lshl (x : Int64) (y : Int32) : Int64 := x <<< (y &&& 0x3f).toInt64
def own_lshr (x : Int64) (y : Int32) : Int64 := x >>> (y &&& 0x3f).toInt64
def own_i2b (x : Int32) : Int32 := x.toInt8.toInt32

abbrev own_R : Type := Option (Array Slot × List Value)
def own_i2 (f : Int32 → Int32 → Int32) (ls : Array Slot) : List Value → own_R
  | .int y :: .int x :: r => some (ls, .int (f x y) :: r)
  | _ => none
def own_i1 (f : Int32 → Value) (ls : Array Slot) : List Value → own_R
  | .int x :: r => some (ls, f x :: r)
  | _ => none
def own_l2 (f : Int64 → Int64 → Int64) (ls : Array Slot) : List Value → own_R
  | .long y :: .long x :: r => some (ls, .long (f x y) :: r)
  | _ => none
def own_lS (f : Int64 → Int32 → Int64) (ls : Array Slot) : List Value → own_R
  | .int y :: .long x :: r => some (ls, .long (f x y) :: r)
  | _ => none
def own_l1 (f : Int64 → Value) (ls : Array Slot) : List Value → own_R
  | .long x :: r => some (ls, f x :: r)
  | _ => none
def own_li (ls : Array Slot) (k : Nat) (st : List Value) : own_R :=
  match ls[k]? with
  | some (.val (.int v)) => some (ls, .int v :: st)
  | _ => none
def own_ll (ls : Array Slot) (k : Nat) (st : List Value) : own_R :=
  match ls[k]? with
  | some (.val (.long v)) => some (ls, .long v :: st)
  | _ => none
def own_la (ls : Array Slot) (k : Nat) (st : List Value) : own_R :=
  match ls[k]? with
  | some (.val (.ref v)) => some (ls, .ref v :: st)
  | some (.val .null) => some (ls, .null :: st)
  | _ => none
def own_sv (ls : Array Slot) (k : Nat) (v : Value) (r : List Value) : own_R :=
  match storeLocals ls k v with
  | some l' => some (l', r)
  | none => none
def own_si (ls : Array Slot) (k : Nat) : List Value → own_R
  | .int x :: r => own_sv ls k (.int x) r
  | _ => none
def own_sl (ls : Array Slot) (k : Nat) : List Value → own_R
  | .long x :: r => own_sv ls k (.long x) r
  | _ => none
def own_sa (ls : Array Slot) (k : Nat) : List Value → own_R
  | .ref x :: r => own_sv ls k (.ref x) r
  | .null :: r => own_sv ls k .null r
  | _ => none
def own_inc (ls : Array Slot) (k : Nat) (d : Int) (st : List Value) : own_R :=
  match ls[k]? with
  | some (.val (.int v)) => own_sv ls k (.int (v + Int32.ofInt d)) st
  | _ => none
def own_dup (ls : Array Slot) : List Value → own_R
  | .int x :: r => some (ls, .int x :: .int x :: r)
  | .ref x :: r => some (ls, .ref x :: .ref x :: r)
  | _ => none
def own_dupX (ls : Array Slot) : List Value → own_R
  | .int x :: .ref y :: r => some (ls, .int x :: .ref y :: .int x :: r)
  | _ => none
def own_pop (ls : Array Slot) : List Value → own_R
  | .int _ :: r => some (ls, r)
  | .ref _ :: r => some (ls, r)
  | _ => none

def own_p (i : Instr) (n : Nat) (ls : Array Slot) (st : List Value) : own_R :=
  match i, n with
  | .iconst k, 1 => some (ls, .int (Int32.ofInt k) :: st)
  | .bipush k, 2 => some (ls, .int (Int8.ofInt k).toInt32 :: st)
  | .sipush k, 3 => some (ls, .int (Int16.ofInt k).toInt32 :: st)
  | .lconst k, 1 => some (ls, .long (Int64.ofNat k) :: st)
  | .aconst_null, 1 => some (ls, .null :: st)
  | .iload_n k, 1 => own_li ls k.val st
  | .iload k, 2 => own_li ls k st
  | .lload_n k, 1 => own_ll ls k.val st
  | .lload k, 2 => own_ll ls k st
  | .aload_n k, 1 => own_la ls k.val st
  | .aload k, 2 => own_la ls k st
  | .istore_n k, 1 => own_si ls k.val st
  | .istore k, 2 => own_si ls k st
  | .lstore_n k, 1 => own_sl ls k.val st
  | .lstore k, 2 => own_sl ls k st
  | .astore_n k, 1 => own_sa ls k.val st
  | .astore k, 2 => own_sa ls k st
  | .iinc k d, 3 => own_inc ls k d st
  | .iadd, 1 => own_i2 (· + ·) ls st
  | .isub, 1 => own_i2 (· - ·) ls st
  | .imul, 1 => own_i2 (· * ·) ls st
  | .iand, 1 => own_i2 (· &&& ·) ls st
  | .ior, 1 => own_i2 (· ||| ·) ls st
  | .ixor, 1 => own_i2 (· ^^^ ·) ls st
  | .ishl, 1 => own_i2 own_ishl ls st
  | .ishr, 1 => own_i2 own_ishr ls st
  | .iushr, 1 => own_i2 own_iushr ls st
  | .ladd, 1 => own_l2 (· + ·) ls st
  | .lsub, 1 => own_l2 (· - ·) ls st
  | .lmul, 1 => own_l2 (· * ·) ls st
  | .land, 1 => own_l2 (· &&& ·) ls st
  | .lor, 1 => own_l2 (· ||| ·) ls st
  | .lxor, 1 => own_l2 (· ^^^ ·) ls st
  | .lshl, 1 => own_lS own_lshl ls st
  | .lshr, 1 => own_lS own_lshr ls st
  | .lushr, 1 => own_lS own_lushr ls st
  | .i2b, 1 => own_i1 (fun x => .int (own_i2b x)) ls st
  | .i2l, 1 => own_i1 (fun x => .long x.toInt64) ls st
  | .l2i, 1 => own_l1 (fun x => .int x.toInt32) ls st
  | .dup, 1 => own_dup ls st
  | .dup_x1, 1 => own_dupX ls st
  | .pop, 1 => own_pop ls st
  | _, _ => none

section Inv
variable {ls ls' : Array Slot} {st st' : List Value}
theorem own_i2_inv {f : Int32 → Int32 → Int32} (h : own_i2 f ls st = some (ls', st')) : ∃ x y r, st = .int y :: .int x :: r ∧ ls' = ls ∧ st' = .int (f x y) :: r := by
  unfold own_i2 at h; split at h
  · cases h; exact ⟨_, _, _, rfl, rfl, rfl⟩
  · cases h
theorem own_i1_inv {f : Int32 → Value} (h : own_i1 f ls st = some (ls', st')) : ∃ x r, st = .int x :: r ∧ ls' = ls ∧ st' = f x :: r := by
  unfold own_i1 at h; split at h
  · cases h; exact ⟨_, _, rfl, rfl, rfl⟩
  · cases h
theorem own_l2_inv {f : Int64 → Int64 → Int64} (h : own_l2 f ls st = some (ls', st')) : ∃ x y r, st = .long y :: .long x :: r ∧ ls' = ls ∧ st' = .long (f x y) :: r := by
  unfold own_l2 at h; split at h
  · cases h; exact ⟨_, _, _, rfl, rfl, rfl⟩
  · cases h
theorem own_lS_inv {f : Int64 → Int32 → Int64} (h : own_lS f ls st = some (ls', st')) : ∃ x y r, st = .int y :: .long x :: r ∧ ls' = ls ∧ st' = .long (f x y) :: r := by
  unfold own_lS at h; split at h
  · cases h; exact ⟨_, _, _, rfl, rfl, rfl⟩
  · cases h
theorem own_l1_inv {f : Int64 → Value} (h : own_l1 f ls st = some (ls', st')) : ∃ x r, st = .long x :: r ∧ ls' = ls ∧ st' = f x :: r := by
  unfold own_l1 at h; split at h
  · cases h; exact ⟨_, _, rfl, rfl, rfl⟩
  · cases h
theorem own_li_inv {k : Nat} (h : own_li ls k st = some (ls', st')) : ∃ v, ls[k]? = some (.val (.int v)) ∧ ls' = ls ∧ st' = .int v :: st := by
  unfold own_li at h; split at h
  · rename_i q; cases h; exact ⟨_, q, rfl, rfl⟩
  · cases h
theorem own_ll_inv {k : Nat} (h : own_ll ls k st = some (ls', st')) : ∃ v, ls[k]? = some (.val (.long v)) ∧ ls' = ls ∧ st' = .long v :: st := by
  unfold own_ll at h; split at h
  · rename_i q; cases h; exact ⟨_, q, rfl, rfl⟩
  · cases h
theorem own_la_inv {k : Nat} (h : own_la ls k st = some (ls', st')) : ∃ v : Value, v.isRef = true ∧ ls[k]? = some (.val v) ∧ ls' = ls ∧ st' = v :: st := by
  unfold own_la at h; split at h
  · rename_i q; cases h; exact ⟨_, rfl, q, rfl, rfl⟩
  · rename_i q; cases h; exact ⟨_, rfl, q, rfl, rfl⟩
  · cases h
theorem own_sv_inv {k : Nat} {v : Value} {r : List Value} (h : own_sv ls k v r = some (ls', st')) : storeLocals ls k v = some ls' ∧ st' = r := by
  unfold own_sv at h; split at h
  · rename_i q; cases h; exact ⟨q, rfl⟩
  · cases h
theorem own_si_inv {k : Nat} (h : own_si ls k st = some (ls', st')) : ∃ x, st = .int x :: st' ∧ storeLocals ls k (.int x) = some ls' := by
  unfold own_si at h; split at h
  · obtain ⟨h1, h2⟩ := own_sv_inv h; subst h2; exact ⟨_, rfl, h1⟩
  · cases h
theorem own_sl_inv {k : Nat} (h : own_sl ls k st = some (ls', st')) : ∃ x, st = .long x :: st' ∧ storeLocals ls k (.long x) = some ls' := by
  unfold own_sl at h; split at h
  · obtain ⟨h1, h2⟩ := own_sv_inv h; subst h2; exact ⟨_, rfl, h1⟩
  · cases h
theorem own_sa_inv {k : Nat} (h : own_sa ls k st = some (ls', st')) : ∃ x : Value, x.isRef = true ∧ st = x :: st' ∧ storeLocals ls k x = some ls' := by
  unfold own_sa at h; split at h
  · obtain ⟨h1, h2⟩ := own_sv_inv h; subst h2; exact ⟨_, rfl, rfl, h1⟩
  · obtain ⟨h1, h2⟩ := own_sv_inv h; subst h2; exact ⟨_, rfl, rfl, h1⟩
  · cases h
theorem own_inc_inv {k : Nat} {d : Int} (h : own_inc ls k d st = some (ls', st')) : ∃ x, ls[k]? = some (.val (.int x)) ∧ storeLocals ls k (.int (x + Int32.ofInt d)) = some ls' ∧ st' = st := by
  unfold own_inc at h; split at h
  · rename_i q; obtain ⟨h1, h2⟩ := own_sv_inv h; exact ⟨_, q, h1, h2⟩
  · cases h
theorem own_dup_inv (h : own_dup ls st = some (ls', st')) : ∃ (x : Value) (r : List Value), st = x :: r ∧ x.category = 1 ∧ ls' = ls ∧ st' = x :: x :: r := by
  unfold own_dup at h; split at h
  · cases h; exact ⟨_, _, rfl, rfl, rfl, rfl⟩
  · cases h; exact ⟨_, _, rfl, rfl, rfl, rfl⟩
  · cases h
theorem own_dupX_inv (h : own_dupX ls st = some (ls', st')) : ∃ (x y : Value) (r : List Value), st = x :: y :: r ∧ x.category = 1 ∧ y.category = 1 ∧ ls' = ls ∧ st' = x :: y :: x :: r := by
  unfold own_dupX at h; split at h
  · cases h; exact ⟨_, _, _, rfl, rfl, rfl, rfl, rfl⟩
  · cases h
theorem own_pop_inv (h : own_pop ls st = some (ls', st')) : ∃ (x : Value), st = x :: st' ∧ x.category = 1 ∧ ls' = ls := by
  unfold own_pop at h; split at h
  · cases h; exact ⟨_, rfl, rfl, rfl⟩
  · cases h; exact ⟨_, rfl, rfl, rfl⟩
  · cases h
end Inv

set_option maxHeartbeats 4000000 in
theorem own_p_ok {tb : Tables} [Ours tb] {e : Env} {below : List Frame} {T t : State} {m : MethodId} {c : Code} (h : At T m c below) (hx : tb.exec = Jvm.exec) {i : Instr} {n pc : Nat} {ls ls' : Array Slot} {st st' : List Value}
    (hd : decode c.code pc = .ok (i, n)) (hp : own_p i n ls st = some (ls', st')) (hr : Steps tb e below (T.setTop (mkF m (pc + n) ls' st')) t) : Steps tb e below (T.setTop (mkF m pc ls st)) t := by
  unfold own_p at hp
  split at hp
  · cases hp; exact XS.iconst h hx rfl hd hr
  · cases hp; exact XS.bipush h hx rfl hd hr
  · cases hp; exact XS.sipush h hx rfl hd hr
  · cases hp; exact XS.lconst h hx rfl hd hr
  · cases hp; exact XS.aconstNull h hx rfl hd hr
  · obtain ⟨v, q, rfl, rfl⟩ := own_li_inv hp; exact XS.iloadN h hx rfl hd q hr
  · obtain ⟨v, q, rfl, rfl⟩ := own_li_inv hp; exact XS.iload h hx rfl hd q hr
  · obtain ⟨v, q, rfl, rfl⟩ := own_ll_inv hp; exact XS.lloadN h hx rfl hd q hr
  · obtain ⟨v, q, rfl, rfl⟩ := own_ll_inv hp; exact XS.lload h hx rfl hd q hr
  · obtain ⟨v, q0, q, rfl, rfl⟩ := own_la_inv hp; exact XS.aloadN h hx rfl hd q q0 hr
  · obtain ⟨v, q0, q, rfl, rfl⟩ := own_la_inv hp; exact XS.aload h hx rfl hd q q0 hr
  · obtain ⟨x, rfl, q⟩ := own_si_inv hp; exact XS.istoreN h hx rfl hd rfl q hr
  · obtain ⟨x, rfl, q⟩ := own_si_inv hp; exact XS.istore h hx rfl hd rfl q hr
  · obtain ⟨x, rfl, q⟩ := own_sl_inv hp; exact XS.lstoreN h hx rfl hd rfl q hr
  · obtain ⟨x, rfl, q⟩ := own_sl_inv hp; exact XS.lstore h hx rfl hd rfl q hr
  · obtain ⟨x, q0, rfl, q⟩ := own_sa_inv hp; exact XS.astoreN h hx rfl hd rfl q0 q hr
  · obtain ⟨x, q0, rfl, q⟩ := own_sa_inv hp; exact XS.astore h hx rfl hd rfl q0 q hr
  · obtain ⟨x, q1, q2, rfl⟩ := own_inc_inv hp; exact XS.iinc h hx rfl hd q1 q2 hr
  · obtain ⟨x, y, r, rfl, rfl, rfl⟩ := own_i2_inv hp; exact XS.iadd h hx rfl hd rfl hr
  · obtain ⟨x, y, r, rfl, rfl, rfl⟩ := own_i2_inv hp; exact XS.isub h hx rfl hd rfl hr
  · obtain ⟨x, y, r, rfl, rfl, rfl⟩ := own_i2_inv hp; exact XS.imul h hx rfl hd rfl hr
  · obtain ⟨x, y, r, rfl, rfl, rfl⟩ := own_i2_inv hp; exact XS.iand h hx rfl hd rfl hr
  · obtain ⟨x, y, r, rfl, rfl, rfl⟩ := own_i2_inv hp; exact XS.ior h hx rfl hd rfl hr
  · obtain ⟨x, y, r, rfl, rfl, rfl⟩ := own_i2_inv hp; exact XS.ixor h hx rfl hd rfl hr
  · obtain ⟨x, y, r, rfl, rfl, rfl⟩ := own_i2_inv hp; exact XS.ishl h hx rfl hd rfl hr
  · obtain ⟨x, y, r, rfl, rfl, rfl⟩ := own_i2_inv hp; exact XS.ishr h hx rfl hd rfl hr
  · obtain ⟨x, y, r, rfl, rfl, rfl⟩ := own_i2_inv hp; exact XS.iushr h hx rfl hd rfl hr
  · obtain ⟨x, y, r, rfl, rfl, rfl⟩ := own_l2_inv hp; exact XS.ladd h hx rfl hd rfl hr
  · obtain ⟨x, y, r, rfl, rfl, rfl⟩ := own_l2_inv hp; exact XS.lsub h hx rfl hd rfl hr
  · obtain ⟨x, y, r, rfl, rfl, rfl⟩ := own_l2_inv hp; exact XS.lmul h hx rfl hd rfl hr
  · obtain ⟨x, y, r, rfl, rfl, rfl⟩ := own_l2_inv hp; exact XS.land h hx rfl hd rfl hr
  · obtain ⟨x, y, r, rfl, rfl, rfl⟩ := own_l2_inv hp; exact XS.lor h hx rfl hd rfl hr
  · obtain ⟨x, y, r, rfl, rfl, rfl⟩ := own_l2_inv hp; exact XS.lxor h hx rfl hd rfl hr
  · obtain ⟨x, y, r, rfl, rfl, rfl⟩ := own_lS_inv hp; exact XS.lshl h hx rfl hd rfl hr
  · obtain ⟨x, y, r, rfl, rfl, rfl⟩ := own_lS_inv hp; exact XS.lshr h hx rfl hd rfl hr
  · obtain ⟨x, y, r, rfl, rfl, rfl⟩ := own_lS_inv hp; exact XS.lushr h hx rfl hd rfl hr
  · obtain ⟨x, r, rfl, rfl, rfl⟩ := own_i1_inv hp; exact XS.i2b h hx rfl hd rfl hr
  · obtain ⟨x, r, rfl, rfl, rfl⟩ := own_i1_inv hp; exact XS.i2l h hx rfl hd rfl hr
  · obtain ⟨x, r, rfl, rfl, rfl⟩ := own_l1_inv hp; exact XS.l2i h hx rfl hd rfl hr
  · obtain ⟨x, r, rfl, q, rfl, rfl⟩ := own_dup_inv hp; exact XS.dup h hx rfl hd rfl q hr
  · obtain ⟨x, y, r, rfl, q1, q2, rfl, rfl⟩ := own_dupX_inv hp; exact XS.dupX1 h hx rfl hd rfl q1 q2 hr
  · obtain ⟨x, rfl, q, rfl⟩ := own_pop_inv hp; exact XS.pop h hx rfl hd rfl q hr
  · cases hp

/-- the list lies in the code from pc on, up to pc' -/
def own_d (code : ByteArray) : Nat → List (Instr × Nat) → Nat → Bool
  | pc, [], pc' => pc == pc'
  | pc, (i, n) :: L, pc' => decide (decode code pc = .ok (i, n)) && own_d code (pc + n) L pc'
def own_x : List (Instr × Nat) → Array Slot → List Value → own_R
  | [], ls, st => some (ls, st)
  | (i, n) :: L, ls, st => match own_p i n ls st with
    | some (ls', st') => own_x L ls' st'
    | none => none
theorem own_x_ok {tb : Tables} [Ours tb] {e : Env} {below : List Frame} {T t : State} {m : MethodId} {c : Code} (h : At T m c below) (hx : tb.exec = Jvm.exec) : ∀ (L : List (Instr × Nat)) {pc pc' : Nat} {ls ls' : Array Slot} {st st' : List Value},
    own_d c.code pc L pc' = true → own_x L ls st = some (ls', st') → Steps tb e below (T.setTop (mkF m pc' ls' st')) t → Steps tb e below (T.setTop (mkF m pc ls st)) t
  | [], pc, pc', ls, ls', st, st', hd, hr, k => by
    have e1 : pc = pc' := by simpa [own_d] using hd
    subst e1
    cases hr
    exact k
  | (i, n) :: L, pc, pc', ls, ls', st, st', hd, hr, k => by
    simp only [own_d, Bool.and_eq_true, decide_eq_true_eq] at hd
    simp only [own_x] at hr
    cases hq : own_p i n ls st with
    | none => rw [hq] at hr; cases hr
    | some q =>
      obtain ⟨l1, s1⟩ := q
      rw [hq] at hr
      exact own_p_ok h hx hd.1 hq (own_x_ok h hx L hd.2 hr k)

/-! ### own layer 2: where a walk stands, and that it comes to its end -/
def own_G (p : Program) (e : Env) (below : List Frame) (A : State) (Q : Outcome → State → Prop) : Prop :=
  ∃ s₂ o, Steps p.tables e below A s₂ ∧ s₂.status = .running ∧ Ended s₂ below o ∧ Q o s₂
theorem own_st {p : Program} {e : Env} {below : List Frame} {A A' : State} {Q : Outcome → State → Prop} (st : ∀ t, Steps p.tables e below A' t → Steps p.tables e below A t) (g : own_G p e below A' Q) : own_G p e below A Q := by
  obtain ⟨s2, o, h1, h2⟩ := g
  exact ⟨s2, o, st _ h1, h2⟩
def own_E (s : State) (n0 : Nat) (P : Option Value → Heap → Prop) (C S : Nat) (o : Outcome) (U : State) : Prop := ∃ v L, o = .returned v ∧ (Fr n0 L ∧ P v U.heap) ∧ FrameEnd s o U L C S
def own_X (p : Program) (l : Launch) (e : Env) (R : Room) (s : State) (m : MethodId) (args : Array Value) (below : List Frame) (meth : Method) (c : Code) (Z : State) (bytes : ByteArray) (maxL : Nat) (ret : Option FieldType) (y : MethodName) (n0 : Nat) (h : Heap) (T : State) (k n : Nat) : Prop :=
  (p.tables.exec = Jvm.exec ∧ c.code = bytes ∧ c.maxLocals = maxL ∧ s.vm.findClass y.cls = some m.cls ∧ meth.name = y.name ∧ meth.sig.returnType = ret ∧ Z.Warmed39 s.vm ∧ meth.locks = false) ∧
    n0 ≤ h.size ∧ T.heap = h ∧ ∃ locs, Stand p l e R s m args below meth c T locs k n ∧ Fr n0 locs
/-- a body's contract: from these arguments and this heap it returns, and P says what, and what heap it leaves -/
def own_C (l : Launch) (Z : State) (y : MethodName) (bytes : ByteArray) (maxL : Nat) (ret : Option FieldType) (rm : Room) (as : Array Value) (h0 : Heap) (n0 : Nat) (P : Option Value → Heap → Prop) : Prop :=
  ∀ ws : List Jvm.Cond, MetFree l y (head1 (Jvm.Cond.code y bytes maxL ret :: ws) rm) (fun a U => a = as ∧ Z.Warmed39 U.vm ∧ U.heap = h0) (fun _ _ _ _ _ => True)
    (fun _ U o U' => ∃ v L, o = .returned v ∧ (Fr n0 L ∧ P v U'.heap) ∧ FrameEnd U o U' L rm.cells rm.slots)
theorem own_body {l : Launch} {Z : State} {y : MethodName} {bytes : ByteArray} {maxL : Nat} {ret : Option FieldType} {rm : Room} {as : Array Value} {h0 : Heap} {n0 : Nat} {P : Option Value → Heap → Prop} (hpl : plainFor y = true) (h0n : n0 ≤ h0.size) {ls : Array Slot} (hef : ∀ m, entryFrame m as maxL = mkF m 0 ls [])
    (k : ∀ p e s m below meth c T, own_X p l e rm s m as below meth c Z bytes maxL ret y n0 h0 T 0 0 → own_G p e below (T.setTop (mkF m 0 ls [])) (own_E s n0 P rm.cells rm.slots)) : own_C l Z y bytes maxL ret rm as h0 n0 P := by
  intro ws
  refine MetFree.of_bodySF hpl hisR ?_
  intro p e s m args below meth c s₁ Bd hml0 hP hK
  obtain ⟨rfl, hZ, hh⟩ := hP
  have e0 : s₁.heap = h0 := by rw [← hh, Bd.state]; rfl
  have X0 : Stand p l e rm s m args below meth c s₁ [] 0 0 := Stand.of_body Bd
  have g := k p e s m below meth c s₁ ⟨⟨Bd.exec, Bd.bytes, hml0, findClass_of_methodNamed Bd.named, (name_of_methodNamed Bd.named Bd.method).1, Bd.returns, hZ, Bd.notSynchronized⟩, h0n, e0, [], X0, Fr.nil n0⟩
  rw [← hef m] at g
  exact g

section Walk
variable {p : Program} {l : Launch} {e : Env} {R : Room} {s : State} {m : MethodId} {args : Array Value} {below : List Frame} {meth : Method} {c : Code} {Z : State} {bytes : ByteArray} {maxL : Nat} {ret : Option FieldType} {y : MethodName} {n0 : Nat} {h : Heap} {T : State} {k n : Nat} {Q : Outcome → State → Prop} {pc pc' : Nat} {ls ls' : Array Slot} {st st' : List Value} {a0 : Array Value}
theorem own_blk (X : own_X p l e R s m args below meth c Z bytes maxL ret y n0 h T k n) (L : List (Instr × Nat)) (hd : own_d bytes pc L pc' = true) (hr : own_x L ls st = some (ls', st')) (g : own_G p e below (T.setTop (mkF m pc' ls' st')) Q) : own_G p e below (T.setTop (mkF m pc ls st)) Q := by
  obtain ⟨⟨hx, hby, -⟩, -, -, locs, X, -⟩ := X
  subst hby
  exact own_st (fun t q => own_x_ok X.here hx L hd hr q) g
/-! branches -/
def own_tg (pc : Nat) (o : Int) (pc' : Nat) : Bool := decide (0 ≤ (pc : Int) + o) && decide (((pc : Int) + o).toNat = pc')
def own_cI : ClassFile.Cond → Int → Int → Prop
  | .eq, x, y => x = y
  | .ne, x, y => ¬ x = y
  | .lt, x, y => x < y
  | .ge, x, y => y ≤ x
  | .gt, x, y => y < x
  | .le, x, y => x ≤ y
theorem own_icmp_iff (cd : ClassFile.Cond) (x y : Int32) : if_icmp.holds cd x y = true ↔ own_cI cd x.toInt y.toInt := by
  cases cd <;> simp [if_icmp.holds, own_cI, Int32.lt_iff_toInt_lt, Int32.le_iff_toInt_le, Int32.toInt_inj]
theorem own_if_iff (cd : ClassFile.Cond) (x : Int32) : ifCond.holds cd x = true ↔ own_cI cd x.toInt 0 := by
  rw [if0]; exact own_icmp_iff cd x 0
theorem own_l_iff (cd : ClassFile.Cond) (x y : Int64) : ifCond.holds cd (if x > y then 1 else if x = y then 0 else -1) = true ↔ own_cI cd x.toInt y.toInt := by
  rw [own_if_iff]
  have e1 : (x > y) = (y.toInt < x.toInt) := by rw [gt_iff_lt, Int64.lt_iff_toInt_lt]
  have e2 : (x = y) = (x.toInt = y.toInt) := by rw [Int64.toInt_inj]
  simp only [e1, e2]
  by_cases q1 : y.toInt < x.toInt
  · simp only [q1, if_true]
    have e3 : (1 : Int32).toInt = 1 := rfl
    cases cd <;> simp only [own_cI, e3] <;> omega
  · by_cases q2 : x.toInt = y.toInt
    · simp only [q1, q2, if_true, if_false]
      have e3 : (0 : Int32).toInt = 0 := rfl
      cases cd <;> simp [own_cI]
    · simp only [q1, q2, if_false]
      have e3 : (-1 : Int32).toInt = -1 := rfl
      cases cd <;> simp only [own_cI, e3] <;> omega
theorem own_tg_s {o : Int} (hp : own_tg pc o pc' = true) : 0 ≤ (pc : Int) + o ∧ ((pc : Int) + o).toNat = pc' := by
  simpa [own_tg] using hp
theorem own_goto (X : own_X p l e R s m args below meth c Z bytes maxL ret y n0 h T k n) {o : Int} (hd : decode bytes pc = .ok (.goto o, 3)) (hp : own_tg pc o pc' = true) (g : own_G p e below (T.setTop (mkF m pc' ls st)) Q) : own_G p e below (T.setTop (mkF m pc ls st)) Q := by
  obtain ⟨⟨hx, hby, -⟩, -, -, locs, X, -⟩ := X
  subst hby
  exact own_st (fun t q => XS.goto X.here hx rfl rfl hd (own_tg_s hp).1 (own_tg_s hp).2 q) g
theorem own_icmp (X : own_X p l e R s m args below meth c Z bytes maxL ret y n0 h T k n) {cd : ClassFile.Cond} {o : Int} {v w : Int32} (hd : decode bytes pc = .ok (.if_icmp cd o, 3)) (hp : own_tg pc o pc' = true) (gT : own_cI cd v.toInt w.toInt → own_G p e below (T.setTop (mkF m pc' ls st)) Q) (gF : ¬ own_cI cd v.toInt w.toInt → own_G p e below (T.setTop (mkF m (pc + 3) ls st)) Q) :
    own_G p e below (T.setTop (mkF m pc ls (.int w :: .int v :: st))) Q := by
  obtain ⟨⟨hx, hby, -⟩, -, -, locs, X, -⟩ := X
  subst hby
  cases hc : if_icmp.holds cd v w with
  | true => exact own_st (fun t q => XS.icmpYes X.here hx rfl rfl hd rfl hc (own_tg_s hp).1 (own_tg_s hp).2 q) (gT ((own_icmp_iff cd v w).mp hc))
  | false => exact own_st (fun t q => XS.icmpNo X.here hx rfl hd rfl hc q) (gF fun q => by rw [(own_icmp_iff cd v w).mpr q] at hc; cases hc)
theorem own_if (X : own_X p l e R s m args below meth c Z bytes maxL ret y n0 h T k n) {cd : ClassFile.Cond} {o : Int} {v : Int32} (hd : decode bytes pc = .ok (.ifCond cd o, 3)) (hp : own_tg pc o pc' = true) (gT : own_cI cd v.toInt 0 → own_G p e below (T.setTop (mkF m pc' ls st)) Q) (gF : ¬ own_cI cd v.toInt 0 → own_G p e below (T.setTop (mkF m (pc + 3) ls st)) Q) :
    own_G p e below (T.setTop (mkF m pc ls (.int v :: st))) Q := by
  obtain ⟨⟨hx, hby, -⟩, -, -, locs, X, -⟩ := X
  subst hby
  cases hc : ifCond.holds cd v with
  | true => exact own_st (fun t q => XS.ifYes X.here hx rfl rfl hd rfl hc (own_tg_s hp).1 (own_tg_s hp).2 q) (gT ((own_if_iff cd v).mp hc))
  | false => exact own_st (fun t q => XS.ifNo X.here hx rfl hd rfl hc q) (gF fun q => by rw [(own_if_iff cd v).mpr q] at hc; cases hc)
theorem own_lif (X : own_X p l e R s m args below meth c Z bytes maxL ret y n0 h T k n) {cd : ClassFile.Cond} {o : Int} {v w : Int64} (hd1 : decode bytes pc = .ok (.lcmp, 1)) (hd : decode bytes (pc + 1) = .ok (.ifCond cd o, 3)) (hp : own_tg (pc + 1) o pc' = true) (gT : own_cI cd v.toInt w.toInt → own_G p e below (T.setTop (mkF m pc' ls st)) Q) (gF : ¬ own_cI cd v.toInt w.toInt → own_G p e below (T.setTop (mkF m (pc + 4) ls st)) Q) :
    own_G p e below (T.setTop (mkF m pc ls (.long w :: .long v :: st))) Q := by
  obtain ⟨⟨hx, hby, -⟩, -, -, locs, X, -⟩ := X
  subst hby
  refine own_st (fun t q => XS.lcmp X.here hx rfl hd1 rfl q) ?_
  show own_G p e below (T.setTop (mkF m (pc + 1) ls (.int (if v > w then 1 else if v = w then 0 else -1) :: st))) Q
  cases hc : ifCond.holds cd (if v > w then 1 else if v = w then 0 else -1) with
  | true => exact own_st (fun t q => XS.ifYes X.here hx rfl rfl hd rfl hc (own_tg_s hp).1 (own_tg_s hp).2 q) (gT ((own_l_iff cd v w).mp hc))
  | false => exact own_st (fun t q => XS.ifNo X.here hx rfl hd rfl hc q) (gF fun q => by rw [(own_l_iff cd v w).mpr q] at hc; cases hc)
/-! division -/
theorem own_idiv (X : own_X p l e R s m args below meth c Z bytes maxL ret y n0 h T k n) {v w : Int32} (hd : decode bytes pc = .ok (.idiv, 1)) (hw : w ≠ 0) (g : own_G p e below (T.setTop (mkF m (pc + 1) ls (.int (v / w) :: st))) Q) : own_G p e below (T.setTop (mkF m pc ls (.int w :: .int v :: st))) Q := by
  obtain ⟨⟨hx, hby, -⟩, -, -, locs, X, -⟩ := X
  subst hby
  exact own_st (fun t q => XS.idiv X.here hx rfl hd rfl hw q) g
theorem own_iremS (X : own_X p l e R s m args below meth c Z bytes maxL ret y n0 h T k n) {v w : Int32} (hd : decode bytes pc = .ok (.irem, 1)) (hw : w ≠ 0) (g : own_G p e below (T.setTop (mkF m (pc + 1) ls (.int (own_irem v w) :: st))) Q) : own_G p e below (T.setTop (mkF m pc ls (.int w :: .int v :: st))) Q := by
  obtain ⟨⟨hx, hby, -⟩, -, -, locs, X, -⟩ := X
  subst hby
  exact own_st (fun t q => XS.irem X.here hx rfl hd rfl hw q) g
theorem own_ldiv (X : own_X p l e R s m args below meth c Z bytes maxL ret y n0 h T k n) {v w : Int64} (hd : decode bytes pc = .ok (.ldiv, 1)) (hw : w ≠ 0) (g : own_G p e below (T.setTop (mkF m (pc + 1) ls (.long (v / w) :: st))) Q) : own_G p e below (T.setTop (mkF m pc ls (.long w :: .long v :: st))) Q := by
  obtain ⟨⟨hx, hby, -⟩, -, -, locs, X, -⟩ := X
  subst hby
  exact own_st (fun t q => XS.ldiv X.here hx rfl hd rfl hw q) g
theorem own_lremS (X : own_X p l e R s m args below meth c Z bytes maxL ret y n0 h T k n) {v w : Int64} (hd : decode bytes pc = .ok (.lrem, 1)) (hw : w ≠ 0) (g : own_G p e below (T.setTop (mkF m (pc + 1) ls (.long (own_lrem v w) :: st))) Q) : own_G p e below (T.setTop (mkF m pc ls (.long w :: .long v :: st))) Q := by
  obtain ⟨⟨hx, hby, -⟩, -, -, locs, X, -⟩ := X
  subst hby
  exact own_st (fun t q => XS.lrem X.here hx rfl hd rfl hw q) g
/-! constants of the pool -/
theorem own_ldc (X : own_X p l e R s m args below meth c Z bytes maxL ret y n0 h T k n) {i : Nat} {v : Int32} (w : (Jvm.Cond.constant y.cls i v).before a0 Z = true) (hd : decode bytes pc = .ok (.ldc i, 2)) (g : own_G p e below (T.setTop (mkF m (pc + 2) ls (.int v :: st))) Q) : own_G p e below (T.setTop (mkF m pc ls st)) Q := by
  obtain ⟨⟨hx, hby, hml, hown, hnm, hret, hZ, hlk⟩, -, -, locs, X, -⟩ := X
  subst hby
  exact own_st (fun t q => X.ldcInt hx hown (mvT hZ w) (g := mkF m pc ls st) rfl hd t q) g
theorem own_ldc2 (X : own_X p l e R s m args below meth c Z bytes maxL ret y n0 h T k n) {i : Nat} {v : Int64} (w : (Jvm.Cond.constantLong y.cls i v).before a0 Z = true) (hd : decode bytes pc = .ok (.ldc2_w i, 3)) (g : own_G p e below (T.setTop (mkF m (pc + 3) ls (.long v :: st))) Q) : own_G p e below (T.setTop (mkF m pc ls st)) Q := by
  obtain ⟨⟨hx, hby, hml, hown, hnm, hret, hZ, hlk⟩, -, -, locs, X, -⟩ := X
  subst hby
  exact own_st (fun t q => X.ldc2Long hx hown (mvT hZ w) (g := mkF m pc ls st) rfl hd t q) g
/-! returns -/
variable {P : Option Value → Heap → Prop} {C S : Nat}
theorem own_retI (X : own_X p l e R s m args below meth c Z bytes maxL (some .int) y n0 h T k n) (hd : decode bytes pc = .ok (.ireturn, 1)) {v : Int32} (hk : k ≤ C) (hn : n ≤ S) (hP : P (some (.int v)) h) : own_G p e below (T.setTop (mkF m pc ls (.int v :: st))) (own_E s n0 P C S) := by
  obtain ⟨⟨hx, hby, hml, hown, hnm, hret, hZ, hlk⟩, -, eT, locs, X, N⟩ := X
  subst hby
  obtain ⟨fs, hr, hrun, hended, hW, hsame⟩ := X.leave (v := some (.int v)) (fun q => by rw [hret] at q; cases q)
  refine ⟨_, _, ?_, hrun, hended, _, _, rfl, ⟨N, by show P _ T.heap; rw [eT]; exact hP⟩, ⟨_, rfl⟩, hW, hsame.mono hk hn⟩
  have hm' : T.vm.method? m = some meth := X.method'
  have hnn : narrow .int (.int v) = .int v := rfl
  show Steps p.tables e below (T.setTop { method := m, pc := pc, locals := ls, stack := _ :: st, locked := none }) _
  jvm_step X.here [X.here.top, hx, hd, hm', hret, hnn]
  first | (intro acts; rw [hr _ acts rfl rfl rfl]) | rw [hr _ _ rfl rfl rfl]
  exact Steps.refl _
theorem own_retN {t : FieldType} (X : own_X p l e R s m args below meth c Z bytes maxL (some t) y n0 h T k n) (ht : t = .boolean ∨ t = .byte ∨ t = .char ∨ t = .short) (hd : decode bytes pc = .ok (.ireturn, 1)) {v v' : Int32} (hv : nar t v = v') (hk : k ≤ C) (hn : n ≤ S) (hP : P (some (.int v')) h) : own_G p e below (T.setTop (mkF m pc ls (.int v :: st))) (own_E s n0 P C S) := by
  obtain ⟨⟨hx, hby, hml, hown, hnm, hret, hZ, hlk⟩, -, eT, locs, X, N⟩ := X
  subst hby hv
  obtain ⟨fs, hr, hrun, hended, hW, hsame⟩ := X.leave (v := some (.int (nar t v))) (fun q => by rw [hret] at q; cases q)
  exact ⟨_, _, retN X hx hret ht hd hr, hrun, hended, _, _, rfl, ⟨N, by show P _ T.heap; rw [eT]; exact hP⟩, ⟨_, rfl⟩, hW, hsame.mono hk hn⟩
theorem own_retL (X : own_X p l e R s m args below meth c Z bytes maxL (some .long) y n0 h T k n) (hd : decode bytes pc = .ok (.lreturn, 1)) {v : Int64} (hk : k ≤ C) (hn : n ≤ S) (hP : P (some (.long v)) h) : own_G p e below (T.setTop (mkF m pc ls [.long v])) (own_E s n0 P C S) := by
  obtain ⟨⟨hx, hby, hml, hown, hnm, hret, hZ, hlk⟩, -, eT, locs, X, N⟩ := X
  subst hby
  obtain ⟨fs, hr, hrun, hended, hW, hsame⟩ := X.leave (v := some (.long v)) (fun q => by rw [hret] at q; cases q)
  exact ⟨_, _, X.lreturnOut hx hret hd hr, hrun, hended, _, _, rfl, ⟨N, by show P _ T.heap; rw [eT]; exact hP⟩, ⟨_, rfl⟩, hW, hsame.mono hk hn⟩
theorem own_retA {t : FieldType} (X : own_X p l e R s m args below meth c Z bytes maxL (some t) y n0 h T k n) (ht : t.isReference = true) (hd : decode bytes pc = .ok (.areturn, 1)) {v : Addr} (hk : k ≤ C) (hn : n ≤ S) (hP : P (some (.ref v)) h) : own_G p e below (T.setTop (mkF m pc ls [.ref v])) (own_E s n0 P C S) := by
  obtain ⟨⟨hx, hby, hml, hown, hnm, hret, hZ, hlk⟩, -, eT, locs, X, N⟩ := X
  subst hby
  obtain ⟨fs, hr, hrun, hended, hW, hsame⟩ := X.leave (v := some (.ref v)) (fun q => by rw [hret] at q; cases q)
  exact ⟨_, _, X.areturnOut hx rfl hret ht hd hr, hrun, hended, _, _, rfl, ⟨N, by show P _ T.heap; rw [eT]; exact hP⟩, ⟨_, rfl⟩, hW, hsame.mono hk hn⟩
theorem own_retV (X : own_X p l e R s m args below meth c Z bytes maxL none y n0 h T k n) (hd : decode bytes pc = .ok (.return_, 1)) (hk : k ≤ C) (hn : n ≤ S) (hP : P none h) : own_G p e below (T.setTop (mkF m pc ls [])) (own_E s n0 P C S) := by
  obtain ⟨⟨hx, hby, hml, hown, hnm, hret, hZ, hlk⟩, -, eT, locs, X, N⟩ := X
  subst hby
  obtain ⟨fs, hr, hrun, hended, hW, hsame⟩ := X.leave (v := none) (fun _ => rfl)
  exact ⟨_, _, X.returnOut hx hret hd hr, hrun, hended, _, _, rfl, ⟨N, by show P _ T.heap; rw [eT]; exact hP⟩, ⟨_, rfl⟩, hW, hsame.mono hk hn⟩
/-! calls -/
theorem own_callS (X : own_X p l e R s m args below meth c Z bytes maxL ret y n0 h T k n) {i : Nat} {z : MethodName} {zb : ByteArray} {zl : Nat} {zr : Option FieldType} {rm : Room} {as : Array Value} {P : Option Value → Heap → Prop}
    (w1 : (Jvm.Cond.methodLink y.cls i z).before a0 Z = true) (w2 : (Jvm.Cond.static z).before a0 Z = true) (w3 : (Jvm.Cond.initialized z.cls).before a0 Z = true) (w4 : (Jvm.Cond.code z zb zl zr).before a0 Z = true) (hy : z.cls ≠ "java/lang/invoke/MethodHandle" ∧ z.cls ≠ "java/lang/invoke/VarHandle")
    (K : own_C l Z z zb zl zr rm as h n0 P) (hd : decode bytes pc = .ok (.invokestatic i, 3)) (argsL rest : List Value) (hst : st = argsL.reverse ++ rest) (has : argsL.toArray = as) {ps : List FieldType} {pr : Option FieldType} (hsg : parseMethodDescriptor z.desc = some ⟨ps, pr⟩) (hlen : argsL.length = ps.length) (hsz : ls.size = maxL)
    (hf : rm.frames + 1 ≤ R.frames) (hl : (rest.map fun v => v.category).sum + (zl + 11) + rm.locals ≤ R.locals) (hc : k + rm.cells ≤ R.cells) (hs : n + rm.slots ≤ R.slots) (hn : ∀ v h', P v h' → n0 ≤ h'.size)
    (g : ∀ v h' T', own_X p l e R s m args below meth c Z bytes maxL ret y n0 h' T' (k + rm.cells) (n + rm.slots) → P v h' → own_G p e below (T'.setTop (mkF m (pc + 3) ls (v.toList ++ rest))) Q) : own_G p e below (T.setTop (mkF m pc ls st)) Q := by
  obtain ⟨M, hn0, eT, locs, X, N⟩ := X
  have M' := M
  obtain ⟨hx, hby, hml, hown, hnm, hret, hZ, hlk⟩ := M'
  subst hby hst has
  obtain ⟨v, vm₁, B, -, X', ⟨L, hq, l1, l2, l3⟩, stp⟩ := Jvm.LawKit.callS X hx (y := z) hown (mvT hZ w1) (mvT hZ w2) (mvT hZ w3) (mvT hZ w4) hy (backOf (W := (rest.map fun v => v.category).sum) (Q := fun v h' L => Fr n0 L ∧ P v h') (K []) hZ w4 w3 hf hl) (g := mkF m pc ls (argsL.reverse ++ rest)) rfl (hsz.trans hml.symm) (argsL := argsL) (rest := rest)
    (lenOf hsg hlen) rfl (Nat.le_of_eq (Nat.zero_add _)) hd (fun _ _ => ⟨rfl, eT, hc, hs⟩)
  obtain ⟨U, Lc, k', n'⟩ := B
  dsimp only [Pt.U, Pt.locs, Pt.cells, Pt.slots] at X' hq l1 l2 l3 stp
  subst l1 l2 l3
  exact own_st stp (g v U.heap U ⟨M, hn v _ hq.2, rfl, _, X', Fr.app N hq.1⟩ hq.2)
theorem own_callP (X : own_X p l e R s m args below meth c Z bytes maxL ret y n0 h T k n) {i : Nat} {z : MethodName} {zb : ByteArray} {zl : Nat} {zr : Option FieldType} {rm : Room} {as : Array Value} {v : Option Value}
    (w1 : (Jvm.Cond.methodLink y.cls i z).before a0 Z = true) (w2 : (Jvm.Cond.static z).before a0 Z = true) (w3 : (Jvm.Cond.initialized z.cls).before a0 Z = true) (w4 : (Jvm.Cond.code z zb zl zr).before a0 Z = true) (hy : z.cls ≠ "java/lang/invoke/MethodHandle" ∧ z.cls ≠ "java/lang/invoke/VarHandle")
    (K : own_C l Z z zb zl zr rm as h n0 (fun v' h' => v' = v ∧ h' = h)) (hd : decode bytes pc = .ok (.invokestatic i, 3)) (argsL rest : List Value) (hst : st = argsL.reverse ++ rest) (has : argsL.toArray = as) {ps : List FieldType} {pr : Option FieldType} (hsg : parseMethodDescriptor z.desc = some ⟨ps, pr⟩) (hlen : argsL.length = ps.length) (hsz : ls.size = maxL)
    (hf : rm.frames + 1 ≤ R.frames) (hl : (rest.map fun v => v.category).sum + (zl + 11) + rm.locals ≤ R.locals) (hc : k + rm.cells ≤ R.cells) (hs : n + rm.slots ≤ R.slots)
    (g : ∀ T', own_X p l e R s m args below meth c Z bytes maxL ret y n0 h T' (k + rm.cells) (n + rm.slots) → own_G p e below (T'.setTop (mkF m (pc + 3) ls (v.toList ++ rest))) Q) : own_G p e below (T.setTop (mkF m pc ls st)) Q :=
  own_callS X w1 w2 w3 w4 hy K hd argsL rest hst has hsg hlen hsz hf hl hc hs (fun v h' q => by rw [q.2]; exact X.2.1) (fun v' h' T' X' q => by obtain ⟨q1, q2⟩ := q; subst q1; rw [q2] at X'; exact g T' X')
theorem own_callN (X : own_X p l e R s m args below meth c Z bytes maxL ret y n0 h T k n) {i : Nat} {z : MethodName} {zb : ByteArray} {zl : Nat} {rm : Room} {as : Array Value} {P : Option Value → Heap → Prop} (hz : z.name = "<init>")
    (w1 : (Jvm.Cond.methodLink y.cls i z).before a0 Z = true) (w2 : (Jvm.Cond.instanceMethod z).before a0 Z = true) (w3 : (Jvm.Cond.initialized z.cls).before a0 Z = true) (w4 : (Jvm.Cond.code z zb zl none).before a0 Z = true) (hy : z.cls ≠ "java/lang/invoke/MethodHandle" ∧ z.cls ≠ "java/lang/invoke/VarHandle")
    (K : own_C l Z z zb zl none rm as h n0 P) (hd : decode bytes pc = .ok (.invokespecial i, 3)) {a : Addr} (argsL rest : List Value) (hst : st = argsL.reverse ++ .ref a :: rest) (has : (.ref a :: argsL).toArray = as) {ps : List FieldType} {pr : Option FieldType} (hsg : parseMethodDescriptor z.desc = some ⟨ps, pr⟩) (hlen : argsL.length = ps.length) (hsz : ls.size = maxL)
    (hf : rm.frames + 1 ≤ R.frames) (hl : (rest.map fun v => v.category).sum + (zl + 11) + rm.locals ≤ R.locals) (hc : k + rm.cells ≤ R.cells) (hs : n + rm.slots ≤ R.slots) (hn : ∀ v h', P v h' → n0 ≤ h'.size)
    (g : ∀ v h' T', own_X p l e R s m args below meth c Z bytes maxL ret y n0 h' T' (k + rm.cells) (n + rm.slots) → P v h' → own_G p e below (T'.setTop (mkF m (pc + 3) ls (v.toList ++ rest))) Q) : own_G p e below (T.setTop (mkF m pc ls st)) Q := by
  obtain ⟨M, hn0, eT, locs, X, N⟩ := X
  have M' := M
  obtain ⟨hx, hby, hml, hown, hnm, hret, hZ, hlk⟩ := M'
  subst hby hst has
  obtain ⟨v, vm₁, B, -, X', ⟨L, hq, l1, l2, l3⟩, stp⟩ := X.specialBack hx (y := z) hz hown (mvT hZ w1) (mvT hZ w2) (mvT hZ w4) hy (backOf (W := (rest.map fun v => v.category).sum) (Q := fun v h' L => Fr n0 L ∧ P v h') (K []) hZ w4 w3 hf hl) (g := mkF m pc ls (argsL.reverse ++ .ref a :: rest)) rfl (hsz.trans hml.symm) (Steps.refl _) (a := a) (argsL := argsL) (rest := rest)
    (lenOf hsg hlen) rfl (Nat.le_of_eq (Nat.zero_add _)) hd (fun _ _ => ⟨rfl, eT, hc, hs⟩)
  obtain ⟨U, Lc, k', n'⟩ := B
  dsimp only [Pt.U, Pt.locs, Pt.cells, Pt.slots] at X' hq l1 l2 l3 stp
  subst l1 l2 l3
  exact own_st (fun t q => stp.trans q) (g v U.heap U ⟨M, hn v _ hq.2, rfl, _, X', Fr.app N hq.1⟩ hq.2)
theorem own_callV (X : own_X p l e R s m args below meth c Z bytes maxL ret y n0 h T k n) {i : Nat} {z : MethodName} {zb : ByteArray} {zl : Nat} {zr : Option FieldType} {rm : Room} {as : Array Value} {P : Option Value → Heap → Prop}
    (w1 : (Jvm.Cond.methodLink y.cls i z).before a0 Z = true) (w2 : (Jvm.Cond.declares z).before a0 Z = true) (w5 : (Jvm.Cond.selects z.cls z z).before a0 Z = true) (w6 : (Jvm.Cond.instanceMethod z).before a0 Z = true) (w3 : (Jvm.Cond.initialized z.cls).before a0 Z = true) (w4 : (Jvm.Cond.code z zb zl zr).before a0 Z = true) (hy : z.cls ≠ "java/lang/invoke/MethodHandle" ∧ z.cls ≠ "java/lang/invoke/VarHandle")
    {a : Addr} (E : Exa Z h a z.cls) (K : own_C l Z z zb zl zr rm as h n0 P) (hd : decode bytes pc = .ok (.invokevirtual i, 3)) (argsL rest : List Value) (hst : st = argsL.reverse ++ .ref a :: rest) (has : (.ref a :: argsL).toArray = as) {ps : List FieldType} {pr : Option FieldType} (hsg : parseMethodDescriptor z.desc = some ⟨ps, pr⟩) (hlen : argsL.length = ps.length) (hsz : ls.size = maxL)
    (hf : rm.frames + 1 ≤ R.frames) (hl : (rest.map fun v => v.category).sum + (zl + 11) + rm.locals ≤ R.locals) (hc : k + rm.cells ≤ R.cells) (hs : n + rm.slots ≤ R.slots) (hn : ∀ v h', P v h' → n0 ≤ h'.size)
    (g : ∀ v h' T', own_X p l e R s m args below meth c Z bytes maxL ret y n0 h' T' (k + rm.cells) (n + rm.slots) → P v h' → own_G p e below (T'.setTop (mkF m (pc + 3) ls (v.toList ++ rest))) Q) : own_G p e below (T.setTop (mkF m pc ls st)) Q := by
  obtain ⟨M, hn0, eT, locs, X, N⟩ := X
  have M' := M
  obtain ⟨hx, hby, hml, hown, hnm, hret, hZ, hlk⟩ := M'
  subst hby hst has
  obtain ⟨cq, kq, qa, qb, qc⟩ := isOf hZ eT E
  obtain ⟨v, vm₁, B, -, X', ⟨L, hq, l1, l2, l3⟩, stp⟩ := X.virtualBack hx (y := z) (z := z) hown (mvT hZ w1) (mvT hZ w2) (notFace_of_selects (args := #[]) (mvT hZ w5)) (mvT hZ w5) (mvT hZ w6) hy (backOf (W := (rest.map fun v => v.category).sum) (Q := fun v h' L => Fr n0 L ∧ P v h') (K []) hZ w4 w3 hf hl) qa qc (g := mkF m pc ls (argsL.reverse ++ .ref a :: rest)) rfl (hsz.trans hml.symm) (Steps.refl _) (argsL := argsL) (rest := rest)
    (lenOf hsg hlen) rfl (Nat.le_of_eq (Nat.zero_add _)) hd (fun _ _ => ⟨rfl, eT, hc, hs⟩)
  obtain ⟨U, Lc, k', n'⟩ := B
  dsimp only [Pt.U, Pt.locs, Pt.cells, Pt.slots] at X' hq l1 l2 l3 stp
  subst l1 l2 l3
  exact own_st (fun t q => stp.trans q) (g v U.heap U ⟨M, hn v _ hq.2, rfl, _, X', Fr.app N hq.1⟩ hq.2)
/-! fields -/
theorem own_getF (X : own_X p l e R s m args below meth c Z bytes maxL ret y n0 h T k n) {i : Nat} {O f d : String} (w : (Jvm.Cond.fieldLink y.cls i O f d).before a0 Z = true) {a : Addr} {v : Value} (F : Fld Z h a O f d v) (hd : decode bytes pc = .ok (.getfield i, 3))
    (g : ∀ T', own_X p l e R s m args below meth c Z bytes maxL ret y n0 h T' k n → own_G p e below (T'.setTop (mkF m (pc + 3) ls (v :: st))) Q) : own_G p e below (T.setTop (mkF m pc ls (.ref a :: st))) Q := by
  obtain ⟨M, hn0, eT, locs, X, N⟩ := X
  have M' := M
  obtain ⟨hx, hby, hml, hown, hnm, hret, hZ, hlk⟩ := M'
  subst hby
  obtain ⟨T', X', e', stp⟩ := getF X hx hZ hown (host := "") (Or.inl w) Via.refl eT F (g := mkF m pc ls (.ref a :: st)) rfl rfl hd
  exact own_st stp (g T' ⟨M, hn0, e', _, X', N⟩)
theorem own_putF (X : own_X p l e R s m args below meth c Z bytes maxL ret y n0 h T k n) {i kk : Nat} {O f d K : String} {ty : FieldType} (w : (Jvm.Cond.fieldLink y.cls i O f d).before a0 Z = true) {a : Addr} {v old : Value} (F : Fld Z h a O f d old) (E : Exa Z h a K) (L : (Jvm.Cond.lays K O f d).before a0 Z = true ∨ ((Jvm.Cond.laysFinal K O f d).before a0 Z = true ∧ y.cls = O ∧ y.name = "<init>")) (wi : (Jvm.Cond.instantiable K kk).before a0 Z = true)
    (hty : parseFieldDescriptor d = some ty) (hn : narrow ty v = v) (hf : fits ty v = true) (ha : n0 ≤ a) (hd : decode bytes pc = .ok (.putfield i, 3))
    (g : ∀ h' T', own_X p l e R s m args below meth c Z bytes maxL ret y n0 h' T' k n → Wr h h' a (Jvm.RoadKit.slotOf Z O f d) v → own_G p e below (T'.setTop (mkF m (pc + 3) ls st)) Q) : own_G p e below (T.setTop (mkF m pc ls (v :: .ref a :: st))) Q := by
  obtain ⟨M, hn0, eT, locs, X, N⟩ := X
  have M' := M
  obtain ⟨hx, hby, hml, hown, hnm, hret, hZ, hlk⟩ := M'
  subst hby
  obtain ⟨T', h', X', e', W', stp⟩ := putF X hx hZ hown (host := "") (Or.inl w) Via.refl eT F E (L.imp id fun q => ⟨q.1, q.2.1, hnm.trans q.2.2⟩) wi hty hn hf (g := mkF m pc ls (v :: .ref a :: st)) rfl rfl hd
  exact own_st stp (g h' T' ⟨M, by rw [W'.size]; exact hn0, e', _, X', Fr.snoc X' N ha⟩ W')
/-! new -/
theorem own_newO (X : own_X p l e R s m args below meth c Z bytes maxL ret y n0 h T k n) {i nn : Nat} {K : String} (w : (Jvm.Cond.classLink y.cls i K).before a0 Z = true) (wi : (Jvm.Cond.instantiable K nn).before a0 Z = true) (wz : (Jvm.Cond.initialized K).before a0 Z = true) (hd : decode bytes pc = .ok (.new i, 3)) (hc : k + 1 ≤ R.cells) (hs : n + nn ≤ R.slots)
    (g : ∀ h' T', own_X p l e R s m args below meth c Z bytes maxL ret y n0 h' T' (k + 1) (n + nn) → Ext h h' → Exa Z h' h.size K → (∀ {O nm d : String} {ty : FieldType}, Laid Z a0 K O nm d → parseFieldDescriptor d = some ty → Fld Z h' h.size O nm d (defaultValue ty)) → own_G p e below (T'.setTop (mkF m (pc + 3) ls (.ref h.size :: st))) Q) : own_G p e below (T.setTop (mkF m pc ls st)) Q := by
  obtain ⟨M, hn0, eT, locs, X, N⟩ := X
  have M' := M
  obtain ⟨hx, hby, hml, hown, hnm, hret, hZ, hlk⟩ := M'
  subst hby
  obtain ⟨T', h', X', e', E', A', D', -, stp⟩ := newO X hx hZ hown w wi wz eT (g := mkF m pc ls st) rfl hd hc hs
  exact own_st stp (g h' T' ⟨M, Nat.le_trans hn0 E'.1, e', _, X', N⟩ E' A' D')
end Walk
/-! ### own layer 3: arrays: the array at a has n places, place j holds f j -/
def own_A (Z : State) (h : Heap) (a : Addr) (ty : FieldType) (n : Nat) (f : Int → Value) : Prop := n < 2147483648 ∧ ∃ c : Cell, Arr Z h a c ty ∧ c.slots.size = n ∧ ∀ j : Nat, j < n → c.slots[j]? = some (f (j : Int))
def own_u {α : Type} (f : Int → α) (i : Int) (x : α) : Int → α := fun j => if j = i then x else f j
section Arrs
variable {Z : State} {h h' : Heap} {a b : Addr} {ty : FieldType} {n : Nat} {f : Int → Value}
theorem own_A_lt (A : own_A Z h a ty n f) : a < h.size := by obtain ⟨-, c, A, -⟩ := A; exact A.lt
theorem own_A_ext (A : own_A Z h a ty n f) (E : Ext h h') : own_A Z h' a ty n f := by obtain ⟨q, c, A, r⟩ := A; exact ⟨q, c, A.ext E, r⟩
theorem own_A_other (A : own_A Z h b ty n f) {sl : Nat} {v : Value} (W : Wr h h' a sl v) (q : b ≠ a) : own_A Z h' b ty n f := by obtain ⟨q1, c, A, r⟩ := A; exact ⟨q1, c, A.other W q, r⟩
theorem own_A_keep (A : own_A Z h a ty n f) {ws : List Addr} (K : Keep h h' ws) (q : a ∉ ws) : own_A Z h' a ty n f := by obtain ⟨q1, c, A, r⟩ := A; exact ⟨q1, c, ⟨K.2.1 a c A.1 q, A.2⟩, r⟩
theorem own_A_new {k : ClassId} {z : Int32} (A : Arr Z h a (newA k ty z) ty) (q : 0 ≤ z.toInt) : own_A Z h a ty z.toInt.toNat (fun _ => defaultValue ty) := by
  have := Int32.toInt_lt z
  refine ⟨by omega, _, A, by rw [sz_new]; rfl, fun j hj => ?_⟩
  have hj' : j < z.toNatClampNeg := hj
  simp [newA, hj']
theorem own_A_set {sl : Nat} {v : Value} (A : own_A Z h a ty n f) (W : Wr h h' a sl v) (i : Int) (hi : i = (sl : Int)) : own_A Z h' a ty n (own_u f i v) := by
  obtain ⟨q, c, A, S, H⟩ := A
  have W0 := W
  obtain ⟨c2, g1, -, g3, -⟩ := W0
  cases g1.symm.trans A.1
  refine ⟨q, _, A.same W, by rw [sz_set]; exact S, fun j hj => ?_⟩
  subst hi
  by_cases u : j = sl
  · subst u; simp [Cell.setSlot, own_u, g3]
  · have e1 : ¬ ((j : Int) = (sl : Int)) := by omega
    simp only [own_u, e1, if_false, Cell.setSlot]
    rw [Array.getElem?_setIfInBounds_ne (fun q => u q.symm)]
    exact H j hj
theorem own_A_eq {g : Int → Value} (A : own_A Z h a ty n f) (q : ∀ j : Int, 0 ≤ j → j < n → g j = f j) : own_A Z h a ty n g := by
  obtain ⟨q1, c, A, S, H⟩ := A
  exact ⟨q1, c, A, S, fun j hj => by rw [H j hj, q j (by omega) (by omega)]⟩
theorem own_tnc (j : Int32) : j.toNatClampNeg = j.toInt.toNat := rfl
theorem own_z32 : (0 : Int32).toInt = 0 := rfl
theorem own_idx {j : Int32} (h0 : 0 ≤ j.toInt) : ¬ j < 0 := by rw [Int32.lt_iff_toInt_lt, own_z32]; omega
theorem own_inb {j : Int32} {cl : Cell} (S : cl.slots.size = n) (h0 : 0 ≤ j.toInt) (h1 : j.toInt < n) : ¬ (j < 0 ∨ cl.slots.size ≤ j.toNatClampNeg) := by
  rw [Int32.lt_iff_toInt_lt, S, own_z32, own_tnc]; omega
theorem own_nat {j : Int32} (h0 : 0 ≤ j.toInt) : j.toInt = (j.toNatClampNeg : Int) := by rw [own_tnc]; omega
end Arrs
/-- the same, of ints -/
def own_I (Z : State) (h : Heap) (a : Addr) (ty : FieldType) (n : Nat) (g : Int → Int32) : Prop := own_A Z h a ty n (fun j => .int (g j))
theorem own_I_ext {Z : State} {h h' : Heap} {a : Addr} {ty : FieldType} {n : Nat} {g : Int → Int32} (A : own_I Z h a ty n g) (E : Ext h h') : own_I Z h' a ty n g := own_A_ext A E
theorem own_I_other {Z : State} {h h' : Heap} {a b : Addr} {ty : FieldType} {n : Nat} {g : Int → Int32} (A : own_I Z h b ty n g) {sl : Nat} {v : Value} (W : Wr h h' a sl v) (q : b ≠ a) : own_I Z h' b ty n g := own_A_other A W q
theorem own_I_keep {Z : State} {h h' : Heap} {a : Addr} {ty : FieldType} {n : Nat} {g : Int → Int32} (A : own_I Z h a ty n g) {ws : List Addr} (K : Keep h h' ws) (q : a ∉ ws) : own_I Z h' a ty n g := own_A_keep A K q
theorem own_I_eq {Z : State} {h : Heap} {a : Addr} {ty : FieldType} {n : Nat} {f g : Int → Int32} (A : own_I Z h a ty n f) (q : ∀ j : Int, 0 ≤ j → j < n → g j = f j) : own_I Z h a ty n g := own_A_eq A (fun j h0 h1 => by rw [q j h0 h1])
theorem own_I_set {Z : State} {h h' : Heap} {a : Addr} {ty : FieldType} {n : Nat} {g : Int → Int32} {sl : Nat} {x : Int32} (A : own_I Z h a ty n g) (W : Wr h h' a sl (.int x)) (i : Int) (hi : i = (sl : Int)) : own_I Z h' a ty n (own_u g i x) :=
  own_A_eq (own_A_set A W i hi) (fun j _ _ => by simp only [own_u]; split <;> rfl)
theorem own_u_ne {α : Type} {g : Int → α} {i j : Int} {x : α} (h : j ≠ i) : own_u g i x j = g j := if_neg h
theorem own_u_eq {α : Type} {g : Int → α} {i j : Int} {x : α} (h : j = i) : own_u g i x j = x := if_pos h
section Arrs2
variable {p : Program} {l : Launch} {e : Env} {R : Room} {s : State} {m : MethodId} {args : Array Value} {below : List Frame} {meth : Method} {c : Code} {Z : State} {bytes : ByteArray} {maxL : Nat} {ret : Option FieldType} {y : MethodName} {n0 : Nat} {h : Heap} {T : State} {k n : Nat} {Q : Outcome → State → Prop} {pc pc' : Nat} {ls ls' : Array Slot} {st st' : List Value} {a0 : Array Value} {a : Addr} {nn : Nat} {f : Int → Value} {gg : Int → Int32}
theorem own_len (X : own_X p l e R s m args below meth c Z bytes maxL ret y n0 h T k n) {ty : FieldType} (A : own_A Z h a ty nn f) (hd : decode bytes pc = .ok (.arraylength, 1)) (g : own_G p e below (T.setTop (mkF m (pc + 1) ls (.int (Int32.ofNat nn) :: st))) Q) : own_G p e below (T.setTop (mkF m pc ls (.ref a :: st))) Q := by
  obtain ⟨⟨hx, hby, hml, hown, hnm, hret, hZ, hlk⟩, hn0, eT, locs, X, N⟩ := X
  obtain ⟨q, cl, A, S, H⟩ := A
  subst hby
  refine own_st (fun t q => X.arraylength hx (by rw [eT]; exact A.1) (State.isArrayOf_alike hZ.alike A.2.1) (g := mkF m pc ls (.ref a :: st)) rfl rfl hd t q) ?_
  show own_G p e below (T.setTop (mkF m (pc + 1) ls (.int cl.slots.size.toInt32 :: st))) Q
  rw [S]
  exact g
theorem own_iald (X : own_X p l e R s m args below meth c Z bytes maxL ret y n0 h T k n) (A : own_I Z h a .int nn gg) (hd : decode bytes pc = .ok (.iaload, 1)) {j : Int32} (h0 : 0 ≤ j.toInt) (h1 : j.toInt < nn) (g : own_G p e below (T.setTop (mkF m (pc + 1) ls (.int (gg j.toInt) :: st))) Q) : own_G p e below (T.setTop (mkF m pc ls (.int j :: .ref a :: st))) Q := by
  obtain ⟨⟨hx, hby, hml, hown, hnm, hret, hZ, hlk⟩, hn0, eT, locs, X, N⟩ := X
  obtain ⟨q, cl, A, S, H⟩ := A
  subst hby
  have e1 := own_nat h0
  refine own_st (fun t q => X.iaload hx (by rw [eT]; exact A.1) (State.isArrayOf_alike hZ.alike A.2.1) A.2.2 (own_inb S h0 h1) (H _ (by omega)) (g := mkF m pc ls (.int j :: .ref a :: st)) rfl rfl hd t q) ?_
  show own_G p e below (T.setTop (mkF m (pc + 1) ls (.int (gg (j.toNatClampNeg : Int)) :: st))) Q
  rw [← e1]
  exact g
theorem own_bald (X : own_X p l e R s m args below meth c Z bytes maxL ret y n0 h T k n) (A : own_I Z h a .byte nn gg) (hd : decode bytes pc = .ok (.baload, 1)) {j : Int32} (h0 : 0 ≤ j.toInt) (h1 : j.toInt < nn) (g : own_G p e below (T.setTop (mkF m (pc + 1) ls (.int (gg j.toInt) :: st))) Q) : own_G p e below (T.setTop (mkF m pc ls (.int j :: .ref a :: st))) Q := by
  obtain ⟨⟨hx, hby, hml, hown, hnm, hret, hZ, hlk⟩, hn0, eT, locs, X, N⟩ := X
  obtain ⟨q, cl, A, S, H⟩ := A
  subst hby
  have e1 := own_nat h0
  refine own_st (fun t q => X.baloadBytes hx (by rw [eT]; exact A.1) (State.isArrayOf_alike hZ.alike A.2.1) A.2.2 (own_inb S h0 h1) (H _ (by omega)) (g := mkF m pc ls (.int j :: .ref a :: st)) rfl rfl hd t q) ?_
  show own_G p e below (T.setTop (mkF m (pc + 1) ls (.int (gg (j.toNatClampNeg : Int)) :: st))) Q
  rw [← e1]
  exact g
theorem own_zald (X : own_X p l e R s m args below meth c Z bytes maxL ret y n0 h T k n) (A : own_I Z h a .boolean nn gg) (hd : decode bytes pc = .ok (.baload, 1)) {j : Int32} (h0 : 0 ≤ j.toInt) (h1 : j.toInt < nn) (g : own_G p e below (T.setTop (mkF m (pc + 1) ls (.int (gg j.toInt) :: st))) Q) : own_G p e below (T.setTop (mkF m pc ls (.int j :: .ref a :: st))) Q := by
  obtain ⟨⟨hx, hby, hml, hown, hnm, hret, hZ, hlk⟩, hn0, eT, locs, X, N⟩ := X
  obtain ⟨q, cl, A, S, H⟩ := A
  subst hby
  have e1 := own_nat h0
  refine own_st (fun t q => X.baloadBooleans hx (by rw [eT]; exact A.1) (State.isArrayOf_alike hZ.alike A.2.1) A.2.2 (own_inb S h0 h1) (H _ (by omega)) (g := mkF m pc ls (.int j :: .ref a :: st)) rfl rfl hd t q) ?_
  show own_G p e below (T.setTop (mkF m (pc + 1) ls (.int (gg (j.toNatClampNeg : Int)) :: st))) Q
  rw [← e1]
  exact g
theorem own_iast (X : own_X p l e R s m args below meth c Z bytes maxL ret y n0 h T k n) (A : own_I Z h a .int nn gg) (ha : n0 ≤ a) (hd : decode bytes pc = .ok (.iastore, 1)) {j x : Int32} (h0 : 0 ≤ j.toInt) (h1 : j.toInt < nn)
    (g : ∀ h' T', own_X p l e R s m args below meth c Z bytes maxL ret y n0 h' T' k n → own_I Z h' a .int nn (own_u gg j.toInt x) → Wr h h' a j.toNatClampNeg (.int x) → own_G p e below (T'.setTop (mkF m (pc + 1) ls st)) Q) : own_G p e below (T.setTop (mkF m pc ls (.int x :: .int j :: .ref a :: st))) Q := by
  obtain ⟨M, hn0, eT, locs, X, N⟩ := X
  have M' := M
  obtain ⟨hx, hby, hml, hown, hnm, hret, hZ, hlk⟩ := M'
  have AA := A
  obtain ⟨q, cl, A, S, H⟩ := A
  subst hby
  obtain ⟨T', h', X', e', W', stp⟩ := stI X hx hZ eT A (own_inb S h0 h1) (g := mkF m pc ls (.int x :: .int j :: .ref a :: st)) rfl rfl hd
  exact own_st stp (g h' T' ⟨M, by rw [W'.size]; exact hn0, e', _, X', Fr.snoc X' N ha⟩ (own_I_set AA W' _ (own_nat h0)) W')
theorem own_bast (X : own_X p l e R s m args below meth c Z bytes maxL ret y n0 h T k n) (A : own_I Z h a .byte nn gg) (ha : n0 ≤ a) (hd : decode bytes pc = .ok (.bastore, 1)) {j x : Int32} (h0 : 0 ≤ j.toInt) (h1 : j.toInt < nn) (hx8 : x.toInt8.toInt32 = x)
    (g : ∀ h' T', own_X p l e R s m args below meth c Z bytes maxL ret y n0 h' T' k n → own_I Z h' a .byte nn (own_u gg j.toInt x) → Wr h h' a j.toNatClampNeg (.int x) → own_G p e below (T'.setTop (mkF m (pc + 1) ls st)) Q) : own_G p e below (T.setTop (mkF m pc ls (.int x :: .int j :: .ref a :: st))) Q := by
  obtain ⟨M, hn0, eT, locs, X, N⟩ := X
  have M' := M
  obtain ⟨hx, hby, hml, hown, hnm, hret, hZ, hlk⟩ := M'
  have AA := A
  obtain ⟨q, cl, A, S, H⟩ := A
  subst hby
  obtain ⟨T', h', X', e', W', stp⟩ := stB X hx hZ eT A (own_inb S h0 h1) (g := mkF m pc ls (.int x :: .int j :: .ref a :: st)) rfl rfl hd
  have W2 : Wr h h' a j.toNatClampNeg (.int x) := by have q := W'; simp only [nar, hx8] at q; exact q
  exact own_st stp (g h' T' ⟨M, by rw [W'.size]; exact hn0, e', _, X', Fr.snoc X' N ha⟩ (own_I_set AA W2 _ (own_nat h0)) W2)
theorem own_zast (X : own_X p l e R s m args below meth c Z bytes maxL ret y n0 h T k n) (A : own_I Z h a .boolean nn gg) (ha : n0 ≤ a) (hd : decode bytes pc = .ok (.bastore, 1)) {j x : Int32} (h0 : 0 ≤ j.toInt) (h1 : j.toInt < nn) (hx1 : x &&& 1 = x)
    (g : ∀ h' T', own_X p l e R s m args below meth c Z bytes maxL ret y n0 h' T' k n → own_I Z h' a .boolean nn (own_u gg j.toInt x) → Wr h h' a j.toNatClampNeg (.int x) → own_G p e below (T'.setTop (mkF m (pc + 1) ls st)) Q) : own_G p e below (T.setTop (mkF m pc ls (.int x :: .int j :: .ref a :: st))) Q := by
  obtain ⟨M, hn0, eT, locs, X, N⟩ := X
  have M' := M
  obtain ⟨hx, hby, hml, hown, hnm, hret, hZ, hlk⟩ := M'
  have AA := A
  obtain ⟨q, cl, A, S, H⟩ := A
  subst hby
  obtain ⟨T', h', X', e', W', stp⟩ := stZ X hx hZ eT A (own_inb S h0 h1) (g := mkF m pc ls (.int x :: .int j :: .ref a :: st)) rfl rfl hd
  have W2 : Wr h h' a j.toNatClampNeg (.int x) := by have q := W'; simp only [nar, hx1] at q; exact q
  exact own_st stp (g h' T' ⟨M, by rw [W'.size]; exact hn0, e', _, X', Fr.snoc X' N ha⟩ (own_I_set AA W2 _ (own_nat h0)) W2)
theorem own_jast (X : own_X p l e R s m args below meth c Z bytes maxL ret y n0 h T k n) (A : own_A Z h a .long nn f) (ha : n0 ≤ a) (hd : decode bytes pc = .ok (.lastore, 1)) {j : Int32} {x : Int64} (h0 : 0 ≤ j.toInt) (h1 : j.toInt < nn)
    (g : ∀ h' T', own_X p l e R s m args below meth c Z bytes maxL ret y n0 h' T' k n → own_A Z h' a .long nn (own_u f j.toInt (.long x)) → Wr h h' a j.toNatClampNeg (.long x) → own_G p e below (T'.setTop (mkF m (pc + 1) ls st)) Q) : own_G p e below (T.setTop (mkF m pc ls (.long x :: .int j :: .ref a :: st))) Q := by
  obtain ⟨M, hn0, eT, locs, X, N⟩ := X
  have M' := M
  obtain ⟨hx, hby, hml, hown, hnm, hret, hZ, hlk⟩ := M'
  have AA := A
  obtain ⟨q, cl, A, S, H⟩ := A
  subst hby
  obtain ⟨T', h', X', e', W', stp⟩ := stJ X hx hZ eT A (own_inb S h0 h1) (g := mkF m pc ls (.long x :: .int j :: .ref a :: st)) rfl rfl hd
  exact own_st stp (g h' T' ⟨M, by rw [W'.size]; exact hn0, e', _, X', Fr.snoc X' N ha⟩ (own_A_set AA W' _ (own_nat h0)) W')
theorem own_newP (X : own_X p l e R s m args below meth c Z bytes maxL ret y n0 h T k n) {aty : ArrayType} (w : (Jvm.Cond.arrayClass (newarray.typeOf aty)).before a0 Z = true) (hd : decode bytes pc = .ok (.newarray aty, 2)) {v : Int32} (h0 : 0 ≤ v.toInt) (cap : Nat) (hcap : v.toInt ≤ cap) (hb : cap * 8 ≤ 536870912) (hc : k + 1 ≤ R.cells) (hs : n + cap ≤ R.slots)
    (g : ∀ h' T', own_X p l e R s m args below meth c Z bytes maxL ret y n0 h' T' (k + 1) (n + cap) → Ext h h' → own_A Z h' h.size (newarray.typeOf aty) v.toInt.toNat (fun _ => defaultValue (newarray.typeOf aty)) → own_G p e below (T'.setTop (mkF m (pc + 2) ls (.ref h.size :: st))) Q) : own_G p e below (T.setTop (mkF m pc ls (.int v :: st))) Q := by
  obtain ⟨M, hn0, eT, locs, X, N⟩ := X
  have M' := M
  obtain ⟨hx, hby, hml, hown, hnm, hret, hZ, hlk⟩ := M'
  subst hby
  have e1 := own_nat h0
  obtain ⟨T', h', cA, X', e', E', A', stp⟩ := newP X hx hZ w eT (g := mkF m pc ls (.int v :: st)) rfl hd rfl (own_idx h0) (cap := cap) (by omega) hb hc hs
  exact own_st stp (g h' T' ⟨M, Nat.le_trans hn0 E'.1, e', _, X', N⟩ E' (own_A_new A' h0))
theorem own_newI (X : own_X p l e R s m args below meth c Z bytes maxL ret y n0 h T k n) {aty : ArrayType} (w : (Jvm.Cond.arrayClass (newarray.typeOf aty)).before a0 Z = true) (hdf : defaultValue (newarray.typeOf aty) = .int 0) (hd : decode bytes pc = .ok (.newarray aty, 2)) {v : Int32} (h0 : 0 ≤ v.toInt) (cap : Nat) (hcap : v.toInt ≤ cap) (hb : cap * 8 ≤ 536870912) (hc : k + 1 ≤ R.cells) (hs : n + cap ≤ R.slots)
    (g : ∀ h' T', own_X p l e R s m args below meth c Z bytes maxL ret y n0 h' T' (k + 1) (n + cap) → Ext h h' → own_I Z h' h.size (newarray.typeOf aty) v.toInt.toNat (fun _ => 0) → own_G p e below (T'.setTop (mkF m (pc + 2) ls (.ref h.size :: st))) Q) : own_G p e below (T.setTop (mkF m pc ls (.int v :: st))) Q :=
  own_newP X w hd h0 cap hcap hb hc hs (fun h' T' X' E A => g h' T' X' E (own_A_eq A fun _ _ _ => hdf.symm))
end Arrs2
def own_rf (a : Int32) : Int32 := if 2 ≤ a.toInt ∧ a.toInt ≤ 5 then 1 else 0
abbrev own_y2 : MethodName := ⟨"com/example/deltastripe/deltastripe/BlockUnavailableException", "refuses", "(I)Z"⟩
theorem pl2 : plainFor own_y2 = true := plainFor_of_name (by first | (simp [plainName, overriddenIn]; done) | decide +kernel)
def B2_0_2 : List (Instr × Nat) := [(.iload_n 0, 1), (.iconst 2, 1)]
theorem B2_0_2d : own_d prog_21_method_2_code 0 B2_0_2 2 = true := by decide +kernel
theorem d2_2 : decode prog_21_method_2_code 2 = .ok (.if_icmp .eq 18, 3) := by decide +kernel
def B2_20_21 : List (Instr × Nat) := [(.iconst 1, 1)]
theorem B2_20_21d : own_d prog_21_method_2_code 20 B2_20_21 21 = true := by decide +kernel
theorem d2_21 : decode prog_21_method_2_code 21 = .ok (.goto 4, 3) := by decide +kernel
theorem d2_25 : decode prog_21_method_2_code 25 = .ok (.ireturn, 1) := by decide +kernel
def B2_5_7 : List (Instr × Nat) := [(.iload_n 0, 1), (.iconst 3, 1)]
theorem B2_5_7d : own_d prog_21_method_2_code 5 B2_5_7 7 = true := by decide +kernel
theorem d2_7 : decode prog_21_method_2_code 7 = .ok (.if_icmp .eq 13, 3) := by decide +kernel
def B2_10_12 : List (Instr × Nat) := [(.iload_n 0, 1), (.iconst 4, 1)]
theorem B2_10_12d : own_d prog_21_method_2_code 10 B2_10_12 12 = true := by decide +kernel
theorem d2_12 : decode prog_21_method_2_code 12 = .ok (.if_icmp .eq 8, 3) := by decide +kernel
def B2_15_17 : List (Instr × Nat) := [(.iload_n 0, 1), (.iconst 5, 1)]
theorem B2_15_17d : own_d prog_21_method_2_code 15 B2_15_17 17 = true := by decide +kernel
theorem d2_17 : decode prog_21_method_2_code 17 = .ok (.if_icmp .ne 7, 3) := by decide +kernel
def B2_24_25 : List (Instr × Nat) := [(.iconst 0, 1)]
theorem B2_24_25d : own_d prog_21_method_2_code 24 B2_24_25 25 = true := by decide +kernel
set_option maxRecDepth 65536 in
set_option maxHeartbeats 40000000 in
theorem c_refuses (l : Launch) (Z : State) (a0 : Array Value) (hw : ∀ d ∈ tables_1, d.before a0 Z = true) (a : Int32) (h0 : Heap) (n0 : Nat) (Z0 : n0 ≤ h0.size)  :
    own_C l Z own_y2 prog_21_method_2_code 1 (some .boolean) ({ frames := 0, cells := 0, slots := 0, locals := 0 } : Room) #[(.int a)] h0 n0 (fun v h => v = some (.int (own_rf a)) ∧ h = h0) := by
  refine own_body pl2 Z0 (ls := #[.val (.int a)]) (fun m => by first | (simp [entryFrame, mkF, argsToLocals, Value.category]; done) | rfl) ?_
  intro p e s m below meth c T0 X0
  refine own_blk X0 B2_0_2 B2_0_2d (ls' := #[.val (.int a)]) (st' := [(.int (2 : Int32)), (.int a)]) rfl ?_
  refine own_icmp X0 d2_2 (pc' := 20) (by decide) (fun c2 => ?_) (fun c2 => ?_)
  · have c2 : a.toInt = 2 := c2
    refine own_blk X0 B2_20_21 B2_20_21d (ls' := #[.val (.int a)]) (st' := [(.int (1 : Int32))]) rfl ?_
    refine own_goto X0 d2_21 (pc' := 25) (by decide) ?_
    exact own_retN X0 (by simp) d2_25 (v' := (1 : Int32)) (rfl) (by decide) (by decide) (⟨by rw [own_rf, if_pos (by omega)], rfl⟩)
  · have c2 : ¬ (a.toInt = 2) := c2
    refine own_blk X0 B2_5_7 B2_5_7d (ls' := #[.val (.int a)]) (st' := [(.int (3 : Int32)), (.int a)]) rfl ?_
    refine own_icmp X0 d2_7 (pc' := 20) (by decide) (fun c7 => ?_) (fun c7 => ?_)
    · have c7 : a.toInt = 3 := c7
      refine own_blk X0 B2_20_21 B2_20_21d (ls' := #[.val (.int a)]) (st' := [(.int (1 : Int32))]) rfl ?_
      refine own_goto X0 d2_21 (pc' := 25) (by decide) ?_
      exact own_retN X0 (by simp) d2_25 (v' := (1 : Int32)) (rfl) (by decide) (by decide) (⟨by rw [own_rf, if_pos (by omega)], rfl⟩)
    · have c7 : ¬ (a.toInt = 3) := c7
      refine own_blk X0 B2_10_12 B2_10_12d (ls' := #[.val (.int a)]) (st' := [(.int (4 : Int32)), (.int a)]) rfl ?_
      refine own_icmp X0 d2_12 (pc' := 20) (by decide) (fun c12 => ?_) (fun c12 => ?_)
      · have c12 : a.toInt = 4 := c12
        refine own_blk X0 B2_20_21 B2_20_21d (ls' := #[.val (.int a)]) (st' := [(.int (1 : Int32))]) rfl ?_
        refine own_goto X0 d2_21 (pc' := 25) (by decide) ?_
        exact own_retN X0 (by simp) d2_25 (v' := (1 : Int32)) (rfl) (by decide) (by decide) (⟨by rw [own_rf, if_pos (by omega)], rfl⟩)
      · have c12 : ¬ (a.toInt = 4) := c12
        refine own_blk X0 B2_15_17 B2_15_17d (ls' := #[.val (.int a)]) (st' := [(.int (5 : Int32)), (.int a)]) rfl ?_
        refine own_icmp X0 d2_17 (pc' := 24) (by decide) (fun c17 => ?_) (fun c17 => ?_)
        · have c17 : ¬ a.toInt = 5 := c17
          refine own_blk X0 B2_24_25 B2_24_25d (ls' := #[.val (.int a)]) (st' := [(.int (0 : Int32))]) rfl ?_
          exact own_retN X0 (by simp) d2_25 (v' := (0 : Int32)) (rfl) (by decide) (by decide) (⟨by rw [own_rf, if_neg (by omega)], rfl⟩)
        · have c17 : ¬ (¬ a.toInt = 5) := c17
          refine own_blk X0 B2_20_21 B2_20_21d (ls' := #[.val (.int a)]) (st' := [(.int (1 : Int32))]) rfl ?_
          refine own_goto X0 d2_21 (pc' := 25) (by decide) ?_
          exact own_retN X0 (by simp) d2_25 (v' := (1 : Int32)) (rfl) (by decide) (by decide) (⟨by rw [own_rf, if_pos (by omega)], rfl⟩)
abbrev own_y1 : MethodName := ⟨"com/example/deltastripe/deltastripe/BlockUnavailableExceptionRefusesPinLaw", "agrees", "(I)Z"⟩
theorem pl1 : plainFor own_y1 = true := plainFor_of_name (by first | (simp [plainName, overriddenIn]; done) | decide +kernel)
def B1_0_2 : List (Instr × Nat) := [(.iload_n 0, 1), (.iconst 2, 1)]
theorem B1_0_2d : own_d method_3_code 0 B1_0_2 2 = true := by decide +kernel
theorem d1_2 : decode method_3_code 2 = .ok (.if_icmp .lt 12, 3) := by decide +kernel
def B1_14_17 : List (Instr × Nat) := [(.iconst 0, 1), (.istore_n 1, 1), (.iload_n 0, 1)]
theorem B1_14_17d : own_d method_3_code 14 B1_14_17 17 = true := by decide +kernel
theorem d1_17 : decode method_3_code 17 = .ok (.invokestatic 13, 3) := by decide +kernel
theorem pd2 : parseMethodDescriptor "(I)Z" = some ⟨[.int], some .boolean⟩ := by decide +kernel
def B1_20_21 : List (Instr × Nat) := [(.iload_n 1, 1)]
theorem B1_20_21d : own_d method_3_code 20 B1_20_21 21 = true := by decide +kernel
theorem d1_21 : decode method_3_code 21 = .ok (.if_icmp .ne 7, 3) := by decide +kernel
def B1_24_25 : List (Instr × Nat) := [(.iconst 1, 1)]
theorem B1_24_25d : own_d method_3_code 24 B1_24_25 25 = true := by decide +kernel
theorem d1_25 : decode method_3_code 25 = .ok (.goto 4, 3) := by decide +kernel
theorem d1_29 : decode method_3_code 29 = .ok (.ireturn, 1) := by decide +kernel
def B1_5_7 : List (Instr × Nat) := [(.iload_n 0, 1), (.iconst 5, 1)]
theorem B1_5_7d : own_d method_3_code 5 B1_5_7 7 = true := by decide +kernel
theorem d1_7 : decode method_3_code 7 = .ok (.if_icmp .gt 7, 3) := by decide +kernel
def B1_10_11 : List (Instr × Nat) := [(.iconst 1, 1)]
theorem B1_10_11d : own_d method_3_code 10 B1_10_11 11 = true := by decide +kernel
theorem d1_11 : decode method_3_code 11 = .ok (.goto 4, 3) := by decide +kernel
def B1_15_17 : List (Instr × Nat) := [(.istore_n 1, 1), (.iload_n 0, 1)]
theorem B1_15_17d : own_d method_3_code 15 B1_15_17 17 = true := by decide +kernel
set_option maxRecDepth 65536 in
set_option maxHeartbeats 40000000 in
theorem c_agrees (l : Launch) (Z : State) (a0 : Array Value) (hw : ∀ d ∈ tables_1, d.before a0 Z = true) (a : Int32) (h0 : Heap) (n0 : Nat) (Z0 : n0 ≤ h0.size)  :
    own_C l Z own_y1 method_3_code 2 (some .boolean) ({ frames := 1, cells := 0, slots := 0, locals := 12 } : Room) #[(.int a)] h0 n0 (fun v h => v = some (.int 1) ∧ h = h0) := by
  refine own_body pl1 Z0 (ls := #[.val (.int a), .unset]) (fun m => by first | (simp [entryFrame, mkF, argsToLocals, Value.category]; done) | rfl) ?_
  intro p e s m below meth c T0 X0
  refine own_blk X0 B1_0_2 B1_0_2d (ls' := #[.val (.int a), .unset]) (st' := [(.int (2 : Int32)), (.int a)]) rfl ?_
  refine own_icmp X0 d1_2 (pc' := 14) (by decide) (fun c2 => ?_) (fun c2 => ?_)
  · have c2 : a.toInt < 2 := c2
    refine own_blk X0 B1_14_17 B1_14_17d (ls' := #[.val (.int a), .val (.int (0 : Int32))]) (st' := [(.int a)]) rfl ?_
    refine own_callP X0 (hw _ (List.mem_of_getElem? (i := 4) rfl)) (hw _ (List.mem_of_getElem? (i := 5) rfl)) (hw _ (List.mem_of_getElem? (i := 6) rfl)) (hw _ (List.mem_of_getElem? (i := 7) rfl)) (by decide) (c_refuses l Z a0 hw a h0 n0 X0.2.1) d1_17 [(.int a)] [] rfl rfl pd2 rfl rfl (by decide) (Nat.le_of_ble_eq_true rfl) (by decide) (by decide) (fun T1 X1 => ?_)
    show own_G p e below (T1.setTop (mkF m 20 #[.val (.int a), .val (.int (0 : Int32))] [(.int (own_rf a))])) _
    refine own_blk X1 B1_20_21 B1_20_21d (ls' := #[.val (.int a), .val (.int (0 : Int32))]) (st' := [(.int (0 : Int32)), (.int (own_rf a))]) rfl ?_
    refine own_icmp X1 d1_21 (pc' := 28) (by decide) (fun (c21 : ¬ (own_rf a).toInt = 0) => by exfalso; unfold own_rf at c21; split at c21 <;> simp at c21 <;> omega) (fun c21 => ?_)
    have c21 : ¬ (¬ (own_rf a).toInt = 0) := c21
    refine own_blk X1 B1_24_25 B1_24_25d (ls' := #[.val (.int a), .val (.int (0 : Int32))]) (st' := [(.int (1 : Int32))]) rfl ?_
    refine own_goto X1 d1_25 (pc' := 29) (by decide) ?_
    exact own_retN X1 (by simp) d1_29 (v' := (1 : Int32)) (rfl) (by decide) (by decide) (⟨rfl, rfl⟩)
  · have c2 : ¬ (a.toInt < 2) := c2
    refine own_blk X0 B1_5_7 B1_5_7d (ls' := #[.val (.int a), .unset]) (st' := [(.int (5 : Int32)), (.int a)]) rfl ?_
    refine own_icmp X0 d1_7 (pc' := 14) (by decide) (fun c7 => ?_) (fun c7 => ?_)
    · have c7 : 5 < a.toInt := c7
      refine own_blk X0 B1_14_17 B1_14_17d (ls' := #[.val (.int a), .val (.int (0 : Int32))]) (st' := [(.int a)]) rfl ?_
      refine own_callP X0 (hw _ (List.mem_of_getElem? (i := 4) rfl)) (hw _ (List.mem_of_getElem? (i := 5) rfl)) (hw _ (List.mem_of_getElem? (i := 6) rfl)) (hw _ (List.mem_of_getElem? (i := 7) rfl)) (by decide) (c_refuses l Z a0 hw a h0 n0 X0.2.1) d1_17 [(.int a)] [] rfl rfl pd2 rfl rfl (by decide) (Nat.le_of_ble_eq_true rfl) (by decide) (by decide) (fun T2 X2 => ?_)
      show own_G p e below (T2.setTop (mkF m 20 #[.val (.int a), .val (.int (0 : Int32))] [(.int (own_rf a))])) _
      refine own_blk X2 B1_20_21 B1_20_21d (ls' := #[.val (.int a), .val (.int (0 : Int32))]) (st' := [(.int (0 : Int32)), (.int (own_rf a))]) rfl ?_
      refine own_icmp X2 d1_21 (pc' := 28) (by decide) (fun (c21 : ¬ (own_rf a).toInt = 0) => by exfalso; unfold own_rf at c21; split at c21 <;> simp at c21 <;> omega) (fun c21 => ?_)
      have c21 : ¬ (¬ (own_rf a).toInt = 0) := c21
      refine own_blk X2 B1_24_25 B1_24_25d (ls' := #[.val (.int a), .val (.int (0 : Int32))]) (st' := [(.int (1 : Int32))]) rfl ?_
      refine own_goto X2 d1_25 (pc' := 29) (by decide) ?_
      exact own_retN X2 (by simp) d1_29 (v' := (1 : Int32)) (rfl) (by decide) (by decide) (⟨rfl, rfl⟩)
    · have c7 : ¬ (5 < a.toInt) := c7
      refine own_blk X0 B1_10_11 B1_10_11d (ls' := #[.val (.int a), .unset]) (st' := [(.int (1 : Int32))]) rfl ?_
      refine own_goto X0 d1_11 (pc' := 15) (by decide) ?_
      refine own_blk X0 B1_15_17 B1_15_17d (ls' := #[.val (.int a), .val (.int (1 : Int32))]) (st' := [(.int a)]) rfl ?_
      refine own_callP X0 (hw _ (List.mem_of_getElem? (i := 4) rfl)) (hw _ (List.mem_of_getElem? (i := 5) rfl)) (hw _ (List.mem_of_getElem? (i := 6) rfl)) (hw _ (List.mem_of_getElem? (i := 7) rfl)) (by decide) (c_refuses l Z a0 hw a h0 n0 X0.2.1) d1_17 [(.int a)] [] rfl rfl pd2 rfl rfl (by decide) (Nat.le_of_ble_eq_true rfl) (by decide) (by decide) (fun T3 X3 => ?_)
      show own_G p e below (T3.setTop (mkF m 20 #[.val (.int a), .val (.int (1 : Int32))] [(.int (own_rf a))])) _
      refine own_blk X3 B1_20_21 B1_20_21d (ls' := #[.val (.int a), .val (.int (1 : Int32))]) (st' := [(.int (1 : Int32)), (.int (own_rf a))]) rfl ?_
      refine own_icmp X3 d1_21 (pc' := 28) (by decide) (fun (c21 : ¬ (own_rf a).toInt = 1) => by exfalso; unfold own_rf at c21; split at c21 <;> simp at c21 <;> omega) (fun c21 => ?_)
      have c21 : ¬ (¬ (own_rf a).toInt = 1) := c21
      refine own_blk X3 B1_24_25 B1_24_25d (ls' := #[.val (.int a), .val (.int (1 : Int32))]) (st' := [(.int (1 : Int32))]) rfl ?_
      refine own_goto X3 d1_25 (pc' := 29) (by decide) ?_
      exact own_retN X3 (by simp) d1_29 (v' := (1 : Int32)) (rfl) (by decide) (by decide) (⟨rfl, rfl⟩)
theorem pl0 : plainFor x = true := plainFor_of_name (by first | (simp [plainName, overriddenIn]; done) | decide +kernel)
def B0_0_8 : List (Instr × Nat) := [(.iload_n 1, 1), (.bipush 7, 2), (.iand, 1), (.iconst 1, 1), (.isub, 1), (.istore_n 2, 1), (.iload_n 0, 1)]
theorem B0_0_8d : own_d code 0 B0_0_8 8 = true := by decide +kernel
theorem d0_8 : decode code 8 = .ok (.invokestatic 7, 3) := by decide +kernel
theorem pd1 : parseMethodDescriptor "(I)Z" = some ⟨[.int], some .boolean⟩ := by decide +kernel
theorem d0_11 : decode code 11 = .ok (.ifCond .eq 14, 3) := by decide +kernel
def B0_14_15 : List (Instr × Nat) := [(.iload_n 2, 1)]
theorem B0_14_15d : own_d code 14 B0_14_15 15 = true := by decide +kernel
theorem d0_15 : decode code 15 = .ok (.invokestatic 7, 3) := by decide +kernel
theorem d0_18 : decode code 18 = .ok (.ifCond .eq 7, 3) := by decide +kernel
def B0_21_22 : List (Instr × Nat) := [(.iconst 1, 1)]
theorem B0_21_22d : own_d code 21 B0_21_22 22 = true := by decide +kernel
theorem d0_22 : decode code 22 = .ok (.goto 4, 3) := by decide +kernel
theorem d0_26 : decode code 26 = .ok (.ireturn, 1) := by decide +kernel
set_option maxRecDepth 65536 in
set_option maxHeartbeats 40000000 in
theorem c_law (l : Launch) (Z : State) (a0 : Array Value) (hw : ∀ d ∈ tables_1, d.before a0 Z = true) (a : Int32) (b : Int32) (h0 : Heap) (n0 : Nat) (Z0 : n0 ≤ h0.size)  :
    own_C l Z x code maxLocals ret room_1 #[(.int a), (.int b)] h0 n0 (fun v h => v = some (.int 1)) := by
  refine own_body pl0 Z0 (ls := #[.val (.int a), .val (.int b), .unset]) (fun m => by first | (simp [entryFrame, mkF, argsToLocals, Value.category, maxLocals]; done) | rfl) ?_
  intro p e s m below meth c T0 X0
  refine own_blk X0 B0_0_8 B0_0_8d (ls' := #[.val (.int a), .val (.int b), .val (.int ((b &&& (7 : Int32)) - (1 : Int32)))]) (st' := [(.int a)]) rfl ?_
  refine own_callP X0 (hw _ (List.mem_of_getElem? (i := 0) rfl)) (hw _ (List.mem_of_getElem? (i := 1) rfl)) (hw _ (List.mem_of_getElem? (i := 2) rfl)) (hw _ (List.mem_of_getElem? (i := 3) rfl)) (by decide) (c_agrees l Z a0 hw a h0 n0 X0.2.1) d0_8 [(.int a)] [] rfl rfl pd1 rfl rfl (by decide) (Nat.le_of_ble_eq_true rfl) (by decide) (by decide) (fun T1 X1 => ?_)
  show own_G p e below (T1.setTop (mkF m 11 #[.val (.int a), .val (.int b), .val (.int ((b &&& (7 : Int32)) - (1 : Int32)))] [(.int (1 : Int32))])) _
  refine own_if X1 d0_11 (pc' := 25) (by decide) (fun (c11 : (1 : Int) = 0) => by exfalso; omega) (fun c11 => ?_)
  have c11 : ¬ ((1 : Int) = 0) := c11
  refine own_blk X1 B0_14_15 B0_14_15d (ls' := #[.val (.int a), .val (.int b), .val (.int ((b &&& (7 : Int32)) - (1 : Int32)))]) (st' := [(.int ((b &&& (7 : Int32)) - (1 : Int32)))]) rfl ?_
  refine own_callP X1 (hw _ (List.mem_of_getElem? (i := 0) rfl)) (hw _ (List.mem_of_getElem? (i := 1) rfl)) (hw _ (List.mem_of_getElem? (i := 2) rfl)) (hw _ (List.mem_of_getElem? (i := 3) rfl)) (by decide) (c_agrees l Z a0 hw ((b &&& (7 : Int32)) - (1 : Int32)) h0 n0 X1.2.1) d0_15 [(.int ((b &&& (7 : Int32)) - (1 : Int32)))] [] rfl rfl pd1 rfl rfl (by decide) (Nat.le_of_ble_eq_true rfl) (by decide) (by decide) (fun T2 X2 => ?_)
  show own_G p e below (T2.setTop (mkF m 18 #[.val (.int a), .val (.int b), .val (.int ((b &&& (7 : Int32)) - (1 : Int32)))] [(.int (1 : Int32))])) _
  refine own_if X2 d0_18 (pc' := 25) (by decide) (fun (c18 : (1 : Int) = 0) => by exfalso; omega) (fun c18 => ?_)
  have c18 : ¬ ((1 : Int) = 0) := c18
  refine own_blk X2 B0_21_22 B0_21_22d (ls' := #[.val (.int a), .val (.int b), .val (.int ((b &&& (7 : Int32)) - (1 : Int32)))]) (st' := [(.int (1 : Int32))]) rfl ?_
  refine own_goto X2 d0_22 (pc' := 26) (by decide) ?_
  exact own_retN X2 (by simp) d0_26 (v' := (1 : Int32)) (rfl) (by decide) (by decide) (rfl)
set_option maxRecDepth 65536 in
set_option maxHeartbeats 40000000 in
theorem comes_1 {Post : Tables → Env → Array Value → State → Outcome → State → Prop} (hpost : ∀ tb e args s v u, (limb_1_1.after args s (.returned v) u = true ∧ limb_1_2.after args s (.returned v) u = true ∧ True) → FrameEnd s (.returned v) u (Jvm.fieldLocs frame_1_writes args s ++ Jvm.arrayLocs frame_1_arrays args s ++ Jvm.staticLocs frame_1_statics s) 0 0 → Post tb e args s (.returned v) u) :
    ArmFor flags0 classFile x code maxLocals ret World_1 tables_1 room_1 Calls_1 rest_1 Pre_1 Post := by
  intro l hfl _ _ p e ha hc hk s m args below hf hA hF happ hP
  obtain ⟨hcalls, hrest, hpre⟩ := hP
  obtain ⟨-, -, -, hnamed, -, -, -, hat⟩ := (Spec.applies_iff hf).mp happ
  obtain ⟨hg, hn⟩ := and_e (Cond.before_iff.mp (show (Jvm.Cond.and given_1 narrow_1).before args s = true from hpre))
  obtain ⟨gc, g0⟩ := and_e hg
  obtain ⟨q0, g1⟩ := and_e g0
  obtain ⟨w0, w1, rfl⟩ : ∃ w0 w1 : Value, args = #[w0, w1] := by
    have hs : args.size = 2 := by simpa [Cond.value, given_1] using gc
    obtain ⟨L⟩ := args
    match L, hs with
    | [w0, w1], _ => exact ⟨w0, w1, rfl⟩
  have hw := fun d (hd : d ∈ tables_1) => atoms_spec (ws := Jvm.Cond.code x code maxLocals ret :: tables_1) hat d (List.mem_cons_of_mem _ hd)
  obtain ⟨i0, ei0⟩ := is_v q0
  obtain rfl : w0 = (.int i0) := Option.some.inj ei0
  obtain ⟨i1, ei1⟩ := is_v g1
  obtain rfl : w1 = (.int i1) := Option.some.inj ei1
  obtain ⟨n, o, h1, h2, h3, _, L, rfl, ⟨N, rfl⟩, hq⟩ := c_law l s _ hw i0 i1 s.heap s.heap.size (Nat.le_refl _) tables_1 p e ha hc hk s m _ below hf ((Spec.applies_iff_loose hf).mp happ).1 ⟨rfl, State.Warmed39.refl s, rfl⟩ trivial
  refine ⟨n, _, h1, h2, h3, hpost _ _ _ _ _ _ ⟨Cond.after_iff.mpr rfl, Cond.after_iff.mpr (eq_i res_at (Term.int_eval (1)) rfl), trivial⟩ ⟨hq.1, hq.2.1, (hq.2.2.sift fun y hy => Or.inr (N y hy)).mono (by decide) (by decide)⟩⟩
theorem main_1_1 : Claimed_1_1 := comes_1 fun _ _ _ _ _ _ h hF => ⟨h.1, hF⟩
theorem main_1_2 : Claimed_1_2 := comes_1 fun _ _ _ _ _ _ h hF => ⟨h.2.1, hF⟩
end Jvm.Pilot.@@N@@
namespace Jvm.Pilot.@@N@@
open Jvm Jvm.ClassFile Sem Op Lib Jvm.Free Jvm.Stand Jvm.Pilot.@@N@@.Jvm.D
/-! MADE BY PROGRAM (witnessworld.py) out of the Statement's table words and the real class files: 12 classes; the members and pool entries that the words name. The judged class is class 1, her method 1. -/
namespace start1
open Jvm.ClassFile
def u (s : String) : CpInfo := .utf8 (stringToUtf16 s)
/-- a pool by its gaps: so many unusable entries, then the entry; so many at the end -/
def gap : Nat → List CpInfo → List CpInfo
  | 0, r => r
  | n + 1, r => .unusable :: gap n r
def poolList (es : List (Nat × CpInfo)) (last : Nat) : List CpInfo := es.foldr (fun e r => gap e.1 (e.2 :: r)) (gap last [])
def pool (es : List (Nat × CpInfo)) (last : Nat) : Array CpInfo := ⟨poolList es last⟩
def fileOf (pool : Array CpInfo) (this : Nat) (attrs : Array Attribute := #[]) (ms : Array MethodInfo := #[]) (fl : Nat := 33) (sup : Nat := 0) (ifs : Array Nat := #[]) (fds : Array FieldInfo := #[]) : ClassFile where
  minorVersion := 0
  majorVersion := 65
  constantPool := pool
  accessFlags := fl
  thisClass := this
  superClass := sup
  interfaces := ifs
  fields := fds
  methods := ms
  attributes := attrs
def plain (name : String) (sup : Option ClassId) : Class where
  name := name
  kind := .ordinary
  loader := none
  accessFlags := 33
  super := sup
  interfaces := #[]
  cf := none
  fields := #[]
  methods := #[]
  instanceTypes := #[]
  staticTypes := #[]
  resolved := #[]
  callSites := []
  init := .initialized
  statics := none
  mirror := none

def pool0 : Array CpInfo := pool [(5, u "<init>"), (0, u "()V"), (1, .class_ 10), (1, u "java/lang/Object")] 113

def k0m0 : Method := { name := "<init>", desc := "()V", sig := { parameters := [], returnType := none }, accessFlags := 1, code := none }
/-- java/lang/Object -/
def k0 : Class := { plain "java/lang/Object" none with
  accessFlags := 33
  interfaces := #[]
  cf := some (fileOf pool0 8 #[] #[{ accessFlags := 1, nameIndex := 5, descriptorIndex := 6, attributes := #[] }] 33 0 #[] #[])
  fields := #[]
  methods := #[k0m0]
  instanceTypes := #[]
  staticTypes := #[]
  resolved := Array.replicate 124 none
  statics := none }

def pool1 : Array CpInfo := pool [(2, .class_ 4), (1, u "java/lang/Object"), (0, u "<init>"), (0, u "()V"), (0, .methodref 8 9), (0, .class_ 10), (0, .nameAndType 11 12), (0, u "com/example/deltastripe/deltastripe/BlockUnavailableExceptionRefusesPinLaw"), (0, u "agrees"), (0, u "(I)Z"), (0, .methodref 14 15), (0, .class_ 16), (0, .nameAndType 17 12), (0, u "com/example/deltastripe/deltastripe/BlockUnavailableException"), (0, u "refuses"), (2, u "law"), (0, u "(II)Z")] 3

def k1m0 : Method := { name := "<init>", desc := "()V", sig := { parameters := [], returnType := none }, accessFlags := 1, code := none }
def k1c1 : Code := { maxStack := 2, maxLocals := 3, code := code, exceptionTable := #[], attributes := #[] }
def k1m1 : Method := { name := "law", desc := "(II)Z", sig := { parameters := [.int, .int], returnType := some .boolean }, accessFlags := 9, code := some k1c1 }
def k1c2 : Code := { maxStack := 2, maxLocals := 2, code := method_3_code, exceptionTable := #[], attributes := #[] }
def k1m2 : Method := { name := "agrees", desc := "(I)Z", sig := { parameters := [.int], returnType := some .boolean }, accessFlags := 10, code := some k1c2 }
/-- com/example/deltastripe/deltastripe/BlockUnavailableExceptionRefusesPinLaw -/
def k1 : Class := { plain "com/example/deltastripe/deltastripe/BlockUnavailableExceptionRefusesPinLaw" (some 0) with
  accessFlags := 49
  interfaces := #[]
  cf := some (fileOf pool1 8 #[] #[{ accessFlags := 1, nameIndex := 5, descriptorIndex := 6, attributes := #[] }, { accessFlags := 9, nameIndex := 20, descriptorIndex := 21, attributes := #[] }, { accessFlags := 10, nameIndex := 11, descriptorIndex := 12, attributes := #[] }] 49 2 #[] #[])
  fields := #[]
  methods := #[k1m0, k1m1, k1m2]
  instanceTypes := #[]
  staticTypes := #[]
  resolved := Array.replicate 25 none
  statics := none }

def pool2 : Array CpInfo := pool [(1, .class_ 2), (0, u "java/io/Serializable"), (0, .class_ 4), (0, u "java/lang/Object")] 2

/-- java/io/Serializable -/
def k2 : Class := { plain "java/io/Serializable" (some 0) with
  accessFlags := 1537
  interfaces := #[]
  cf := some (fileOf pool2 1 #[] #[] 1537 3 #[] #[])
  fields := #[]
  methods := #[]
  instanceTypes := #[]
  staticTypes := #[]
  resolved := Array.replicate 7 none
  statics := none }

def pool3 : Array CpInfo := pool [(2, .class_ 4), (1, u "java/lang/Object"), (0, u "<init>"), (0, u "()V"), (1, .class_ 10), (1, u "java/lang/Throwable"), (0, u "cause"), (0, u "Ljava/lang/Throwable;"), (2, u "UNASSIGNED_STACK"), (0, u "[Ljava/lang/StackTraceElement;"), (2, u "stackTrace"), (2, u "SUPPRESSED_SENTINEL"), (0, u "Ljava/util/List;"), (2, u "suppressedExceptions"), (6, u "detailMessage"), (0, u "Ljava/lang/String;"), (58, .class_ 94), (0, u "java/lang/Throwable$WrappedPrintStream"), (6, .class_ 103), (1, u "java/lang/Throwable$PrintStreamOrWriter"), (61, u "$assertionsDisabled"), (0, u "Z"), (26, .class_ 194), (0, u "java/lang/Throwable$WrappedPrintWriter"), (5, u "backtrace"), (0, u "Ljava/lang/Object;"), (9, u "depth"), (0, u "I"), (56, .class_ 271), (1, u "java/lang/Throwable$SentinelHolder"), (32, u "EMPTY_THROWABLE_ARRAY"), (0, u "[Ljava/lang/Throwable;"), (12, .class_ 319), (0, u "java/io/Serializable"), (0, u "serialVersionUID"), (0, u "J"), (5, u "NULL_CAUSE_MESSAGE"), (0, u "SELF_SUPPRESSION_MESSAGE"), (0, u "CAUSE_CAPTION"), (0, u "SUPPRESSED_CAPTION")] 73

def k3m0 : Method := { name := "<init>", desc := "()V", sig := { parameters := [], returnType := none }, accessFlags := 1, code := none }
/-- java/lang/Throwable -/
def k3 : Class := { plain "java/lang/Throwable" (some 0) with
  accessFlags := 33
  interfaces := #[2]
  cf := some (fileOf pool3 8 #[.nestMembers #[193, 93, 101, 269]] #[{ accessFlags := 1, nameIndex := 5, descriptorIndex := 6, attributes := #[] }] 33 2 #[318] #[{ accessFlags := 26, nameIndex := 320, descriptorIndex := 321, attributes := #[] }, { accessFlags := 130, nameIndex := 200, descriptorIndex := 201, attributes := #[] }, { accessFlags := 2, nameIndex := 33, descriptorIndex := 34, attributes := #[] }, { accessFlags := 26, nameIndex := 15, descriptorIndex := 16, attributes := #[] }, { accessFlags := 2, nameIndex := 11, descriptorIndex := 12, attributes := #[] }, { accessFlags := 2, nameIndex := 19, descriptorIndex := 16, attributes := #[] }, { accessFlags := 130, nameIndex := 211, descriptorIndex := 212, attributes := #[] }, { accessFlags := 26, nameIndex := 22, descriptorIndex := 23, attributes := #[] }, { accessFlags := 2, nameIndex := 26, descriptorIndex := 23, attributes := #[] }, { accessFlags := 26, nameIndex := 327, descriptorIndex := 34, attributes := #[] }, { accessFlags := 26, nameIndex := 328, descriptorIndex := 34, attributes := #[] }, { accessFlags := 26, nameIndex := 329, descriptorIndex := 34, attributes := #[] }, { accessFlags := 26, nameIndex := 330, descriptorIndex := 34, attributes := #[] }, { accessFlags := 26, nameIndex := 304, descriptorIndex := 305, attributes := #[] }, { accessFlags := 4120, nameIndex := 165, descriptorIndex := 166, attributes := #[] }])
  fields := #[{ name := "serialVersionUID", type := .long, accessFlags := 26, slot := 0, constantValue := 0 }, { name := "backtrace", type := (.object "java/lang/Object"), accessFlags := 130, slot := 0, constantValue := 0 }, { name := "detailMessage", type := (.object "java/lang/String"), accessFlags := 2, slot := 1, constantValue := 0 }, { name := "UNASSIGNED_STACK", type := (.array (.object "java/lang/StackTraceElement")), accessFlags := 26, slot := 1, constantValue := 0 }, { name := "cause", type := (.object "java/lang/Throwable"), accessFlags := 2, slot := 2, constantValue := 0 }, { name := "stackTrace", type := (.array (.object "java/lang/StackTraceElement")), accessFlags := 2, slot := 3, constantValue := 0 }, { name := "depth", type := .int, accessFlags := 130, slot := 4, constantValue := 0 }, { name := "SUPPRESSED_SENTINEL", type := (.object "java/util/List"), accessFlags := 26, slot := 2, constantValue := 0 }, { name := "suppressedExceptions", type := (.object "java/util/List"), accessFlags := 2, slot := 5, constantValue := 0 }, { name := "NULL_CAUSE_MESSAGE", type := (.object "java/lang/String"), accessFlags := 26, slot := 3, constantValue := 0 }, { name := "SELF_SUPPRESSION_MESSAGE", type := (.object "java/lang/String"), accessFlags := 26, slot := 4, constantValue := 0 }, { name := "CAUSE_CAPTION", type := (.object "java/lang/String"), accessFlags := 26, slot := 5, constantValue := 0 }, { name := "SUPPRESSED_CAPTION", type := (.object "java/lang/String"), accessFlags := 26, slot := 6, constantValue := 0 }, { name := "EMPTY_THROWABLE_ARRAY", type := (.array (.object "java/lang/Throwable")), accessFlags := 26, slot := 7, constantValue := 0 }, { name := "$assertionsDisabled", type := .boolean, accessFlags := 4120, slot := 8, constantValue := 0 }]
  methods := #[k3m0]
  instanceTypes := #[(.object "java/lang/Object"), (.object "java/lang/String"), (.object "java/lang/Throwable"), (.array (.object "java/lang/StackTraceElement")), .int, (.object "java/util/List")]
  staticTypes := #[.long, (.array (.object "java/lang/StackTraceElement")), (.object "java/util/List"), (.object "java/lang/String"), (.object "java/lang/String"), (.object "java/lang/String"), (.object "java/lang/String"), (.array (.object "java/lang/Throwable")), .boolean]
  resolved := Array.replicate 404 none
  statics := none }

def pool4 : Array CpInfo := pool [(2, .class_ 4), (1, u "java/lang/Throwable"), (0, u "<init>"), (0, u "()V"), (12, .class_ 20), (0, u "java/lang/Exception"), (0, u "serialVersionUID"), (0, u "J")] 17

def k4m0 : Method := { name := "<init>", desc := "()V", sig := { parameters := [], returnType := none }, accessFlags := 1, code := none }
/-- java/lang/Exception -/
def k4 : Class := { plain "java/lang/Exception" (some 3) with
  accessFlags := 33
  interfaces := #[]
  cf := some (fileOf pool4 19 #[] #[{ accessFlags := 1, nameIndex := 5, descriptorIndex := 6, attributes := #[] }] 33 2 #[] #[{ accessFlags := 24, nameIndex := 21, descriptorIndex := 22, attributes := #[] }])
  fields := #[{ name := "serialVersionUID", type := .long, accessFlags := 24, slot := 0, constantValue := 0 }]
  methods := #[k4m0]
  instanceTypes := #[(.object "java/lang/Object"), (.object "java/lang/String"), (.object "java/lang/Throwable"), (.array (.object "java/lang/StackTraceElement")), .int, (.object "java/util/List")]
  staticTypes := #[.long]
  resolved := Array.replicate 40 none
  statics := none }

def pool5 : Array CpInfo := pool [(2, .class_ 4), (1, u "java/lang/Exception"), (0, u "<init>"), (0, u "()V"), (9, .class_ 17), (0, u "java/io/IOException"), (0, u "serialVersionUID"), (0, u "J")] 14

def k5m0 : Method := { name := "<init>", desc := "()V", sig := { parameters := [], returnType := none }, accessFlags := 1, code := none }
/-- java/io/IOException -/
def k5 : Class := { plain "java/io/IOException" (some 4) with
  accessFlags := 33
  interfaces := #[]
  cf := some (fileOf pool5 16 #[] #[{ accessFlags := 1, nameIndex := 5, descriptorIndex := 6, attributes := #[] }] 33 2 #[] #[{ accessFlags := 24, nameIndex := 18, descriptorIndex := 19, attributes := #[] }])
  fields := #[{ name := "serialVersionUID", type := .long, accessFlags := 24, slot := 0, constantValue := 0 }]
  methods := #[k5m0]
  instanceTypes := #[(.object "java/lang/Object"), (.object "java/lang/String"), (.object "java/lang/Throwable"), (.array (.object "java/lang/StackTraceElement")), .int, (.object "java/util/List")]
  staticTypes := #[.long]
  resolved := Array.replicate 34 none
  statics := none }

def pool6 : Array CpInfo := pool [(2, .class_ 4), (1, u "java/io/IOException"), (3, .class_ 10), (1, u "com/example/deltastripe/deltastripe/BlockUnavailableException"), (0, u "status"), (0, u "I"), (2, u "serialVersionUID"), (0, u "J"), (6, u "refuses"), (0, u "(I)Z")] 8

def k6c0 : Code := { maxStack := 2, maxLocals := 1, code := prog_21_method_2_code, exceptionTable := #[], attributes := #[] }
def k6m0 : Method := { name := "refuses", desc := "(I)Z", sig := { parameters := [.int], returnType := some .boolean }, accessFlags := 8, code := some k6c0 }
/-- com/example/deltastripe/deltastripe/BlockUnavailableException -/
def k6 : Class := { plain "com/example/deltastripe/deltastripe/BlockUnavailableException" (some 5) with
  accessFlags := 48
  interfaces := #[]
  cf := some (fileOf pool6 8 #[] #[{ accessFlags := 8, nameIndex := 23, descriptorIndex := 24, attributes := #[] }] 48 2 #[] #[{ accessFlags := 26, nameIndex := 15, descriptorIndex := 16, attributes := #[] }, { accessFlags := 18, nameIndex := 11, descriptorIndex := 12, attributes := #[] }])
  fields := #[{ name := "serialVersionUID", type := .long, accessFlags := 26, slot := 0, constantValue := 0 }, { name := "status", type := .int, accessFlags := 18, slot := 6, constantValue := 0 }]
  methods := #[k6m0]
  instanceTypes := #[(.object "java/lang/Object"), (.object "java/lang/String"), (.object "java/lang/Throwable"), (.array (.object "java/lang/StackTraceElement")), .int, (.object "java/util/List"), .int]
  staticTypes := #[.long]
  resolved := Array.replicate 33 none
  statics := none }

def pool7 : Array CpInfo := pool [(1, u "java/lang/Cloneable"), (0, .class_ 1), (0, u "java/lang/Object"), (0, .class_ 3)] 3

/-- java/lang/Cloneable -/
def k7 : Class := { plain "java/lang/Cloneable" (some 0) with
  accessFlags := 1537
  interfaces := #[]
  cf := some (fileOf pool7 2 #[] #[] 1537 4 #[] #[])
  fields := #[]
  methods := #[]
  instanceTypes := #[]
  staticTypes := #[]
  resolved := Array.replicate 8 none
  statics := none }

/-- the primitive byte -/
def k8 : Class := { plain "byte" none with kind := .primitive 'B', accessFlags := 0x411 }
/-- [B -/
def k9 : Class := { plain "[B" (some 0) with kind := .array 8 .byte, interfaces := #[7, 2], accessFlags := 1041 }

/-- the primitive int -/
def k10 : Class := { plain "int" none with kind := .primitive 'I', accessFlags := 0x411 }
/-- [I -/
def k11 : Class := { plain "[I" (some 0) with kind := .array 10 .int, interfaces := #[7, 2], accessFlags := 1041 }

def heap : Heap := #[]
def classes : Array Class := #[k0, k1, k2, k3, k4, k5, k6, k7, k8, k9, k10, k11]
def interned : List (Array UInt16 × Addr) := []
def slotsUsed : Nat := 0
def theMethod : MethodId := ⟨1, 1⟩
def args0 : Array Value := #[.int 5, .int 6]
def aboutOver (below : List Frame) : State where
  vm := { classes := classes, interned := interned.toArray }
  heap := heap
  slotsUsed := slotsUsed
  threads := #[{ frames := .invoking theMethod args0 :: below }]
def below0 : List Frame := [.native { method := ⟨0, 0⟩, args := #[] }]
def about1 : State := aboutOver below0
def p0 : Program := .bare "" "" ""
def e0 : Env := launch0.env 0 0 0
theorem w_frames : about1.frames = Frame.invoking theMethod args0 :: below0 := rfl
set_option maxRecDepth 65536 in
theorem w_args : argsFit about1.vm theMethod args0 = true := by decide +kernel
set_option maxRecDepth 65536 in
theorem w_heap : heapFits about1 = true := by decide +kernel
set_option maxRecDepth 65536 in
theorem w_runnable : about1.curStatus? = some .runnable := by decide +kernel
set_option maxRecDepth 65536 in
theorem w_alone : about1.alone = true := by decide +kernel
set_option maxRecDepth 65536 in
theorem w_named : about1.methodNamed? x = some theMethod := by decide +kernel
set_option maxRecDepth 65536 in
theorem w_hears : about1.hears theMethod below0 = true := by decide +kernel
set_option maxRecDepth 65536 in
theorem w_ripe : about1.ripe theMethod args0 below0 = true := by decide +kernel
theorem w_running : about1.status = .running := rfl
set_option maxRecDepth 65536 in
theorem w_room : about1.hasRoom e0.platform room_1 = true :=
  launch0.hasRoom_least _ room_1 (by decide +kernel) (by decide +kernel) (by decide +kernel) (by decide +kernel) (by decide +kernel) (by decide +kernel)
theorem allAtoms_all (ts : List Jvm.Cond) (a : Array Jvm.Value) (st : Jvm.State) : (allAtoms ts).before a st = ts.all (fun c => c.before a st) := by
  induction ts with
  | nil => rfl
  | cons c t ih =>
    show (Jvm.Cond.and c (allAtoms t)).before a st = _
    rw [Jvm.Cond.before_and, ih, List.all_cons]
def words1 : List Jvm.Cond := Jvm.Cond.code x code maxLocals ret :: tables_1
/-- a 'code' word, met by the world's own term for the bytes: nothing is compared byte by byte -/
theorem code_word {y : MethodName} {bytes : ByteArray} {mx : Nat} {rt : Option FieldType} {a : Array Value} {s : State} {m : MethodId} {meth : Method} {c : Code} (h1 : s.methodNamed? y = some m) (h2 : s.vm.method? m = some meth) (h3 : meth.code = some c) (h4 : c.code = bytes)
    (h5 : (c.maxLocals == mx && c.exceptionTable.isEmpty && decide (c.maxStack ≤ mostOperands) && decide (meth.sig.returnType = rt) && !meth.locks && decide (parseMethodDescriptor y.desc = some meth.sig)) = true) : (Jvm.Cond.code y bytes mx rt).before a s = true := by
  simp only [Bool.and_eq_true, beq_iff_eq, Bool.not_eq_true', decide_eq_true_eq] at h5
  obtain ⟨⟨⟨⟨⟨g1, g2⟩, g3⟩, g4⟩, g5⟩, g6⟩ := h5
  simp [Cond.before, Cond.holds, Cond.value, h1, h2, h3, h4, g1, g2, g3, g4, g5, g6]
def isCode : Jvm.Cond → Bool
  | .code _ _ _ _ => true
  | _ => false
theorem all_split {L : List Jvm.Cond} {P : Jvm.Cond → Bool} (h1 : L.all (fun c => isCode c || P c) = true) (h2 : ∀ c ∈ L.filter isCode, P c = true) : L.all P = true := by
  refine List.all_eq_true.mpr fun c hc => ?_
  have h := List.all_eq_true.mp h1 c hc
  rcases Bool.eq_false_or_eq_true (isCode c) with hi | hi
  · exact h2 c (List.mem_filter.mpr ⟨hc, hi⟩)
  · simpa [hi] using h
set_option maxRecDepth 65536 in
theorem w_c0 : (Jvm.Cond.code x code maxLocals ret).before args0 about1 = true := code_word (m := ⟨1, 1⟩) (meth := k1m1) (c := k1c1) (by decide +kernel) rfl rfl rfl (by decide +kernel)
set_option maxRecDepth 65536 in
theorem w_c1 : (Jvm.Cond.code ({ cls := "com/example/deltastripe/deltastripe/BlockUnavailableExceptionRefusesPinLaw", name := "agrees", desc := "(I)Z" } : Jvm.MethodName) method_3_code (2 : Nat) (Option.some Jvm.ClassFile.FieldType.boolean)).before args0 about1 = true := code_word (m := ⟨1, 2⟩) (meth := k1m2) (c := k1c2) (by decide +kernel) rfl rfl rfl (by decide +kernel)
set_option maxRecDepth 65536 in
theorem w_c2 : (Jvm.Cond.code ({ cls := "com/example/deltastripe/deltastripe/BlockUnavailableException", name := "refuses", desc := "(I)Z" } : Jvm.MethodName) prog_21_method_2_code (1 : Nat) (Option.some Jvm.ClassFile.FieldType.boolean)).before args0 about1 = true := code_word (m := ⟨6, 0⟩) (meth := k6m0) (c := k6c0) (by decide +kernel) rfl rfl rfl (by decide +kernel)
def codes1 : List Jvm.Cond := [Jvm.Cond.code x code maxLocals ret, Jvm.Cond.code ({ cls := "com/example/deltastripe/deltastripe/BlockUnavailableExceptionRefusesPinLaw", name := "agrees", desc := "(I)Z" } : Jvm.MethodName) method_3_code (2 : Nat) (Option.some Jvm.ClassFile.FieldType.boolean), Jvm.Cond.code ({ cls := "com/example/deltastripe/deltastripe/BlockUnavailableException", name := "refuses", desc := "(I)Z" } : Jvm.MethodName) prog_21_method_2_code (1 : Nat) (Option.some Jvm.ClassFile.FieldType.boolean)]
set_option maxRecDepth 65536 in
theorem codes_eq : words1.filter isCode = codes1 := rfl
theorem w_codes : ∀ c ∈ words1.filter isCode, c.before args0 about1 = true := by
  rw [codes_eq]
  intro c hc
  simp only [codes1, List.mem_cons, List.not_mem_nil, or_false] at hc
  rcases hc with rfl | rfl | rfl
  · exact w_c0
  · exact w_c1
  · exact w_c2
set_option maxRecDepth 65536 in
theorem w_t1 : words1.all (fun c => isCode c || c.before args0 about1) = true := by decide +kernel
theorem w_tables : (allAtoms (Jvm.Cond.code x code maxLocals ret :: tables_1)).before args0 about1 = true := by
  rw [allAtoms_all]
  show words1.all (fun c => c.before args0 about1) = true
  refine all_split ?_ w_codes
  rw [w_t1]
set_option maxRecDepth 65536 in
theorem w_case : (Jvm.Cond.and given_1 narrow_1).before args0 about1 = true := by decide +kernel
theorem w_applies : (headSpec (Jvm.Cond.code x code maxLocals ret :: tables_1) room_1).applies x e0.platform about1 = true :=
  (Spec.applies_iff w_frames).mpr ⟨w_running, w_runnable, w_alone, w_named, w_hears, w_ripe, w_room, w_tables⟩
theorem atStart : AtStart classFile x code maxLocals ret World_1 tables_1 room_1 Calls_1 rest_1 Pre_1 launch0 p0 e0 about1 theMethod args0 below0 :=
  ⟨lists_1, trivial, launch0.admits_env _ _ _, launch0.least_env, fairChoices_fair.cas, fairChoices_fair.clock, w_frames, w_args, w_heap, w_applies, trivial, trivial, w_case⟩
end start1
theorem witness_1 : WitnessClaimed_1 := ⟨start1.p0, start1.e0, start1.about1, start1.theMethod, start1.args0, start1.below0, start1.atStart⟩
end Jvm.Pilot.@@N@@
