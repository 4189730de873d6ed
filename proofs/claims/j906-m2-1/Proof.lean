import JvmDerived
import JvmDerived.Pilot.@@N@@Statement
import JvmDerived.Pilot.@@N@@Code
set_option linter.unusedVariables false
set_option linter.unusedSimpArgs false
@@BLOCK:NumsL.lean.txt@@
namespace Jvm.Pilot.@@N@@
open Jvm Jvm.ClassFile Sem Op Lib Jvm.Free Jvm.Stand Jvm.LawKit Jvm.RoadKit Bundle Jvm.Pilot.@@N@@.Jvm.D
/-! ### own layer 1: plain steps by evaluation over a list of decoded instructions -/
def own_iushr (x y : Int32) : Int32 := (x.toUInt32 >>> (y &&& 31).toUInt32).toInt32
def own_ishl (x y : Int32) : Int32 := x <<< (y &&& 31)
def own_ishr (x y : Int32) : Int32 := x >>> (y &&& 31)
def own_irem (x y : Int32) : Int32 := x - (x / y) * y
def own_lrem (x y : Int64) : Int64 := x - (x / y) * y
def own_lushr (x : Int64) (y : Int32) : Int64 := (x.toUInt64 >>> (y &&& 0x3f).toInt64.toUInt64).toInt64
def own_lshl (x : Int64) (y : Int32) : Int64 := x <<< (y &&& 0x3f).toInt64
def own_lshr (x : Int64) (y : Int32) : Int64 := x >>> (y &&& 0x3f).toInt64
def own_i2b (x : Int32) : Int32 := x.toInt8.toInt32

abbrev own_R : Type := Option (Array Slot × List Value)
def own_i2 (f : Int32 → Int32 → Int32) (ls : Array Slot) : List Value → own_R
  | .int y :: .int x :: r => some (ls, .int (f x y) :: r)
  | _ => none
def own_i1 (f : Int32 → Value) (ls : Array Slot) : List Value → own_R
  | .int x :: r => some (ls, f x :: r)
  | _ => none
def own_l2 (f : Int64 → Int64 → Int64) (ls : Array Slot) : List Value → own_R
  | .long y :: .long x :: r => some (ls, .long (f x y) :: r)
  | _ => none
def own_lS (f : Int64 → Int32 → Int64) (ls : Array Slot) : List Value → own_R
  | .int y :: .long x :: r => some (ls, .long (f x y) :: r)
  | _ => none
def own_l1 (f : Int64 → Value) (ls : Array Slot) : List Value → own_R
  | .long x :: r => some (ls, f x :: r)
  | _ => none
def own_li (ls : Array Slot) (k : Nat) (st : List Value) : own_R :=
  match ls[k]? with
  | some (.val (.int v)) => some (ls, .int v :: st)
  | _ => none
def own_ll (ls : Array Slot) (k : Nat) (st : List Value) : own_R :=
  match ls[k]? with
  | some (.val (.long v)) => some (ls, .long v :: st)
  | _ => none
def own_la (ls : Array Slot) (k : Nat) (st : List Value) : own_R :=
  match ls[k]? with
  | some (.val (.ref v)) => some (ls, .ref v :: st)
  | some (.val .null) => some (ls, .null :: st)
  | _ => none
def own_sv (ls : Array Slot) (k : Nat) (v : Value) (r : List Value) : own_R :=
  match storeLocals ls k v with
  | some l' => some (l', r)
  | none => none
def own_si (ls : Array Slot) (k : Nat) : List Value → own_R
  | .int x :: r => own_sv ls k (.int x) r
  | _ => none
def own_sl (ls : Array Slot) (k : Nat) : List Value → own_R
  | .long x :: r => own_sv ls k (.long x) r
  | _ => none
def own_sa (ls : Array Slot) (k : Nat) : List Value → own_R
  | .ref x :: r => own_sv ls k (.ref x) r
  | .null :: r => own_sv ls k .null r
  | _ => none
def own_inc (ls : Array Slot) (k : Nat) (d : Int) (st : List Value) : own_R :=
  match ls[k]? with
  | some (.val (.int v)) => own_sv ls k (.int (v + Int32.ofInt d)) st
  | _ => none
def own_dup (ls : Array Slot) : List Value → own_R
  | .int x :: r => some (ls, .int x :: .int x :: r)
  | .ref x :: r => some (ls, .ref x :: .ref x :: r)
  | _ => none
def own_dupX (ls : Array Slot) : List Value → own_R
  | .int x :: .ref y :: r => some (ls, .int x :: .ref y :: .int x :: r)
  | _ => none
def own_pop (ls : Array Slot) : List Value → own_R
  | .int _ :: r => some (ls, r)
  | .ref _ :: r => some (ls, r)
  | _ => none

def own_p (i : Instr) (n : Nat) (ls : Array Slot) (st : List Value) : own_R :=
  match i, n with
  | .iconst k, 1 => some (ls, .int (Int32.ofInt k) :: st)
  | .bipush k, 2 => some (ls, .int (Int8.ofInt k).toInt32 :: st)
  | .sipush k, 3 => some (ls, .int (Int16.ofInt k).toInt32 :: st)
  | .lconst k, 1 => some (ls, .long (Int64.ofNat k) :: st)
  | .aconst_null, 1 => some (ls, .null :: st)
  | .iload_n k, 1 => own_li ls k.val st
  | .iload k, 2 => own_li ls k st
  | .lload_n k, 1 => own_ll ls k.val st
  | .lload k, 2 => own_ll ls k st
  | .aload_n k, 1 => own_la ls k.val st
  | .aload k, 2 => own_la ls k st
  | .istore_n k, 1 => own_si ls k.val st
  | .istore k, 2 => own_si ls k st
  | .lstore_n k, 1 => own_sl ls k.val st
  | .lstore k, 2 => own_sl ls k st
  | .astore_n k, 1 => own_sa ls k.val st
  | .astore k, 2 => own_sa ls k st
  | .iinc k d, 3 => own_inc ls k d st
  | .iadd, 1 => own_i2 (· + ·) ls st
  | .isub, 1 => own_i2 (· - ·) ls st
  | .imul, 1 => own_i2 (· * ·) ls st
  | .iand, 1 => own_i2 (· &&& ·) ls st
  | .ior, 1 => own_i2 (· ||| ·) ls st
  | .ixor, 1 => own_i2 (· ^^^ ·) ls st
  | .ishl, 1 => own_i2 own_ishl ls st
  | .ishr, 1 => own_i2 own_ishr ls st
  | .iushr, 1 => own_i2 own_iushr ls st
  | .ladd, 1 => own_l2 (· + ·) ls st
  | .lsub, 1 => own_l2 (· - ·) ls st
  | .lmul, 1 => own_l2 (· * ·) ls st
  | .land, 1 => own_l2 (· &&& ·) ls st
  | .lor, 1 => own_l2 (· ||| ·) ls st
  | .lxor, 1 => own_l2 (· ^^^ ·) ls st
  | .lshl, 1 => own_lS own_lshl ls st
  | .lshr, 1 => own_lS own_lshr ls st
  | .lushr, 1 => own_lS own_lushr ls st
  | .i2b, 1 => own_i1 (fun x => .int (own_i2b x)) ls st
  | .i2l, 1 => own_i1 (fun x => .long x.toInt64) ls st
  | .l2i, 1 => own_l1 (fun x => .int x.toInt32) ls st
  | .dup, 1 => own_dup ls st
  | .dup_x1, 1 => own_dupX ls st
  | .pop, 1 => own_pop ls st
  | _, _ => none

section Inv
variable {ls ls' : Array Slot} {st st' : List Value}
theorem own_i2_inv {f : Int32 → Int32 → Int32} (h : own_i2 f ls st = some (ls', st')) : ∃ x y r, st = .int y :: .int x :: r ∧ ls' = ls ∧ st' = .int (f x y) :: r := by
  unfold own_i2 at h; split at h
  · cases h; exact ⟨_, _, _, rfl, rfl, rfl⟩
  · cases h
theorem own_i1_inv {f : Int32 → Value} (h : own_i1 f ls st = some (ls', st')) : ∃ x r, st = .int x :: r ∧ ls' = ls ∧ st' = f x :: r := by
  unfold own_i1 at h; split at h
  · cases h; exact ⟨_, _, rfl, rfl, rfl⟩
  · cases h
theorem own_l2_inv {f : Int64 → Int64 → Int64} (h : own_l2 f ls st = some (ls', st')) : ∃ x y r, st = .long y :: .long x :: r ∧ ls' = ls ∧ st' = .long (f x y) :: r := by
  unfold own_l2 at h; split at h
  · cases h; exact ⟨_, _, _, rfl, rfl, rfl⟩
  · cases h
theorem own_lS_inv {f : Int64 → Int32 → Int64} (h : own_lS f ls st = some (ls', st')) : ∃ x y r, st = .int y :: .long x :: r ∧ ls' = ls ∧ st' = .long (f x y) :: r := by
  unfold own_lS at h; split at h
  · cases h; exact ⟨_, _, _, rfl, rfl, rfl⟩
  · cases h
theorem own_l1_inv {f : Int64 → Value} (h : own_l1 f ls st = some (ls', st')) : ∃ x r, st = .long x :: r ∧ ls' = ls ∧ st' = f x :: r := by
  unfold own_l1 at h; split at h
  · cases h; exact ⟨_, _, rfl, rfl, rfl⟩
  · cases h
theorem own_li_inv {k : Nat} (h : own_li ls k st = some (ls', st')) : ∃ v, ls[k]? = some (.val (.int v)) ∧ ls' = ls ∧ st' = .int v :: st := by
  unfold own_li at h; split at h
  · rename_i q; cases h; exact ⟨_, q, rfl, rfl⟩
  · cases h
theorem own_ll_inv {k : Nat} (h : own_ll ls k st = some (ls', st')) : ∃ v, ls[k]? = some (.val (.long v)) ∧ ls' = ls ∧ st' = .long v :: st := by
  unfold own_ll at h; split at h
  · rename_i q; cases h; exact ⟨_, q, rfl, rfl⟩
  · cases h
theorem own_la_inv {k : Nat} (h : own_la ls k st = some (ls', st')) : ∃ v : Value, v.isRef = true ∧ ls[k]? = some (.val v) ∧ ls' = ls ∧ st' = v :: st := by
  unfold own_la at h; split at h
  · rename_i q; cases h; exact ⟨_, rfl, q, rfl, rfl⟩
  · rename_i q; cases h; exact ⟨_, rfl, q, rfl, rfl⟩
  · cases h
theorem own_sv_inv {k : Nat} {v : Value} {r : List Value} (h : own_sv ls k v r = some (ls', st')) : storeLocals ls k v = some ls' ∧ st' = r := by
  unfold own_sv at h; split at h
  · rename_i q; cases h; exact ⟨q, rfl⟩
  · cases h
theorem own_si_inv {k : Nat} (h : own_si ls k st = some (ls', st')) : ∃ x, st = .int x :: st' ∧ storeLocals ls k (.int x) = some ls' := by
  unfold own_si at h; split at h
  · obtain ⟨h1, h2⟩ := own_sv_inv h; subst h2; exact ⟨_, rfl, h1⟩
  · cases h
theorem own_sl_inv {k : Nat} (h : own_sl ls k st = some (ls', st')) : ∃ x, st = .long x :: st' ∧ storeLocals ls k (.long x) = some ls' := by
  unfold own_sl at h; split at h
  · obtain ⟨h1, h2⟩ := own_sv_inv h; subst h2; exact ⟨_, rfl, h1⟩
  · cases h
theorem own_sa_inv {k : Nat} (h : own_sa ls k st = some (ls', st')) : ∃ x : Value, x.isRef = true ∧ st = x :: st' ∧ storeLocals ls k x = some ls' := by
  unfold own_sa at h; split at h
  · obtain ⟨h1, h2⟩ := own_sv_inv h; subst h2; exact ⟨_, rfl, rfl, h1⟩
  · obtain ⟨h1, h2⟩ := own_sv_inv h; subst h2; exact ⟨_, rfl, rfl, h1⟩
  · cases h
theorem own_inc_inv {k : Nat} {d : Int} (h : own_inc ls k d st = some (ls', st')) : ∃ x, ls[k]? = some (.val (.int x)) ∧ storeLocals ls k (.int (x + Int32.ofInt d)) = some ls' ∧ st' = st := by
  unfold own_inc at h; split at h
  · rename_i q; obtain ⟨h1, h2⟩ := own_sv_inv h; exact ⟨_, q, h1, h2⟩
  · cases h
theorem own_dup_inv (h : own_dup ls st = some (ls', st')) : ∃ (x : Value) (r : List Value), st = x :: r ∧ x.category = 1 ∧ ls' = ls ∧ st' = x :: x :: r := by
  unfold own_dup at h; split at h
  · cases h; exact ⟨_, _, rfl, rfl, rfl, rfl⟩
  · cases h; exact ⟨_, _, rfl, rfl, rfl, rfl⟩
  · cases h
theorem own_dupX_inv (h : own_dupX ls st = some (ls', st')) : ∃ (x y : Value) (r : List Value), st = x :: y :: r ∧ x.category = 1 ∧ y.category = 1 ∧ ls' = ls ∧ st' = x :: y :: x :: r := by
  unfold own_dupX at h; split at h
  · cases h; exact ⟨_, _, _, rfl, rfl, rfl, rfl, rfl⟩
  · cases h
theorem own_pop_inv (h : own_pop ls st = some (ls', st')) : ∃ (x : Value), st = x :: st' ∧ x.category = 1 ∧ ls' = ls := by
  unfold own_pop at h; split at h
  · cases h; exact ⟨_, rfl, rfl, rfl⟩
  · cases h; exact ⟨_, rfl, rfl, rfl⟩
  · cases h
end Inv

set_option maxHeartbeats 4000000 in
theorem own_p_ok {tb : Tables} [Ours tb] {e : Env} {below : List Frame} {T t : State} {m : MethodId} {c : Code} (h : At T m c below) (hx : tb.exec = Jvm.exec) {i : Instr} {n pc : Nat} {ls ls' : Array Slot} {st st' : List Value}
    (hd : decode c.code pc = .ok (i, n)) (hp : own_p i n ls st = some (ls', st')) (hr : Steps tb e below (T.setTop (mkF m (pc + n) ls' st')) t) : Steps tb e below (T.setTop (mkF m pc ls st)) t := by
  unfold own_p at hp
  split at hp
  · cases hp; exact XS.iconst h hx rfl hd hr
  · cases hp; exact XS.bipush h hx rfl hd hr
  · cases hp; exact XS.sipush h hx rfl hd hr
  · cases hp; exact XS.lconst h hx rfl hd hr
  · cases hp; exact XS.aconstNull h hx rfl hd hr
  · obtain ⟨v, q, rfl, rfl⟩ := own_li_inv hp; exact XS.iloadN h hx rfl hd q hr
  · obtain ⟨v, q, rfl, rfl⟩ := own_li_inv hp; exact XS.iload h hx rfl hd q hr
  · obtain ⟨v, q, rfl, rfl⟩ := own_ll_inv hp; exact XS.lloadN h hx rfl hd q hr
  · obtain ⟨v, q, rfl, rfl⟩ := own_ll_inv hp; exact XS.lload h hx rfl hd q hr
  · obtain ⟨v, q0, q, rfl, rfl⟩ := own_la_inv hp; exact XS.aloadN h hx rfl hd q q0 hr
  · obtain ⟨v, q0, q, rfl, rfl⟩ := own_la_inv hp; exact XS.aload h hx rfl hd q q0 hr
  · obtain ⟨x, rfl, q⟩ := own_si_inv hp; exact XS.istoreN h hx rfl hd rfl q hr
  · obtain ⟨x, rfl, q⟩ := own_si_inv hp; exact XS.istore h hx rfl hd rfl q hr
  · obtain ⟨x, rfl, q⟩ := own_sl_inv hp; exact XS.lstoreN h hx rfl hd rfl q hr
  · obtain ⟨x, rfl, q⟩ := own_sl_inv hp; exact XS.lstore h hx rfl hd rfl q hr
  · obtain ⟨x, q0, rfl, q⟩ := own_sa_inv hp; exact XS.astoreN h hx rfl hd rfl q0 q hr
  · obtain ⟨x, q0, rfl, q⟩ := own_sa_inv hp; exact XS.astore h hx rfl hd rfl q0 q hr
  · obtain ⟨x, q1, q2, rfl⟩ := own_inc_inv hp; exact XS.iinc h hx rfl hd q1 q2 hr
  · obtain ⟨x, y, r, rfl, rfl, rfl⟩ := own_i2_inv hp; exact XS.iadd h hx rfl hd rfl hr
  · obtain ⟨x, y, r, rfl, rfl, rfl⟩ := own_i2_inv hp; exact XS.isub h hx rfl hd rfl hr
  · obtain ⟨x, y, r, rfl, rfl, rfl⟩ := own_i2_inv hp; exact XS.imul h hx rfl hd rfl hr
  · obtain ⟨x, y, r, rfl, rfl, rfl⟩ := own_i2_inv hp; exact XS.iand h hx rfl hd rfl hr
  · obtain ⟨x, y, r, rfl, rfl, rfl⟩ := own_i2_inv hp; exact XS.ior h hx rfl hd rfl hr
  · obtain ⟨x, y, r, rfl, rfl, rfl⟩ := own_i2_inv hp; exact XS.ixor h hx rfl hd rfl hr
  · obtain ⟨x, y, r, rfl, rfl, rfl⟩ := own_i2_inv hp; exact XS.ishl h hx rfl hd rfl hr
  · obtain ⟨x, y, r, rfl, rfl, rfl⟩ := own_i2_inv hp; exact XS.ishr h hx rfl hd rfl hr
  · obtain ⟨x, y, r, rfl, rfl, rfl⟩ := own_i2_inv hp; exact XS.iushr h hx rfl hd rfl hr
  · obtain ⟨x, y, r, rfl, rfl, rfl⟩ := own_l2_inv hp; exact XS.ladd h hx rfl hd rfl hr
  · obtain ⟨x, y, r, rfl, rfl, rfl⟩ := own_l2_inv hp; exact XS.lsub h hx rfl hd rfl hr
  · obtain ⟨x, y, r, rfl, rfl, rfl⟩ := own_l2_inv hp; exact XS.lmul h hx rfl hd rfl hr
  · obtain ⟨x, y, r, rfl, rfl, rfl⟩ := own_l2_inv hp; exact XS.land h hx rfl hd rfl hr
  · obtain ⟨x, y, r, rfl, rfl, rfl⟩ := own_l2_inv hp; exact XS.lor h hx rfl hd rfl hr
  · obtain ⟨x, y, r, rfl, rfl, rfl⟩ := own_l2_inv hp; exact XS.lxor h hx rfl hd rfl hr
  · obtain ⟨x, y, r, rfl, rfl, rfl⟩ := own_lS_inv hp; exact XS.lshl h hx rfl hd rfl hr
  · obtain ⟨x, y, r, rfl, rfl, rfl⟩ := own_lS_inv hp; exact XS.lshr h hx rfl hd rfl hr
  · obtain ⟨x, y, r, rfl, rfl, rfl⟩ := own_lS_inv hp; exact XS.lushr h hx rfl hd rfl hr
  · obtain ⟨x, r, rfl, rfl, rfl⟩ := own_i1_inv hp; exact XS.i2b h hx rfl hd rfl hr
  · obtain ⟨x, r, rfl, rfl, rfl⟩ := own_i1_inv hp; exact XS.i2l h hx rfl hd rfl hr
  · obtain ⟨x, r, rfl, rfl, rfl⟩ := own_l1_inv hp; exact XS.l2i h hx rfl hd rfl hr
  · obtain ⟨x, r, rfl, q, rfl, rfl⟩ := own_dup_inv hp; exact XS.dup h hx rfl hd rfl q hr
  · obtain ⟨x, y, r, rfl, q1, q2, rfl, rfl⟩ := own_dupX_inv hp; exact XS.dupX1 h hx rfl hd rfl q1 q2 hr
  · obtain ⟨x, rfl, q, rfl⟩ := own_pop_inv hp; exact XS.pop h hx rfl hd rfl q hr
  · cases hp

/-- the list lies in the code from pc on, up to pc' -/
def own_d (code : ByteArray) : Nat → List (Instr × Nat) → Nat → Bool
  | pc, [], pc' => pc == pc'
  | pc, (i, n) :: L, pc' => decide (decode code pc = .ok (i, n)) && own_d code (pc + n) L pc'
def own_x : List (Instr × Nat) → Array Slot → List Value → own_R
  | [], ls, st => some (ls, st)
  | (i, n) :: L, ls, st => match own_p i n ls st with
    | some (ls', st') => own_x L ls' st'
    | none => none
theorem own_x_ok {tb : Tables} [Ours tb] {e : Env} {below : List Frame} {T t : State} {m : MethodId} {c : Code} (h : At T m c below) (hx : tb.exec = Jvm.exec) : ∀ (L : List (Instr × Nat)) {pc pc' : Nat} {ls ls' : Array Slot} {st st' : List Value},
    own_d c.code pc L pc' = true → own_x L ls st = some (ls', st') → Steps tb e below (T.setTop (mkF m pc' ls' st')) t → Steps tb e below (T.setTop (mkF m pc ls st)) t
  | [], pc, pc', ls, ls', st, st', hd, hr, k => by
    have e1 : pc = pc' := by simpa [own_d] using hd
    subst e1
    cases hr
    exact k
  | (i, n) :: L, pc, pc', ls, ls', st, st', hd, hr, k => by
    simp only [own_d, Bool.and_eq_true, decide_eq_true_eq] at hd
    simp only [own_x] at hr
    cases hq : own_p i n ls st with
    | none => rw [hq] at hr; cases hr
    | some q =>
      obtain ⟨l1, s1⟩ := q
      rw [hq] at hr
      exact own_p_ok h hx hd.1 hq (own_x_ok h hx L hd.2 hr k)

/-! ### own layer 2: where a walk stands, and that it comes to its end -/
def own_G (p : Program) (e : Env) (below : List Frame) (A : State) (Q : Outcome → State → Prop) : Prop :=
  ∃ s₂ o, Steps p.tables e below A s₂ ∧ s₂.status = .running ∧ Ended s₂ below o ∧ Q o s₂
theorem own_st {p : Program} {e : Env} {below : List Frame} {A A' : State} {Q : Outcome → State → Prop} (st : ∀ t, Steps p.tables e below A' t → Steps p.tables e below A t) (g : own_G p e below A' Q) : own_G p e below A Q := by
  obtain ⟨s2, o, h1, h2⟩ := g
  exact ⟨s2, o, st _ h1, h2⟩
def own_E (s : State) (n0 : Nat) (P : Option Value → Heap → Prop) (C S : Nat) (o : Outcome) (U : State) : Prop := ∃ v L, o = .returned v ∧ (Fr n0 L ∧ P v U.heap) ∧ FrameEnd s o U L C S
def own_X (p : Program) (l : Launch) (e : Env) (R : Room) (s : State) (m : MethodId) (args : Array Value) (below : List Frame) (meth : Method) (c : Code) (Z : State) (bytes : ByteArray) (maxL : Nat) (ret : Option FieldType) (y : MethodName) (n0 : Nat) (h : Heap) (T : State) (k n : Nat) : Prop :=
  (p.tables.exec = Jvm.exec ∧ c.code = bytes ∧ c.maxLocals = maxL ∧ s.vm.findClass y.cls = some m.cls ∧ meth.name = y.name ∧ meth.sig.returnType = ret ∧ Z.Warmed39 s.vm ∧ meth.locks = false) ∧
    n0 ≤ h.size ∧ T.heap = h ∧ ∃ locs, Stand p l e R s m args below meth c T locs k n ∧ Fr n0 locs
/-- a body's contract: from these arguments and this heap it returns, and P says what, and what heap it leaves -/
def own_C (l : Launch) (Z : State) (y : MethodName) (bytes : ByteArray) (maxL : Nat) (ret : Option FieldType) (rm : Room) (as : Array Value) (h0 : Heap) (n0 : Nat) (P : Option Value → Heap → Prop) : Prop :=
  ∀ ws : List Jvm.Cond, MetFree l y (head1 (Jvm.Cond.code y bytes maxL ret :: ws) rm) (fun a U => a = as ∧ Z.Warmed39 U.vm ∧ U.heap = h0) (fun _ _ _ _ _ => True)
    (fun _ U o U' => ∃ v L, o = .returned v ∧ (Fr n0 L ∧ P v U'.heap) ∧ FrameEnd U o U' L rm.cells rm.slots)
theorem own_body {l : Launch} {Z : State} {y : MethodName} {bytes : ByteArray} {maxL : Nat} {ret : Option FieldType} {rm : Room} {as : Array Value} {h0 : Heap} {n0 : Nat} {P : Option Value → Heap → Prop} (hpl : plainFor y = true) (h0n : n0 ≤ h0.size) {ls : Array Slot} (hef : ∀ m, entryFrame m as maxL = mkF m 0 ls [])
    (k : ∀ p e s m below meth c T, own_X p l e rm s m as below meth c Z bytes maxL ret y n0 h0 T 0 0 → own_G p e below (T.setTop (mkF m 0 ls [])) (own_E s n0 P rm.cells rm.slots)) : own_C l Z y bytes maxL ret rm as h0 n0 P := by
  intro ws
  refine MetFree.of_bodySF hpl hisR ?_
  intro p e s m args below meth c s₁ Bd hml0 hP hK
  obtain ⟨rfl, hZ, hh⟩ := hP
  have e0 : s₁.heap = h0 := by rw [← hh, Bd.state]; rfl
  have X0 : Stand p l e rm s m args below meth c s₁ [] 0 0 := Stand.of_body Bd
  have g := k p e s m below meth c s₁ ⟨⟨Bd.exec, Bd.bytes, hml0, findClass_of_methodNamed Bd.named, (name_of_methodNamed Bd.named Bd.method).1, Bd.returns, hZ, Bd.notSynchronized⟩, h0n, e0, [], X0, Fr.nil n0⟩
  rw [← hef m] at g
  exact g

section Walk
variable {p : Program} {l : Launch} {e : Env} {R : Room} {s : State} {m : MethodId} {args : Array Value} {below : List Frame} {meth : Method} {c : Code} {Z : State} {bytes : ByteArray} {maxL : Nat} {ret : Option FieldType} {y : MethodName} {n0 : Nat} {h : Heap} {T : State} {k n : Nat} {Q : Outcome → State → Prop} {pc pc' : Nat} {ls ls' : Array Slot} {st st' : List Value} {a0 : Array Value}
theorem own_blk (X : own_X p l e R s m args below meth c Z bytes maxL ret y n0 h T k n) (L : List (Instr × Nat)) (hd : own_d bytes pc L pc' = true) (hr : own_x L ls st = some (ls', st')) (g : own_G p e below (T.setTop (mkF m pc' ls' st')) Q) : own_G p e below (T.setTop (mkF m pc ls st)) Q := by
  obtain ⟨⟨hx, hby, -⟩, -, -, locs, X, -⟩ := X
  subst hby
  exact own_st (fun t q => own_x_ok X.here hx L hd hr q) g
/-! branches -/
def own_tg (pc : Nat) (o : Int) (pc' : Nat) : Bool := decide (0 ≤ (pc : Int) + o) && decide (((pc : Int) + o).toNat = pc')
def own_cI : ClassFile.Cond → Int → Int → Prop
  | .eq, x, y => x = y
  | .ne, x, y => ¬ x = y
  | .lt, x, y => x < y
  | .ge, x, y => y ≤ x
  | .gt, x, y => y < x
  | .le, x, y => x ≤ y
theorem own_icmp_iff (cd : ClassFile.Cond) (x y : Int32) : if_icmp.holds cd x y = true ↔ own_cI cd x.toInt y.toInt := by
  cases cd <;> simp [if_icmp.holds, own_cI, Int32.lt_iff_toInt_lt, Int32.le_iff_toInt_le, Int32.toInt_inj]
theorem own_if_iff (cd : ClassFile.Cond) (x : Int32) : ifCond.holds cd x = true ↔ own_cI cd x.toInt 0 := by
  rw [if0]; exact own_icmp_iff cd x 0
theorem own_l_iff (cd : ClassFile.Cond) (x y : Int64) : ifCond.holds cd (if x > y then 1 else if x = y then 0 else -1) = true ↔ own_cI cd x.toInt y.toInt := by
  rw [own_if_iff]
  have e1 : (x > y) = (y.toInt < x.toInt) := by rw [gt_iff_lt, Int64.lt_iff_toInt_lt]
  have e2 : (x = y) = (x.toInt = y.toInt) := by rw [Int64.toInt_inj]
  simp only [e1, e2]
  by_cases q1 : y.toInt < x.toInt
  · simp only [q1, if_true]
    have e3 : (1 : Int32).toInt = 1 := rfl
    cases cd <;> simp only [own_cI, e3] <;> omega
  · by_cases q2 : x.toInt = y.toInt
    · simp only [q1, q2, if_true, if_false]
      have e3 : (0 : Int32).toInt = 0 := rfl
      cases cd <;> simp [own_cI]
    · simp only [q1, q2, if_false]
      have e3 : (-1 : Int32).toInt = -1 := rfl
      cases cd <;> simp only [own_cI, e3] <;> omega
theorem own_tg_s {o : Int} (hp : own_tg pc o pc' = true) : 0 ≤ (pc : Int) + o ∧ ((pc : Int) + o).toNat = pc' := by
  simpa [own_tg] using hp
theorem own_goto (X : own_X p l e R s m args below meth c Z bytes maxL ret y n0 h T k n) {o : Int} (hd : decode bytes pc = .ok (.goto o, 3)) (hp : own_tg pc o pc' = true) (g : own_G p e below (T.setTop (mkF m pc' ls st)) Q) : own_G p e below (T.setTop (mkF m pc ls st)) Q := by
  obtain ⟨⟨hx, hby, -⟩, -, -, locs, X, -⟩ := X
  subst hby
  exact own_st (fun t q => XS.goto X.here hx rfl rfl hd (own_tg_s hp).1 (own_tg_s hp).2 q) g
theorem own_icmp (X : own_X p l e R s m args below meth c Z bytes maxL ret y n0 h T k n) {cd : ClassFile.Cond} {o : Int} {v w : Int32} (hd : decode bytes pc = .ok (.if_icmp cd o, 3)) (hp : own_tg pc o pc' = true) (gT : own_cI cd v.toInt w.toInt → own_G p e below (T.setTop (mkF m pc' ls st)) Q) (gF : ¬ own_cI cd v.toInt w.toInt → own_G p e below (T.setTop (mkF m (pc + 3) ls st)) Q) :
    own_G p e below (T.setTop (mkF m pc ls (.int w :: .int v :: st))) Q := by
  obtain ⟨⟨hx, hby, -⟩, -, -, locs, X, -⟩ := X
  subst hby
  cases hc : if_icmp.holds cd v w with
  | true => exact own_st (fun t q => XS.icmpYes X.here hx rfl rfl hd rfl hc (own_tg_s hp).1 (own_tg_s hp).2 q) (gT ((own_icmp_iff cd v w).mp hc))
  | false => exact own_st (fun t q => XS.icmpNo X.here hx rfl hd rfl hc q) (gF fun q => by rw [(own_icmp_iff cd v w).mpr q] at hc; cases hc)
theorem own_if (X : own_X p l e R s m args below meth c Z bytes maxL ret y n0 h T k n) {cd : ClassFile.Cond} {o : Int} {v : Int32} (hd : decode bytes pc = .ok (.ifCond cd o, 3)) (hp : own_tg pc o pc' = true) (gT : own_cI cd v.toInt 0 → own_G p e below (T.setTop (mkF m pc' ls st)) Q) (gF : ¬ own_cI cd v.toInt 0 → own_G p e below (T.setTop (mkF m (pc + 3) ls st)) Q) :
    own_G p e below (T.setTop (mkF m pc ls (.int v :: st))) Q := by
  obtain ⟨⟨hx, hby, -⟩, -, -, locs, X, -⟩ := X
  subst hby
  cases hc : ifCond.holds cd v with
  | true => exact own_st (fun t q => XS.ifYes X.here hx rfl rfl hd rfl hc (own_tg_s hp).1 (own_tg_s hp).2 q) (gT ((own_if_iff cd v).mp hc))
  | false => exact own_st (fun t q => XS.ifNo X.here hx rfl hd rfl hc q) (gF fun q => by rw [(own_if_iff cd v).mpr q] at hc; cases hc)
theorem own_lif (X : own_X p l e R s m args below meth c Z bytes maxL ret y n0 h T k n) {cd : ClassFile.Cond} {o : Int} {v w : Int64} (hd1 : decode bytes pc = .ok (.lcmp, 1)) (hd : decode bytes (pc + 1) = .ok (.ifCond cd o, 3)) (hp : own_tg (pc + 1) o pc' = true) (gT : own_cI cd v.toInt w.toInt → own_G p e below (T.setTop (mkF m pc' ls st)) Q) (gF : ¬ own_cI cd v.toInt w.toInt → own_G p e below (T.setTop (mkF m (pc + 4) ls st)) Q) :
    own_G p e below (T.setTop (mkF m pc ls (.long w :: .long v :: st))) Q := by
  obtain ⟨⟨hx, hby, -⟩, -, -, locs, X, -⟩ := X
  subst hby
  refine own_st (fun t q => XS.lcmp X.here hx rfl hd1 rfl q) ?_
  show own_G p e below (T.setTop (mkF m (pc + 1) ls (.int (if v > w then 1 else if v = w then 0 else -1) :: st))) Q
  cases hc : ifCond.holds cd (if v > w then 1 else if v = w then 0 else -1) with
  | true => exact own_st (fun t q => XS.ifYes X.here hx rfl rfl hd rfl hc (own_tg_s hp).1 (own_tg_s hp).2 q) (gT ((own_l_iff cd v w).mp hc))
  | false => exact own_st (fun t q => XS.ifNo X.here hx rfl hd rfl hc q) (gF fun q => by rw [(own_l_iff cd v w).mpr q] at hc; cases hc)
/-! division -/
theorem own_idiv (X : own_X p l e R s m args below meth c Z bytes maxL ret y n0 h T k n) {v w : Int32} (hd : decode bytes pc = .ok (.idiv, 1)) (hw : w ≠ 0) (g : own_G p e below (T.setTop (mkF m (pc + 1) ls (.int (v / w) :: st))) Q) : own_G p e below (T.setTop (mkF m pc ls (.int w :: .int v :: st))) Q := by
  obtain ⟨⟨hx, hby, -⟩, -, -, locs, X, -⟩ := X
  subst hby
  exact own_st (fun t q => XS.idiv X.here hx rfl hd rfl hw q) g
theorem own_iremS (X : own_X p l e R s m args below meth c Z bytes maxL ret y n0 h T k n) {v w : Int32} (hd : decode bytes pc = .ok (.irem, 1)) (hw : w ≠ 0) (g : own_G p e below (T.setTop (mkF m (pc + 1) ls (.int (own_irem v w) :: st))) Q) : own_G p e below (T.setTop (mkF m pc ls (.int w :: .int v :: st))) Q := by
  obtain ⟨⟨hx, hby, -⟩, -, -, locs, X, -⟩ := X
  subst hby
  exact own_st (fun t q => XS.irem X.here hx rfl hd rfl hw q) g
theorem own_ldiv (X : own_X p l e R s m args below meth c Z bytes maxL ret y n0 h T k n) {v w : Int64} (hd : decode bytes pc = .ok (.ldiv, 1)) (hw : w ≠ 0) (g : own_G p e below (T.setTop (mkF m (pc + 1) ls (.long (v / w) :: st))) Q) : own_G p e below (T.setTop (mkF m pc ls (.long w :: .long v :: st))) Q := by
  obtain ⟨⟨hx, hby, -⟩, -, -, locs, X, -⟩ := X
  subst hby
  exact own_st (fun t q => XS.ldiv X.here hx rfl hd rfl hw q) g
theorem own_lremS (X : own_X p l e R s m args below meth c Z bytes maxL ret y n0 h T k n) {v w : Int64} (hd : decode bytes pc = .ok (.lrem, 1)) (hw : w ≠ 0) (g : own_G p e below (T.setTop (mkF m (pc + 1) ls (.long (own_lrem v w) :: st))) Q) : own_G p e below (T.setTop (mkF m pc ls (.long w :: .long v :: st))) Q := by
  obtain ⟨⟨hx, hby, -⟩, -, -, locs, X, -⟩ := X
  subst hby
  exact own_st (fun t q => XS.lrem X.here hx rfl hd rfl hw q) g
/-! constants of the pool -/
theorem own_ldc (X : own_X p l e R s m args below meth c Z bytes maxL ret y n0 h T k n) {i : Nat} {v : Int32} (w : (Jvm.Cond.constant y.cls i v).before a0 Z = true) (hd : decode bytes pc = .ok (.ldc i, 2)) (g : own_G p e below (T.setTop (mkF m (pc + 2) ls (.int v :: st))) Q) : own_G p e below (T.setTop (mkF m pc ls st)) Q := by
  obtain ⟨⟨hx, hby, hml, hown, hnm, hret, hZ, hlk⟩, -, -, locs, X, -⟩ := X
  subst hby
  exact own_st (fun t q => X.ldcInt hx hown (mvT hZ w) (g := mkF m pc ls st) rfl hd t q) g
theorem own_ldc2 (X : own_X p l e R s m args below meth c Z bytes maxL ret y n0 h T k n) {i : Nat} {v : Int64} (w : (Jvm.Cond.constantLong y.cls i v).before a0 Z = true) (hd : decode bytes pc = .ok (.ldc2_w i, 3)) (g : own_G p e below (T.setTop (mkF m (pc + 3) ls (.long v :: st))) Q) : own_G p e below (T.setTop (mkF m pc ls st)) Q := by
  obtain ⟨⟨hx, hby, hml, hown, hnm, hret, hZ, hlk⟩, -, -, locs, X, -⟩ := X
  subst hby
  exact own_st (fun t q => X.ldc2Long hx hown (mvT hZ w) (g := mkF m pc ls st) rfl hd t q) g
/-! returns -/
variable {P : Option Value → Heap → Prop} {C S : Nat}
theorem own_retI (X : own_X p l e R s m args below meth c Z bytes maxL (some .int) y n0 h T k n) (hd : decode bytes pc = .ok (.ireturn, 1)) {v : Int32} (hk : k ≤ C) (hn : n ≤ S) (hP : P (some (.int v)) h) : own_G p e below (T.setTop (mkF m pc ls (.int v :: st))) (own_E s n0 P C S) := by
  obtain ⟨⟨hx, hby, hml, hown, hnm, hret, hZ, hlk⟩, -, eT, locs, X, N⟩ := X
  subst hby
  obtain ⟨fs, hr, hrun, hended, hW, hsame⟩ := X.leave (v := some (.int v)) (fun q => by rw [hret] at q; cases q)
  refine ⟨_, _, ?_, hrun, hended, _, _, rfl, ⟨N, by show P _ T.heap; rw [eT]; exact hP⟩, ⟨_, rfl⟩, hW, hsame.mono hk hn⟩
  have hm' : T.vm.method? m = some meth := X.method'
  have hnn : narrow .int (.int v) = .int v := rfl
  show Steps p.tables e below (T.setTop { method := m, pc := pc, locals := ls, stack := _ :: st, locked := none }) _
  jvm_step X.here [X.here.top, hx, hd, hm', hret, hnn]
  first | (intro acts; rw [hr _ acts rfl rfl rfl]) | rw [hr _ _ rfl rfl rfl]
  exact Steps.refl _
theorem own_retN {t : FieldType} (X : own_X p l e R s m args below meth c Z bytes maxL (some t) y n0 h T k n) (ht : t = .boolean ∨ t = .byte ∨ t = .char ∨ t = .short) (hd : decode bytes pc = .ok (.ireturn, 1)) {v v' : Int32} (hv : nar t v = v') (hk : k ≤ C) (hn : n ≤ S) (hP : P (some (.int v')) h) : own_G p e below (T.setTop (mkF m pc ls (.int v :: st))) (own_E s n0 P C S) := by
  obtain ⟨⟨hx, hby, hml, hown, hnm, hret, hZ, hlk⟩, -, eT, locs, X, N⟩ := X
  subst hby hv
  obtain ⟨fs, hr, hrun, hended, hW, hsame⟩ := X.leave (v := some (.int (nar t v))) (fun q => by rw [hret] at q; cases q)
  exact ⟨_, _, retN X hx hret ht hd hr, hrun, hended, _, _, rfl, ⟨N, by show P _ T.heap; rw [eT]; exact hP⟩, ⟨_, rfl⟩, hW, hsame.mono hk hn⟩
theorem own_retL (X : own_X p l e R s m args below meth c Z bytes maxL (some .long) y n0 h T k n) (hd : decode bytes pc = .ok (.lreturn, 1)) {v : Int64} (hk : k ≤ C) (hn : n ≤ S) (hP : P (some (.long v)) h) : own_G p e below (T.setTop (mkF m pc ls [.long v])) (own_E s n0 P C S) := by
  obtain ⟨⟨hx, hby, hml, hown, hnm, hret, hZ, hlk⟩, -, eT, locs, X, N⟩ := X
  subst hby
  obtain ⟨fs, hr, hrun, hended, hW, hsame⟩ := X.leave (v := some (.long v)) (fun q => by rw [hret] at q; cases q)
  exact ⟨_, _, X.lreturnOut hx hret hd hr, hrun, hended, _, _, rfl, ⟨N, by show P _ T.heap; rw [eT]; exact hP⟩, ⟨_, rfl⟩, hW, hsame.mono hk hn⟩
theorem own_retA {t : FieldType} (X : own_X p l e R s m args below meth c Z bytes maxL (some t) y n0 h T k n) (ht : t.isReference = true) (hd : decode bytes pc = .ok (.areturn, 1)) {v : Addr} (hk : k ≤ C) (hn : n ≤ S) (hP : P (some (.ref v)) h) : own_G p e below (T.setTop (mkF m pc ls [.ref v])) (own_E s n0 P C S) := by
  obtain ⟨⟨hx, hby, hml, hown, hnm, hret, hZ, hlk⟩, -, eT, locs, X, N⟩ := X
  subst hby
  obtain ⟨fs, hr, hrun, hended, hW, hsame⟩ := X.leave (v := some (.ref v)) (fun q => by rw [hret] at q; cases q)
  exact ⟨_, _, X.areturnOut hx rfl hret ht hd hr, hrun, hended, _, _, rfl, ⟨N, by show P _ T.heap; rw [eT]; exact hP⟩, ⟨_, rfl⟩, hW, hsame.mono hk hn⟩
theorem own_retV (X : own_X p l e R s m args below meth c Z bytes maxL none y n0 h T k n) (hd : decode bytes pc = .ok (.return_, 1)) (hk : k ≤ C) (hn : n ≤ S) (hP : P none h) : own_G p e below (T.setTop (mkF m pc ls [])) (own_E s n0 P C S) := by
  obtain ⟨⟨hx, hby, hml, hown, hnm, hret, hZ, hlk⟩, -, eT, locs, X, N⟩ := X
  subst hby
  obtain ⟨fs, hr, hrun, hended, hW, hsame⟩ := X.leave (v := none) (fun _ => rfl)
  exact ⟨_, _, X.returnOut hx hret hd hr, hrun, hended, _, _, rfl, ⟨N, by show P _ T.heap; rw [eT]; exact hP⟩, ⟨_, rfl⟩, hW, hsame.mono hk hn⟩
/-! calls -/
theorem own_callS (X : own_X p l e R s m args below meth c Z bytes maxL ret y n0 h T k n) {i : Nat} {z : MethodName} {zb : ByteArray} {zl : Nat} {zr : Option FieldType} {rm : Room} {as : Array Value} {P : Option Value → Heap → Prop}
    (w1 : (Jvm.Cond.methodLink y.cls i z).before a0 Z = true) (w2 : (Jvm.Cond.static z).before a0 Z = true) (w3 : (Jvm.Cond.initialized z.cls).before a0 Z = true) (w4 : (Jvm.Cond.code z zb zl zr).before a0 Z = true) (hy : z.cls ≠ "java/lang/invoke/MethodHandle" ∧ z.cls ≠ "java/lang/invoke/VarHandle")
    (K : own_C l Z z zb zl zr rm as h n0 P) (hd : decode bytes pc = .ok (.invokestatic i, 3)) (argsL rest : List Value) (hst : st = argsL.reverse ++ rest) (has : argsL.toArray = as) {ps : List FieldType} {pr : Option FieldType} (hsg : parseMethodDescriptor z.desc = some ⟨ps, pr⟩) (hlen : argsL.length = ps.length) (hsz : ls.size = maxL)
    (hf : rm.frames + 1 ≤ R.frames) (hl : (rest.map fun v => v.category).sum + (zl + 11) + rm.locals ≤ R.locals) (hc : k + rm.cells ≤ R.cells) (hs : n + rm.slots ≤ R.slots) (hn : ∀ v h', P v h' → n0 ≤ h'.size)
    (g : ∀ v h' T', own_X p l e R s m args below meth c Z bytes maxL ret y n0 h' T' (k + rm.cells) (n + rm.slots) → P v h' → own_G p e below (T'.setTop (mkF m (pc + 3) ls (v.toList ++ rest))) Q) : own_G p e below (T.setTop (mkF m pc ls st)) Q := by
  obtain ⟨M, hn0, eT, locs, X, N⟩ := X
  have M' := M
  obtain ⟨hx, hby, hml, hown, hnm, hret, hZ, hlk⟩ := M'
  subst hby hst has
  obtain ⟨v, vm₁, B, -, X', ⟨L, hq, l1, l2, l3⟩, stp⟩ := Jvm.LawKit.callS X hx (y := z) hown (mvT hZ w1) (mvT hZ w2) (mvT hZ w3) (mvT hZ w4) hy (backOf (W := (rest.map fun v => v.category).sum) (Q := fun v h' L => Fr n0 L ∧ P v h') (K []) hZ w4 w3 hf hl) (g := mkF m pc ls (argsL.reverse ++ rest)) rfl (hsz.trans hml.symm) (argsL := argsL) (rest := rest)
    (lenOf hsg hlen) rfl (Nat.le_of_eq (Nat.zero_add _)) hd (fun _ _ => ⟨rfl, eT, hc, hs⟩)
  obtain ⟨U, Lc, k', n'⟩ := B
  dsimp only [Pt.U, Pt.locs, Pt.cells, Pt.slots] at X' hq l1 l2 l3 stp
  subst l1 l2 l3
  exact own_st stp (g v U.heap U ⟨M, hn v _ hq.2, rfl, _, X', Fr.app N hq.1⟩ hq.2)
theorem own_callP (X : own_X p l e R s m args below meth c Z bytes maxL ret y n0 h T k n) {i : Nat} {z : MethodName} {zb : ByteArray} {zl : Nat} {zr : Option FieldType} {rm : Room} {as : Array Value} {v : Option Value}
    (w1 : (Jvm.Cond.methodLink y.cls i z).before a0 Z = true) (w2 : (Jvm.Cond.static z).before a0 Z = true) (w3 : (Jvm.Cond.initialized z.cls).before a0 Z = true) (w4 : (Jvm.Cond.code z zb zl zr).before a0 Z = true) (hy : z.cls ≠ "java/lang/invoke/MethodHandle" ∧ z.cls ≠ "java/lang/invoke/VarHandle")
    (K : own_C l Z z zb zl zr rm as h n0 (fun v' h' => v' = v ∧ h' = h)) (hd : decode bytes pc = .ok (.invokestatic i, 3)) (argsL rest : List Value) (hst : st = argsL.reverse ++ rest) (has : argsL.toArray = as) {ps : List FieldType} {pr : Option FieldType} (hsg : parseMethodDescriptor z.desc = some ⟨ps, pr⟩) (hlen : argsL.length = ps.length) (hsz : ls.size = maxL)
    (hf : rm.frames + 1 ≤ R.frames) (hl : (rest.map fun v => v.category).sum + (zl + 11) + rm.locals ≤ R.locals) (hc : k + rm.cells ≤ R.cells) (hs : n + rm.slots ≤ R.slots)
    (g : ∀ T', own_X p l e R s m args below meth c Z bytes maxL ret y n0 h T' (k + rm.cells) (n + rm.slots) → own_G p e below (T'.setTop (mkF m (pc + 3) ls (v.toList ++ rest))) Q) : own_G p e below (T.setTop (mkF m pc ls st)) Q :=
  own_callS X w1 w2 w3 w4 hy K hd argsL rest hst has hsg hlen hsz hf hl hc hs (fun v h' q => by rw [q.2]; exact X.2.1) (fun v' h' T' X' q => by obtain ⟨q1, q2⟩ := q; subst q1; rw [q2] at X'; exact g T' X')
theorem own_callN (X : own_X p l e R s m args below meth c Z bytes maxL ret y n0 h T k n) {i : Nat} {z : MethodName} {zb : ByteArray} {zl : Nat} {rm : Room} {as : Array Value} {P : Option Value → Heap → Prop} (hz : z.name = "<init>")
    (w1 : (Jvm.Cond.methodLink y.cls i z).before a0 Z = true) (w2 : (Jvm.Cond.instanceMethod z).before a0 Z = true) (w3 : (Jvm.Cond.initialized z.cls).before a0 Z = true) (w4 : (Jvm.Cond.code z zb zl none).before a0 Z = true) (hy : z.cls ≠ "java/lang/invoke/MethodHandle" ∧ z.cls ≠ "java/lang/invoke/VarHandle")
    (K : own_C l Z z zb zl none rm as h n0 P) (hd : decode bytes pc = .ok (.invokespecial i, 3)) {a : Addr} (argsL rest : List Value) (hst : st = argsL.reverse ++ .ref a :: rest) (has : (.ref a :: argsL).toArray = as) {ps : List FieldType} {pr : Option FieldType} (hsg : parseMethodDescriptor z.desc = some ⟨ps, pr⟩) (hlen : argsL.length = ps.length) (hsz : ls.size = maxL)
    (hf : rm.frames + 1 ≤ R.frames) (hl : (rest.map fun v => v.category).sum + (zl + 11) + rm.locals ≤ R.locals) (hc : k + rm.cells ≤ R.cells) (hs : n + rm.slots ≤ R.slots) (hn : ∀ v h', P v h' → n0 ≤ h'.size)
    (g : ∀ v h' T', own_X p l e R s m args below meth c Z bytes maxL ret y n0 h' T' (k + rm.cells) (n + rm.slots) → P v h' → own_G p e below (T'.setTop (mkF m (pc + 3) ls (v.toList ++ rest))) Q) : own_G p e below (T.setTop (mkF m pc ls st)) Q := by
  obtain ⟨M, hn0, eT, locs, X, N⟩ := X
  have M' := M
  obtain ⟨hx, hby, hml, hown, hnm, hret, hZ, hlk⟩ := M'
  subst hby hst has
  obtain ⟨v, vm₁, B, -, X', ⟨L, hq, l1, l2, l3⟩, stp⟩ := X.specialBack hx (y := z) hz hown (mvT hZ w1) (mvT hZ w2) (mvT hZ w4) hy (backOf (W := (rest.map fun v => v.category).sum) (Q := fun v h' L => Fr n0 L ∧ P v h') (K []) hZ w4 w3 hf hl) (g := mkF m pc ls (argsL.reverse ++ .ref a :: rest)) rfl (hsz.trans hml.symm) (Steps.refl _) (a := a) (argsL := argsL) (rest := rest)
    (lenOf hsg hlen) rfl (Nat.le_of_eq (Nat.zero_add _)) hd (fun _ _ => ⟨rfl, eT, hc, hs⟩)
  obtain ⟨U, Lc, k', n'⟩ := B
  dsimp only [Pt.U, Pt.locs, Pt.cells, Pt.slots] at X' hq l1 l2 l3 stp
  subst l1 l2 l3
  exact own_st (fun t q => stp.trans q) (g v U.heap U ⟨M, hn v _ hq.2, rfl, _, X', Fr.app N hq.1⟩ hq.2)
theorem own_callV (X : own_X p l e R s m args below meth c Z bytes maxL ret y n0 h T k n) {i : Nat} {z : MethodName} {zb : ByteArray} {zl : Nat} {zr : Option FieldType} {rm : Room} {as : Array Value} {P : Option Value → Heap → Prop}
    (w1 : (Jvm.Cond.methodLink y.cls i z).before a0 Z = true) (w2 : (Jvm.Cond.declares z).before a0 Z = true) (w5 : (Jvm.Cond.selects z.cls z z).before a0 Z = true) (w6 : (Jvm.Cond.instanceMethod z).before a0 Z = true) (w3 : (Jvm.Cond.initialized z.cls).before a0 Z = true) (w4 : (Jvm.Cond.code z zb zl zr).before a0 Z = true) (hy : z.cls ≠ "java/lang/invoke/MethodHandle" ∧ z.cls ≠ "java/lang/invoke/VarHandle")
    {a : Addr} (E : Exa Z h a z.cls) (K : own_C l Z z zb zl zr rm as h n0 P) (hd : decode bytes pc = .ok (.invokevirtual i, 3)) (argsL rest : List Value) (hst : st = argsL.reverse ++ .ref a :: rest) (has : (.ref a :: argsL).toArray = as) {ps : List FieldType} {pr : Option FieldType} (hsg : parseMethodDescriptor z.desc = some ⟨ps, pr⟩) (hlen : argsL.length = ps.length) (hsz : ls.size = maxL)
    (hf : rm.frames + 1 ≤ R.frames) (hl : (rest.map fun v => v.category).sum + (zl + 11) + rm.locals ≤ R.locals) (hc : k + rm.cells ≤ R.cells) (hs : n + rm.slots ≤ R.slots) (hn : ∀ v h', P v h' → n0 ≤ h'.size)
    (g : ∀ v h' T', own_X p l e R s m args below meth c Z bytes maxL ret y n0 h' T' (k + rm.cells) (n + rm.slots) → P v h' → own_G p e below (T'.setTop (mkF m (pc + 3) ls (v.toList ++ rest))) Q) : own_G p e below (T.setTop (mkF m pc ls st)) Q := by
  obtain ⟨M, hn0, eT, locs, X, N⟩ := X
  have M' := M
  obtain ⟨hx, hby, hml, hown, hnm, hret, hZ, hlk⟩ := M'
  subst hby hst has
  obtain ⟨cq, kq, qa, qb, qc⟩ := isOf hZ eT E
  obtain ⟨v, vm₁, B, -, X', ⟨L, hq, l1, l2, l3⟩, stp⟩ := X.virtualBack hx (y := z) (z := z) hown (mvT hZ w1) (mvT hZ w2) (notFace_of_selects (args := #[]) (mvT hZ w5)) (mvT hZ w5) (mvT hZ w6) hy (backOf (W := (rest.map fun v => v.category).sum) (Q := fun v h' L => Fr n0 L ∧ P v h') (K []) hZ w4 w3 hf hl) qa qc (g := mkF m pc ls (argsL.reverse ++ .ref a :: rest)) rfl (hsz.trans hml.symm) (Steps.refl _) (argsL := argsL) (rest := rest)
    (lenOf hsg hlen) rfl (Nat.le_of_eq (Nat.zero_add _)) hd (fun _ _ => ⟨rfl, eT, hc, hs⟩)
  obtain ⟨U, Lc, k', n'⟩ := B
  dsimp only [Pt.U, Pt.locs, Pt.cells, Pt.slots] at X' hq l1 l2 l3 stp
  subst l1 l2 l3
  exact own_st (fun t q => stp.trans q) (g v U.heap U ⟨M, hn v _ hq.2, rfl, _, X', Fr.app N hq.1⟩ hq.2)
/-! fields -/
theorem own_getF (X : own_X p l e R s m args below meth c Z bytes maxL ret y n0 h T k n) {i : Nat} {O f d : String} (w : (Jvm.Cond.fieldLink y.cls i O f d).before a0 Z = true) {a : Addr} {v : Value} (F : Fld Z h a O f d v) (hd : decode bytes pc = .ok (.getfield i, 3))
    (g : ∀ T', own_X p l e R s m args below meth c Z bytes maxL ret y n0 h T' k n → own_G p e below (T'.setTop (mkF m (pc + 3) ls (v :: st))) Q) : own_G p e below (T.setTop (mkF m pc ls (.ref a :: st))) Q := by
  obtain ⟨M, hn0, eT, locs, X, N⟩ := X
  have M' := M
  obtain ⟨hx, hby, hml, hown, hnm, hret, hZ, hlk⟩ := M'
  subst hby
  obtain ⟨T', X', e', stp⟩ := getF X hx hZ hown (host := "") (Or.inl w) Via.refl eT F (g := mkF m pc ls (.ref a :: st)) rfl rfl hd
  exact own_st stp (g T' ⟨M, hn0, e', _, X', N⟩)
theorem own_putF (X : own_X p l e R s m args below meth c Z bytes maxL ret y n0 h T k n) {i kk : Nat} {O f d K : String} {ty : FieldType} (w : (Jvm.Cond.fieldLink y.cls i O f d).before a0 Z = true) {a : Addr} {v old : Value} (F : Fld Z h a O f d old) (E : Exa Z h a K) (L : (Jvm.Cond.lays K O f d).before a0 Z = true ∨ ((Jvm.Cond.laysFinal K O f d).before a0 Z = true ∧ y.cls = O ∧ y.name = "<init>")) (wi : (Jvm.Cond.instantiable K kk).before a0 Z = true)
    (hty : parseFieldDescriptor d = some ty) (hn : narrow ty v = v) (hf : fits ty v = true) (ha : n0 ≤ a) (hd : decode bytes pc = .ok (.putfield i, 3))
    (g : ∀ h' T', own_X p l e R s m args below meth c Z bytes maxL ret y n0 h' T' k n → Wr h h' a (Jvm.RoadKit.slotOf Z O f d) v → own_G p e below (T'.setTop (mkF m (pc + 3) ls st)) Q) : own_G p e below (T.setTop (mkF m pc ls (v :: .ref a :: st))) Q := by
  obtain ⟨M, hn0, eT, locs, X, N⟩ := X
  have M' := M
  obtain ⟨hx, hby, hml, hown, hnm, hret, hZ, hlk⟩ := M'
  subst hby
  obtain ⟨T', h', X', e', W', stp⟩ := putF X hx hZ hown (host := "") (Or.inl w) Via.refl eT F E (L.imp id fun q => ⟨q.1, q.2.1, hnm.trans q.2.2⟩) wi hty hn hf (g := mkF m pc ls (v :: .ref a :: st)) rfl rfl hd
  exact own_st stp (g h' T' ⟨M, by rw [W'.size]; exact hn0, e', _, X', Fr.snoc X' N ha⟩ W')
/-! new -/
theorem own_newO (X : own_X p l e R s m args below meth c Z bytes maxL ret y n0 h T k n) {i nn : Nat} {K : String} (w : (Jvm.Cond.classLink y.cls i K).before a0 Z = true) (wi : (Jvm.Cond.instantiable K nn).before a0 Z = true) (wz : (Jvm.Cond.initialized K).before a0 Z = true) (hd : decode bytes pc = .ok (.new i, 3)) (hc : k + 1 ≤ R.cells) (hs : n + nn ≤ R.slots)
    (g : ∀ h' T', own_X p l e R s m args below meth c Z bytes maxL ret y n0 h' T' (k + 1) (n + nn) → Ext h h' → Exa Z h' h.size K → (∀ {O nm d : String} {ty : FieldType}, Laid Z a0 K O nm d → parseFieldDescriptor d = some ty → Fld Z h' h.size O nm d (defaultValue ty)) → own_G p e below (T'.setTop (mkF m (pc + 3) ls (.ref h.size :: st))) Q) : own_G p e below (T.setTop (mkF m pc ls st)) Q := by
  obtain ⟨M, hn0, eT, locs, X, N⟩ := X
  have M' := M
  obtain ⟨hx, hby, hml, hown, hnm, hret, hZ, hlk⟩ := M'
  subst hby
  obtain ⟨T', h', X', e', E', A', D', -, stp⟩ := newO X hx hZ hown w wi wz eT (g := mkF m pc ls st) rfl hd hc hs
  exact own_st stp (g h' T' ⟨M, Nat.le_trans hn0 E'.1, e', _, X', N⟩ E' A' D')
end Walk
/-! ### own layer 3: arrays: the array at a has n places, place j holds f j -/
def own_A (Z : State) (h : Heap) (a : Addr) (ty : FieldType) (n : Nat) (f : Int → Value) : Prop := n < 2147483648 ∧ ∃ c : Cell, Arr Z h a c ty ∧ c.slots.size = n ∧ ∀ j : Nat, j < n → c.slots[j]? = some (f (j : Int))
def own_u {α : Type} (f : Int → α) (i : Int) (x : α) : Int → α := fun j => if j = i then x else f j
section Arrs
variable {Z : State} {h h' : Heap} {a b : Addr} {ty : FieldType} {n : Nat} {f : Int → Value}
theorem own_A_lt (A : own_A Z h a ty n f) : a < h.size := by obtain ⟨-, c, A, -⟩ := A; exact A.lt
theorem own_A_ext (A : own_A Z h a ty n f) (E : Ext h h') : own_A Z h' a ty n f := by obtain ⟨q, c, A, r⟩ := A; exact ⟨q, c, A.ext E, r⟩
theorem own_A_other (A : own_A Z h b ty n f) {sl : Nat} {v : Value} (W : Wr h h' a sl v) (q : b ≠ a) : own_A Z h' b ty n f := by obtain ⟨q1, c, A, r⟩ := A; exact ⟨q1, c, A.other W q, r⟩
theorem own_A_keep (A : own_A Z h a ty n f) {ws : List Addr} (K : Keep h h' ws) (q : a ∉ ws) : own_A Z h' a ty n f := by obtain ⟨q1, c, A, r⟩ := A; exact ⟨q1, c, ⟨K.2.1 a c A.1 q, A.2⟩, r⟩
theorem own_A_new {k : ClassId} {z : Int32} (A : Arr Z h a (newA k ty z) ty) (q : 0 ≤ z.toInt) : own_A Z h a ty z.toInt.toNat (fun _ => defaultValue ty) := by
  have := Int32.toInt_lt z
  refine ⟨by omega, _, A, by rw [sz_new]; rfl, fun j hj => ?_⟩
  have hj' : j < z.toNatClampNeg := hj
  simp [newA, hj']
theorem own_A_set {sl : Nat} {v : Value} (A : own_A Z h a ty n f) (W : Wr h h' a sl v) (i : Int) (hi : i = (sl : Int)) : own_A Z h' a ty n (own_u f i v) := by
  obtain ⟨q, c, A, S, H⟩ := A
  have W0 := W
  obtain ⟨c2, g1, -, g3, -⟩ := W0
  cases g1.symm.trans A.1
  refine ⟨q, _, A.same W, by rw [sz_set]; exact S, fun j hj => ?_⟩
  subst hi
  by_cases u : j = sl
  · subst u; simp [Cell.setSlot, own_u, g3]
  · have e1 : ¬ ((j : Int) = (sl : Int)) := by omega
    simp only [own_u, e1, if_false, Cell.setSlot]
    rw [Array.getElem?_setIfInBounds_ne (fun q => u q.symm)]
    exact H j hj
theorem own_A_eq {g : Int → Value} (A : own_A Z h a ty n f) (q : ∀ j : Int, 0 ≤ j → j < n → g j = f j) : own_A Z h a ty n g := by
  obtain ⟨q1, c, A, S, H⟩ := A
  exact ⟨q1, c, A, S, fun j hj => by rw [H j hj, q j (by omega) (by omega)]⟩
theorem own_tnc (j : Int32) : j.toNatClampNeg = j.toInt.toNat := rfl
theorem own_z32 : (0 : Int32).toInt = 0 := rfl
theorem own_idx {j : Int32} (h0 : 0 ≤ j.toInt) : ¬ j < 0 := by rw [Int32.lt_iff_toInt_lt, own_z32]; omega
theorem own_inb {j : Int32} {cl : Cell} (S : cl.slots.size = n) (h0 : 0 ≤ j.toInt) (h1 : j.toInt < n) : ¬ (j < 0 ∨ cl.slots.size ≤ j.toNatClampNeg) := by
  rw [Int32.lt_iff_toInt_lt, S, own_z32, own_tnc]; omega
theorem own_nat {j : Int32} (h0 : 0 ≤ j.toInt) : j.toInt = (j.toNatClampNeg : Int) := by rw [own_tnc]; omega
end Arrs
/-- the same, of ints -/
def own_I (Z : State) (h : Heap) (a : Addr) (ty : FieldType) (n : Nat) (g : Int → Int32) : Prop := own_A Z h a ty n (fun j => .int (g j))
theorem own_I_ext {Z : State} {h h' : Heap} {a : Addr} {ty : FieldType} {n : Nat} {g : Int → Int32} (A : own_I Z h a ty n g) (E : Ext h h') : own_I Z h' a ty n g := own_A_ext A E
theorem own_I_other {Z : State} {h h' : Heap} {a b : Addr} {ty : FieldType} {n : Nat} {g : Int → Int32} (A : own_I Z h b ty n g) {sl : Nat} {v : Value} (W : Wr h h' a sl v) (q : b ≠ a) : own_I Z h' b ty n g := own_A_other A W q
theorem own_I_keep {Z : State} {h h' : Heap} {a : Addr} {ty : FieldType} {n : Nat} {g : Int → Int32} (A : own_I Z h a ty n g) {ws : List Addr} (K : Keep h h' ws) (q : a ∉ ws) : own_I Z h' a ty n g := own_A_keep A K q
theorem own_I_eq {Z : State} {h : Heap} {a : Addr} {ty : FieldType} {n : Nat} {f g : Int → Int32} (A : own_I Z h a ty n f) (q : ∀ j : Int, 0 ≤ j → j < n → g j = f j) : own_I Z h a ty n g := own_A_eq A (fun j h0 h1 => by rw [q j h0 h1])
theorem own_I_set {Z : State} {h h' : Heap} {a : Addr} {ty : FieldType} {n : Nat} {g : Int → Int32} {sl : Nat} {x : Int32} (A : own_I Z h a ty n g) (W : Wr h h' a sl (.int x)) (i : Int) (hi : i = (sl : Int)) : own_I Z h' a ty n (own_u g i x) :=
  own_A_eq (own_A_set A W i hi) (fun j _ _ => by simp only [own_u]; split <;> rfl)
theorem own_u_ne {α : Type} {g : Int → α} {i j : Int} {x : α} (h : j ≠ i) : own_u g i x j = g j := if_neg h
theorem own_u_eq {α : Type} {g : Int → α} {i j : Int} {x : α} (h : j = i) : own_u g i x j = x := if_pos h
section Arrs2
variable {p : Program} {l : Launch} {e : Env} {R : Room} {s : State} {m : MethodId} {args : Array Value} {below : List Frame} {meth : Method} {c : Code} {Z : State} {bytes : ByteArray} {maxL : Nat} {ret : Option FieldType} {y : MethodName} {n0 : Nat} {h : Heap} {T : State} {k n : Nat} {Q : Outcome → State → Prop} {pc pc' : Nat} {ls ls' : Array Slot} {st st' : List Value} {a0 : Array Value} {a : Addr} {nn : Nat} {f : Int → Value} {gg : Int → Int32}
theorem own_len (X : own_X p l e R s m args below meth c Z bytes maxL ret y n0 h T k n) {ty : FieldType} (A : own_A Z h a ty nn f) (hd : decode bytes pc = .ok (.arraylength, 1)) (g : own_G p e below (T.setTop (mkF m (pc + 1) ls (.int (Int32.ofNat nn) :: st))) Q) : own_G p e below (T.setTop (mkF m pc ls (.ref a :: st))) Q := by
  obtain ⟨⟨hx, hby, hml, hown, hnm, hret, hZ, hlk⟩, hn0, eT, locs, X, N⟩ := X
  obtain ⟨q, cl, A, S, H⟩ := A
  subst hby
  refine own_st (fun t q => X.arraylength hx (by rw [eT]; exact A.1) (State.isArrayOf_alike hZ.alike A.2.1) (g := mkF m pc ls (.ref a :: st)) rfl rfl hd t q) ?_
  show own_G p e below (T.setTop (mkF m (pc + 1) ls (.int cl.slots.size.toInt32 :: st))) Q
  rw [S]
  exact g
theorem own_iald (X : own_X p l e R s m args below meth c Z bytes maxL ret y n0 h T k n) (A : own_I Z h a .int nn gg) (hd : decode bytes pc = .ok (.iaload, 1)) {j : Int32} (h0 : 0 ≤ j.toInt) (h1 : j.toInt < nn) (g : own_G p e below (T.setTop (mkF m (pc + 1) ls (.int (gg j.toInt) :: st))) Q) : own_G p e below (T.setTop (mkF m pc ls (.int j :: .ref a :: st))) Q := by
  obtain ⟨⟨hx, hby, hml, hown, hnm, hret, hZ, hlk⟩, hn0, eT, locs, X, N⟩ := X
  obtain ⟨q, cl, A, S, H⟩ := A
  subst hby
  have e1 := own_nat h0
  refine own_st (fun t q => X.iaload hx (by rw [eT]; exact A.1) (State.isArrayOf_alike hZ.alike A.2.1) A.2.2 (own_inb S h0 h1) (H _ (by omega)) (g := mkF m pc ls (.int j :: .ref a :: st)) rfl rfl hd t q) ?_
  show own_G p e below (T.setTop (mkF m (pc + 1) ls (.int (gg (j.toNatClampNeg : Int)) :: st))) Q
  rw [← e1]
  exact g
theorem own_bald (X : own_X p l e R s m args below meth c Z bytes maxL ret y n0 h T k n) (A : own_I Z h a .byte nn gg) (hd : decode bytes pc = .ok (.baload, 1)) {j : Int32} (h0 : 0 ≤ j.toInt) (h1 : j.toInt < nn) (g : own_G p e below (T.setTop (mkF m (pc + 1) ls (.int (gg j.toInt) :: st))) Q) : own_G p e below (T.setTop (mkF m pc ls (.int j :: .ref a :: st))) Q := by
  obtain ⟨⟨hx, hby, hml, hown, hnm, hret, hZ, hlk⟩, hn0, eT, locs, X, N⟩ := X
  obtain ⟨q, cl, A, S, H⟩ := A
  subst hby
  have e1 := own_nat h0
  refine own_st (fun t q => X.baloadBytes hx (by rw [eT]; exact A.1) (State.isArrayOf_alike hZ.alike A.2.1) A.2.2 (own_inb S h0 h1) (H _ (by omega)) (g := mkF m pc ls (.int j :: .ref a :: st)) rfl rfl hd t q) ?_
  show own_G p e below (T.setTop (mkF m (pc + 1) ls (.int (gg (j.toNatClampNeg : Int)) :: st))) Q
  rw [← e1]
  exact g
theorem own_zald (X : own_X p l e R s m args below meth c Z bytes maxL ret y n0 h T k n) (A : own_I Z h a .boolean nn gg) (hd : decode bytes pc = .ok (.baload, 1)) {j : Int32} (h0 : 0 ≤ j.toInt) (h1 : j.toInt < nn) (g : own_G p e below (T.setTop (mkF m (pc + 1) ls (.int (gg j.toInt) :: st))) Q) : own_G p e below (T.setTop (mkF m pc ls (.int j :: .ref a :: st))) Q := by
  obtain ⟨⟨hx, hby, hml, hown, hnm, hret, hZ, hlk⟩, hn0, eT, locs, X, N⟩ := X
  obtain ⟨q, cl, A, S, H⟩ := A
  subst hby
  have e1 := own_nat h0
  refine own_st (fun t q => X.baloadBooleans hx (by rw [eT]; exact A.1) (State.isArrayOf_alike hZ.alike A.2.1) A.2.2 (own_inb S h0 h1) (H _ (by omega)) (g := mkF m pc ls (.int j :: .ref a :: st)) rfl rfl hd t q) ?_
  show own_G p e below (T.setTop (mkF m (pc + 1) ls (.int (gg (j.toNatClampNeg : Int)) :: st))) Q
  rw [← e1]
  exact g
theorem own_iast (X : own_X p l e R s m args below meth c Z bytes maxL ret y n0 h T k n) (A : own_I Z h a .int nn gg) (ha : n0 ≤ a) (hd : decode bytes pc = .ok (.iastore, 1)) {j x : Int32} (h0 : 0 ≤ j.toInt) (h1 : j.toInt < nn)
    (g : ∀ h' T', own_X p l e R s m args below meth c Z bytes maxL ret y n0 h' T' k n → own_I Z h' a .int nn (own_u gg j.toInt x) → Wr h h' a j.toNatClampNeg (.int x) → own_G p e below (T'.setTop (mkF m (pc + 1) ls st)) Q) : own_G p e below (T.setTop (mkF m pc ls (.int x :: .int j :: .ref a :: st))) Q := by
  obtain ⟨M, hn0, eT, locs, X, N⟩ := X
  have M' := M
  obtain ⟨hx, hby, hml, hown, hnm, hret, hZ, hlk⟩ := M'
  have AA := A
  obtain ⟨q, cl, A, S, H⟩ := A
  subst hby
  obtain ⟨T', h', X', e', W', stp⟩ := stI X hx hZ eT A (own_inb S h0 h1) (g := mkF m pc ls (.int x :: .int j :: .ref a :: st)) rfl rfl hd
  exact own_st stp (g h' T' ⟨M, by rw [W'.size]; exact hn0, e', _, X', Fr.snoc X' N ha⟩ (own_I_set AA W' _ (own_nat h0)) W')
theorem own_bast (X : own_X p l e R s m args below meth c Z bytes maxL ret y n0 h T k n) (A : own_I Z h a .byte nn gg) (ha : n0 ≤ a) (hd : decode bytes pc = .ok (.bastore, 1)) {j x : Int32} (h0 : 0 ≤ j.toInt) (h1 : j.toInt < nn) (hx8 : x.toInt8.toInt32 = x)
    (g : ∀ h' T', own_X p l e R s m args below meth c Z bytes maxL ret y n0 h' T' k n → own_I Z h' a .byte nn (own_u gg j.toInt x) → Wr h h' a j.toNatClampNeg (.int x) → own_G p e below (T'.setTop (mkF m (pc + 1) ls st)) Q) : own_G p e below (T.setTop (mkF m pc ls (.int x :: .int j :: .ref a :: st))) Q := by
  obtain ⟨M, hn0, eT, locs, X, N⟩ := X
  have M' := M
  obtain ⟨hx, hby, hml, hown, hnm, hret, hZ, hlk⟩ := M'
  have AA := A
  obtain ⟨q, cl, A, S, H⟩ := A
  subst hby
  obtain ⟨T', h', X', e', W', stp⟩ := stB X hx hZ eT A (own_inb S h0 h1) (g := mkF m pc ls (.int x :: .int j :: .ref a :: st)) rfl rfl hd
  have W2 : Wr h h' a j.toNatClampNeg (.int x) := by have q := W'; simp only [nar, hx8] at q; exact q
  exact own_st stp (g h' T' ⟨M, by rw [W'.size]; exact hn0, e', _, X', Fr.snoc X' N ha⟩ (own_I_set AA W2 _ (own_nat h0)) W2)
theorem own_zast (X : own_X p l e R s m args below meth c Z bytes maxL ret y n0 h T k n) (A : own_I Z h a .boolean nn gg) (ha : n0 ≤ a) (hd : decode bytes pc = .ok (.bastore, 1)) {j x : Int32} (h0 : 0 ≤ j.toInt) (h1 : j.toInt < nn) (hx1 : x &&& 1 = x)
    (g : ∀ h' T', own_X p l e R s m args below meth c Z bytes maxL ret y n0 h' T' k n → own_I Z h' a .boolean nn (own_u gg j.toInt x) → Wr h h' a j.toNatClampNeg (.int x) → own_G p e below (T'.setTop (mkF m (pc + 1) ls st)) Q) : own_G p e below (T.setTop (mkF m pc ls (.int x :: .int j :: .ref a :: st))) Q := by
  obtain ⟨M, hn0, eT, locs, X, N⟩ := X
  have M' := M
  obtain ⟨hx, hby, hml, hown, hnm, hret, hZ, hlk⟩ := M'
  have AA := A
  obtain ⟨q, cl, A, S, H⟩ := A
  subst hby
  obtain ⟨T', h', X', e', W', stp⟩ := stZ X hx hZ eT A (own_inb S h0 h1) (g := mkF m pc ls (.int x :: .int j :: .ref a :: st)) rfl rfl hd
  have W2 : Wr h h' a j.toNatClampNeg (.int x) := by have q := W'; simp only [nar, hx1] at q; exact q
  exact own_st stp (g h' T' ⟨M, by rw [W'.size]; exact hn0, e', _, X', Fr.snoc X' N ha⟩ (own_I_set AA W2 _ (own_nat h0)) W2)
theorem own_jast (X : own_X p l e R s m args below meth c Z bytes maxL ret y n0 h T k n) (A : own_A Z h a .long nn f) (ha : n0 ≤ a) (hd : decode bytes pc = .ok (.lastore, 1)) {j : Int32} {x : Int64} (h0 : 0 ≤ j.toInt) (h1 : j.toInt < nn)
    (g : ∀ h' T', own_X p l e R s m args below meth c Z bytes maxL ret y n0 h' T' k n → own_A Z h' a .long nn (own_u f j.toInt (.long x)) → Wr h h' a j.toNatClampNeg (.long x) → own_G p e below (T'.setTop (mkF m (pc + 1) ls st)) Q) : own_G p e below (T.setTop (mkF m pc ls (.long x :: .int j :: .ref a :: st))) Q := by
  obtain ⟨M, hn0, eT, locs, X, N⟩ := X
  have M' := M
  obtain ⟨hx, hby, hml, hown, hnm, hret, hZ, hlk⟩ := M'
  have AA := A
  obtain ⟨q, cl, A, S, H⟩ := A
  subst hby
  obtain ⟨T', h', X', e', W', stp⟩ := stJ X hx hZ eT A (own_inb S h0 h1) (g := mkF m pc ls (.long x :: .int j :: .ref a :: st)) rfl rfl hd
  exact own_st stp (g h' T' ⟨M, by rw [W'.size]; exact hn0, e', _, X', Fr.snoc X' N ha⟩ (own_A_set AA W' _ (own_nat h0)) W')
theorem own_newP (X : own_X p l e R s m args below meth c Z bytes maxL ret y n0 h T k n) {aty : ArrayType} (w : (Jvm.Cond.arrayClass (newarray.typeOf aty)).before a0 Z = true) (hd : decode bytes pc = .ok (.newarray aty, 2)) {v : Int32} (h0 : 0 ≤ v.toInt) (cap : Nat) (hcap : v.toInt ≤ cap) (hb : cap * 8 ≤ 536870912) (hc : k + 1 ≤ R.cells) (hs : n + cap ≤ R.slots)
    (g : ∀ h' T', own_X p l e R s m args below meth c Z bytes maxL ret y n0 h' T' (k + 1) (n + cap) → Ext h h' → own_A Z h' h.size (newarray.typeOf aty) v.toInt.toNat (fun _ => defaultValue (newarray.typeOf aty)) → own_G p e below (T'.setTop (mkF m (pc + 2) ls (.ref h.size :: st))) Q) : own_G p e below (T.setTop (mkF m pc ls (.int v :: st))) Q := by
  obtain ⟨M, hn0, eT, locs, X, N⟩ := X
  have M' := M
  obtain ⟨hx, hby, hml, hown, hnm, hret, hZ, hlk⟩ := M'
  subst hby
  have e1 := own_nat h0
  obtain ⟨T', h', cA, X', e', E', A', stp⟩ := newP X hx hZ w eT (g := mkF m pc ls (.int v :: st)) rfl hd rfl (own_idx h0) (cap := cap) (by omega) hb hc hs
  exact own_st stp (g h' T' ⟨M, Nat.le_trans hn0 E'.1, e', _, X', N⟩ E' (own_A_new A' h0))
theorem own_newI (X : own_X p l e R s m args below meth c Z bytes maxL ret y n0 h T k n) {aty : ArrayType} (w : (Jvm.Cond.arrayClass (newarray.typeOf aty)).before a0 Z = true) (hdf : defaultValue (newarray.typeOf aty) = .int 0) (hd : decode bytes pc = .ok (.newarray aty, 2)) {v : Int32} (h0 : 0 ≤ v.toInt) (cap : Nat) (hcap : v.toInt ≤ cap) (hb : cap * 8 ≤ 536870912) (hc : k + 1 ≤ R.cells) (hs : n + cap ≤ R.slots)
    (g : ∀ h' T', own_X p l e R s m args below meth c Z bytes maxL ret y n0 h' T' (k + 1) (n + cap) → Ext h h' → own_I Z h' h.size (newarray.typeOf aty) v.toInt.toNat (fun _ => 0) → own_G p e below (T'.setTop (mkF m (pc + 2) ls (.ref h.size :: st))) Q) : own_G p e below (T.setTop (mkF m pc ls (.int v :: st))) Q :=
  own_newP X w hd h0 cap hcap hb hc hs (fun h' T' X' E A => g h' T' X' E (own_A_eq A fun _ _ _ => hdf.symm))
end Arrs2
/-! ### own numbers -/
theorem own_addc {x k : Int32} {d : Int} (hk : k.toInt = d) (h1 : -2147483648 ≤ x.toInt + d) (h2 : x.toInt + d < 2147483648) : (x + k).toInt = x.toInt + d := by
  subst hk; exact Jvm.Kit.i32_add (by omega) (by omega)
theorem own_subc {x k : Int32} {d : Int} (hk : k.toInt = d) (h1 : -2147483648 ≤ x.toInt - d) (h2 : x.toInt - d < 2147483648) : (x - k).toInt = x.toInt - d := by
  subst hk; exact Jvm.Kit.i32_sub (by omega) (by omega)
theorem own_mulc {x k : Int32} {d : Int} (hk : k.toInt = d) (h1 : -2147483648 ≤ x.toInt * d) (h2 : x.toInt * d < 2147483648) : (x * k).toInt = x.toInt * d := by
  subst hk; exact Jvm.Kit.i32_mul (by omega) (by omega)
theorem own_i2b_int (x : Int32) : (own_i2b x).toInt = x.toInt.bmod 256 := by
  simp [own_i2b, Int8.toInt_toInt32, Int32.toInt_toInt8]
theorem own_i2b_b (x : Int32) : -128 ≤ (own_i2b x).toInt ∧ (own_i2b x).toInt < 128 ∧ (own_i2b x).toInt % 256 = x.toInt % 256 := by
  rw [own_i2b_int]
  have h1 := Int.bmod_emod (x := x.toInt) (m := 256)
  have h2 := Int.le_bmod (x := x.toInt) (m := 256) (by decide)
  have h3 := Int.bmod_lt (x := x.toInt) (m := 256) (by decide)
  omega
theorem own_i2b_fix (x : Int32) : (own_i2b x).toInt8.toInt32 = own_i2b x := by
  simp [own_i2b]
theorem own_i2b_id {x : Int32} (h1 : -128 ≤ x.toInt) (h2 : x.toInt < 128) : own_i2b x = x := by
  apply Int32.toInt_inj.mp
  have := own_i2b_b x
  omega
theorem own_irem_int (x y : Int32) : (own_irem x y).toInt = x.toInt.tmod y.toInt := by
  have a := (x % y).toInt_lt; have b := (x % y).le_toInt
  rw [Int32.toInt_mod] at a b
  rw [own_irem, Int32.toInt_sub, Int32.toInt_mul, Int32.toInt_div, Int.bmod_mul_bmod, Int.sub_bmod_bmod, Int.mul_comm, ← Int.tmod_def]
  exact Jvm.Kit.bmod32 b a
theorem own_irem_pos {x y : Int32} (h : 0 ≤ x.toInt) : (own_irem x y).toInt = x.toInt % y.toInt := by rw [own_irem_int, Int.tmod_eq_emod_of_nonneg h]
theorem own_idiv_pos {x y : Int32} (h : 0 ≤ x.toInt) : (x / y).toInt = x.toInt / y.toInt := by
  have a := x.toInt_lt
  rw [Jvm.Kit.i32_div (by omega), Int.tdiv_eq_ediv_of_nonneg h]
theorem own_lrem_pos {x y : Int64} (h : 0 ≤ x.toInt) : (own_lrem x y).toInt = x.toInt % y.toInt := by rw [own_lrem]; exact Jvm.Kit.i64_rem_nonneg h
theorem own_ldiv_pos {x y : Int64} (h : 0 ≤ x.toInt) : (x / y).toInt = x.toInt / y.toInt := by
  have a := x.toInt_lt
  rw [Jvm.Kit.i64_div (by omega), Int.tdiv_eq_ediv_of_nonneg h]
/-! bits -/
theorem own_lushr_bv (x : Int64) (y : Int32) (k : Nat) (hk : ((y &&& 0x3f).toInt64.toBitVec % 64).toNat = k) : (own_lushr x y).toBitVec = x.toBitVec >>> k := by
  simp only [own_lushr, UInt64.toBitVec_toInt64, UInt64.toBitVec_shiftRight, Int64.toBitVec_toUInt64, BitVec.ushiftRight_eq', hk]
theorem own_lshl_bv (x : Int64) (y : Int32) (k : Nat) (hk : ((y &&& 0x3f).toInt64.toBitVec.smod 64#64).toNat = k) : (own_lshl x y).toBitVec = x.toBitVec <<< k := by
  have e : (own_lshl x y).toBitVec = x.toBitVec <<< ((y &&& 0x3f).toInt64.toBitVec.smod 64#64) := rfl
  rw [e, BitVec.shiftLeft_eq', hk]
theorem own_iushr_bv (x : Int32) (y : Int32) (k : Nat) (hk : ((y &&& 31).toBitVec % 32).toNat = k) : (own_iushr x y).toBitVec = x.toBitVec >>> k := by
  simp only [own_iushr, UInt32.toBitVec_toInt32, UInt32.toBitVec_shiftRight, Int32.toBitVec_toUInt32, BitVec.ushiftRight_eq', hk]
theorem own_iushr_int (x y : Int32) (k : Nat) (hk : ((y &&& 31).toBitVec % 32).toNat = k) (h : 0 ≤ x.toInt) : (own_iushr x y).toInt = x.toInt / 2 ^ k := by
  have e : (own_iushr x y).toInt = (own_iushr x y).toBitVec.toInt := rfl
  have e1 : x.toInt = x.toBitVec.toInt := rfl
  rw [e, own_iushr_bv x y k hk, e1]
  rw [e1] at h
  have h2 : x.toBitVec.toInt = (x.toBitVec.toNat : Int) := by
    rw [BitVec.toInt_eq_toNat_cond] at h ⊢
    split at h
    · rw [if_pos (by assumption)]
    · have := x.toBitVec.isLt; omega
  have h3 : 2 * x.toBitVec.toNat < 2 ^ 32 := by
    have := BitVec.toInt_lt (x := x.toBitVec); omega
  rw [BitVec.toInt_eq_toNat_cond, BitVec.toNat_ushiftRight, Nat.shiftRight_eq_div_pow]
  have h4 : x.toBitVec.toNat / 2 ^ k ≤ x.toBitVec.toNat := Nat.div_le_self _ _
  rw [if_pos (by omega), h2, Int.natCast_ediv, Int.natCast_pow]
  rfl
theorem own_pos_nat {x : Int32} (h : 0 ≤ x.toInt) : x.toInt = (x.toBitVec.toNat : Int) := by
  have e : x.toInt = x.toBitVec.toInt := rfl
  rw [e] at h ⊢
  rw [BitVec.toInt_eq_toNat_cond] at h ⊢
  have := x.toBitVec.isLt
  split at h
  · rw [if_pos (by assumption)]
  · omega
theorem own_nat_pos {x : Int32} {n : Nat} (h : x.toBitVec.toNat = n) (hn : n < 2147483648) : x.toInt = (n : Int) := by
  have e : x.toInt = x.toBitVec.toInt := rfl
  rw [e, BitVec.toInt_eq_toNat_cond, h, if_pos (by omega)]
/-- an or of a multiple of 2^k and what lies below 2^k is their sum -/
theorem own_or {x y : Int32} (k : Nat) (hx : 0 ≤ x.toInt) (hx2 : x.toInt % 2 ^ k = 0) (hy : 0 ≤ y.toInt) (hy2 : y.toInt < 2 ^ k) : (x ||| y).toInt = x.toInt + y.toInt := by
  have e1 := own_pos_nat hx
  have e2 := own_pos_nat hy
  have b1 := Int32.toInt_lt x
  have b2 := Int32.toInt_lt y
  have hm : x.toBitVec.toNat % 2 ^ k = 0 := by
    rw [e1] at hx2
    have : ((x.toBitVec.toNat % 2 ^ k : Nat) : Int) = 0 := by rw [Int.natCast_emod, Int.natCast_pow]; exact hx2
    omega
  have hl : y.toBitVec.toNat < 2 ^ k := by
    rw [e2] at hy2
    have : (y.toBitVec.toNat : Int) < ((2 ^ k : Nat) : Int) := by rw [Int.natCast_pow]; exact hy2
    omega
  have hd : x.toBitVec.toNat = 2 ^ k * (x.toBitVec.toNat / 2 ^ k) := by
    have := Nat.div_add_mod x.toBitVec.toNat (2 ^ k); omega
  have e3 : (x ||| y).toBitVec.toNat = x.toBitVec.toNat + y.toBitVec.toNat := by
    rw [Int32.toBitVec_or, BitVec.toNat_or]
    generalize y.toBitVec.toNat = b at *
    rw [hd, ← Nat.two_pow_add_eq_or_of_lt hl]
  have hlt : (x ||| y).toBitVec.toNat < 2147483648 := by
    rw [Int32.toBitVec_or, BitVec.toNat_or]
    exact Nat.or_lt_two_pow (n := 31) (by omega) (by omega)
  rw [own_nat_pos e3 (by omega)]
  omega
theorem own_mask (x m : Int32) (k : Nat) (hk : k < 32) (hm : m.toBitVec.toNat = 2 ^ k - 1) : (x &&& m).toInt = x.toInt % 2 ^ k := Jvm.Kit.i32_mask x m hk hm
/-! the high bits of a byte -/
theorem own_fin256 {x : Int32} (h0 : 0 ≤ x.toInt) (h1 : x.toInt < 256) : ∃ n : Fin 256, x = Int32.ofNat n.val ∧ x.toInt = (n.val : Int) := by
  refine ⟨⟨x.toInt.toNat, by omega⟩, ?_, by show x.toInt = (x.toInt.toNat : Int); omega⟩
  apply Int32.toInt_inj.mp
  rw [Int32.toInt_ofNat_of_lt (by show x.toInt.toNat < _; omega)]
  show x.toInt = (x.toInt.toNat : Int); omega
theorem own_f192 : ∀ n : Fin 256, (Int32.ofNat n.val &&& 192).toInt = (n.val : Int) - (n.val : Int) % 64 := by decide +kernel
theorem own_f224 : ∀ n : Fin 256, (Int32.ofNat n.val &&& 224).toInt = (n.val : Int) - (n.val : Int) % 32 := by decide +kernel
theorem own_f240 : ∀ n : Fin 256, (Int32.ofNat n.val &&& 240).toInt = (n.val : Int) - (n.val : Int) % 16 := by decide +kernel
theorem own_f248 : ∀ n : Fin 256, (Int32.ofNat n.val &&& 248).toInt = (n.val : Int) - (n.val : Int) % 8 := by decide +kernel
theorem own_h192 {x : Int32} (h0 : 0 ≤ x.toInt) (h1 : x.toInt < 256) : (x &&& 192).toInt = x.toInt - x.toInt % 64 := by
  obtain ⟨n, e1, e2⟩ := own_fin256 h0 h1; rw [e2, e1]; exact own_f192 n
theorem own_h224 {x : Int32} (h0 : 0 ≤ x.toInt) (h1 : x.toInt < 256) : (x &&& 224).toInt = x.toInt - x.toInt % 32 := by
  obtain ⟨n, e1, e2⟩ := own_fin256 h0 h1; rw [e2, e1]; exact own_f224 n
theorem own_h240 {x : Int32} (h0 : 0 ≤ x.toInt) (h1 : x.toInt < 256) : (x &&& 240).toInt = x.toInt - x.toInt % 16 := by
  obtain ⟨n, e1, e2⟩ := own_fin256 h0 h1; rw [e2, e1]; exact own_f240 n
theorem own_h248 {x : Int32} (h0 : 0 ≤ x.toInt) (h1 : x.toInt < 256) : (x &&& 248).toInt = x.toInt - x.toInt % 8 := by
  obtain ⟨n, e1, e2⟩ := own_fin256 h0 h1; rw [e2, e1]; exact own_f248 n
theorem own_m255 (x : Int32) : (x &&& 255).toInt = x.toInt % 256 := Jvm.Kit.i32_mask x 255 (k := 8) (by decide) (by decide)
theorem own_m63 (x : Int32) : (x &&& 63).toInt = x.toInt % 64 := Jvm.Kit.i32_mask x 63 (k := 6) (by decide) (by decide)
theorem own_l192 (x : Int32) : (x &&& 192).toInt = x.toInt % 256 - x.toInt % 64 := by
  have e : x &&& 192 = (x &&& 255) &&& 192 := by rw [Int32.and_assoc]; rfl
  have h := own_m255 x
  rw [e, own_h192 (by omega) (by omega), h]; omega
theorem own_shr (x y : Int32) (k : Nat) (hk : ((y &&& 31).toBitVec.smod 32).toNat = k) : (own_ishr x y).toInt = x.toInt / 2 ^ k := Jvm.Kit.i32_shr x _ hk
theorem own_shl (x y : Int32) (k : Nat) (hk : ((y &&& 31).toBitVec.smod 32).toNat = k) (h1 : -2147483648 ≤ x.toInt * 2 ^ k) (h2 : x.toInt * 2 ^ k < 2147483648) : (own_ishl x y).toInt = x.toInt * 2 ^ k := Jvm.Kit.i32_shl x _ hk (by omega) (by omega)
/-- an or with a constant that is a multiple of 2^k -/
theorem own_orc {x y : Int32} {d : Int} (k : Nat) (hx : x.toInt = d) (h0 : 0 ≤ d) (h1 : d % 2 ^ k = 0) (hy : 0 ≤ y.toInt) (hy2 : y.toInt < 2 ^ k) : (x ||| y).toInt = d + y.toInt := by
  subst hx; exact own_or k h0 h1 hy hy2
theorem own_b255 (x : Int32) : (own_i2b x &&& 255).toInt = x.toInt % 256 := by
  have h1 := own_m255 (own_i2b x)
  have h2 := own_i2b_b x
  omega
theorem own_ofNat {n : Nat} (h : n < 2147483648) : (Int32.ofNat n).toInt = (n : Int) := Int32.toInt_ofNat_of_lt (by omega)
def own_q10 (e : Int32) : Int32 := if e.toInt ≤ 0 then 1 else if e.toInt = 1 then 10 else if e.toInt = 2 then 100 else if e.toInt = 3 then 1000 else if e.toInt = 4 then 10000 else if e.toInt = 5 then 100000 else if e.toInt = 6 then 1000000 else if e.toInt = 7 then 10000000 else if e.toInt = 8 then 100000000 else 1000000000
theorem own_q10_pow {e : Int32} (h0 : 0 ≤ e.toInt) (h1 : e.toInt ≤ 9) : (own_q10 e).toInt = 10 ^ e.toInt.toNat := by
  have hc : e.toInt = 0 ∨ e.toInt = 1 ∨ e.toInt = 2 ∨ e.toInt = 3 ∨ e.toInt = 4 ∨ e.toInt = 5 ∨ e.toInt = 6 ∨ e.toInt = 7 ∨ e.toInt = 8 ∨ e.toInt = 9 := by omega
  rcases hc with h | h | h | h | h | h | h | h | h | h <;> simp [own_q10, h]
theorem own_q10_ne (e : Int32) : own_q10 e ≠ 0 := by
  unfold own_q10
  repeat' split
  all_goals decide
def own_ex (i q dg nb f : Int32) : Int32 := if i.toInt < q.toInt ∨ ¬ i.toInt < (q + dg).toInt then f else own_i2b (48 + own_irem (nb / own_q10 (((q + dg) - 1) - i)) 10)
def own_dj (q n N j : Int) : Int32 := Int32.ofInt (48 + N / 10 ^ (q + n - 1 - j).toNat % 10)
def own_pt (g : Int → Int32) (q n N k : Int) (j : Int) : Int32 := if q + k ≤ j ∧ j < q + n then own_dj q n N j else g j
theorem own_dig {x : Int32} {R : Int} (hx : x.toInt = R) (hR : 0 ≤ R) : own_i2b (48 + own_irem x 10) = Int32.ofInt (48 + R % 10) := by
  subst hx
  have e7 : (own_irem x 10).toInt = x.toInt % 10 := by rw [own_irem_pos hR]; rfl
  have e8 : (48 + own_irem x 10).toInt = 48 + x.toInt % 10 := by
    rw [Jvm.Kit.i32_add (by rw [e7]; show _ ≤ (48 : Int) + _; omega) (by rw [e7]; show (48 : Int) + _ < _; omega), e7]; rfl
  rw [own_i2b_id (by rw [e8]; omega) (by rw [e8]; omega)]
  apply Int32.toInt_inj.mp
  rw [e8, Int32.toInt_ofInt_of_le (by omega) (by omega)]
theorem own_ptS {g : Int → Int32} {q n N k : Int} {x : Int32} (hk : 0 ≤ k) (hkn : k + 1 ≤ n) (hx : x = own_dj q n N (q + k)) (j : Int) : own_pt g q n N k j = own_u (own_pt g q n N (k + 1)) (q + k) x j := by
  unfold own_u own_pt
  by_cases e : j = q + k
  · subst e; rw [if_pos (by omega), if_pos rfl, hx]
  · rw [if_neg e]
    by_cases h : q + k ≤ j ∧ j < q + n
    · rw [if_pos h, if_pos (by omega)]
    · rw [if_neg h, if_neg (by omega)]
theorem own_agree {j q dg nb f : Int32} (hq : 0 ≤ q.toInt ∧ q.toInt ≤ 3) (hd : 0 ≤ dg.toInt ∧ dg.toInt ≤ 10) (hn : 0 ≤ nb.toInt) (hj : 0 ≤ j.toInt) (hj2 : j.toInt < 14) : own_pt (fun _ => f) q.toInt dg.toInt nb.toInt 0 j.toInt = own_ex j q dg nb f := by
  have e1 : (q + dg).toInt = q.toInt + dg.toInt := Jvm.Kit.i32_add (by omega) (by omega)
  rw [own_pt, own_ex, e1]
  by_cases h : j.toInt < q.toInt ∨ ¬ j.toInt < q.toInt + dg.toInt
  · rw [if_pos h, if_neg (by omega)]
  · rw [if_neg h, if_pos (by omega)]
    have e2 : ((q + dg) - 1).toInt = q.toInt + dg.toInt - 1 := by rw [own_subc (d := 1) rfl (by omega) (by omega), e1]
    have e3 : (((q + dg) - 1) - j).toInt = q.toInt + dg.toInt - 1 - j.toInt := by rw [Jvm.Kit.i32_sub (by omega) (by omega), e2]
    have e4 := own_q10_pow (e := ((q + dg) - 1) - j) (by omega) (by omega)
    rw [e3] at e4
    have e5 : (nb / own_q10 (((q + dg) - 1) - j)).toInt = nb.toInt / 10 ^ (q.toInt + dg.toInt - 1 - j.toInt).toNat := by rw [own_idiv_pos hn, e4]
    rw [own_dj, own_dig e5 (Int.ediv_nonneg hn (Int.le_of_lt (Int.pow_pos (by decide))))]
abbrev own_y1 : MethodName := ⟨"com/example/vedette/vedette/model/Iso2709PutNumberPinLaw", "pow10", "(I)I"⟩
theorem pl1 : plainFor own_y1 = true := plainFor_of_name (by first | (simp [plainName, overriddenIn]; done) | decide +kernel)
def B1_0_1 : List (Instr × Nat) := [(.iload_n 0, 1)]
theorem B1_0_1d : own_d method_2_code 0 B1_0_1 1 = true := by decide +kernel
theorem d1_1 : decode method_2_code 1 = .ok (.ifCond .gt 5, 3) := by decide +kernel
def B1_6_8 : List (Instr × Nat) := [(.iload_n 0, 1), (.iconst 1, 1)]
theorem B1_6_8d : own_d method_2_code 6 B1_6_8 8 = true := by decide +kernel
theorem d1_8 : decode method_2_code 8 = .ok (.if_icmp .ne 6, 3) := by decide +kernel
def B1_14_16 : List (Instr × Nat) := [(.iload_n 0, 1), (.iconst 2, 1)]
theorem B1_14_16d : own_d method_2_code 14 B1_14_16 16 = true := by decide +kernel
theorem d1_16 : decode method_2_code 16 = .ok (.if_icmp .ne 6, 3) := by decide +kernel
def B1_22_24 : List (Instr × Nat) := [(.iload_n 0, 1), (.iconst 3, 1)]
theorem B1_22_24d : own_d method_2_code 22 B1_22_24 24 = true := by decide +kernel
theorem d1_24 : decode method_2_code 24 = .ok (.if_icmp .ne 7, 3) := by decide +kernel
def B1_31_33 : List (Instr × Nat) := [(.iload_n 0, 1), (.iconst 4, 1)]
theorem B1_31_33d : own_d method_2_code 31 B1_31_33 33 = true := by decide +kernel
theorem d1_33 : decode method_2_code 33 = .ok (.if_icmp .ne 7, 3) := by decide +kernel
def B1_40_42 : List (Instr × Nat) := [(.iload_n 0, 1), (.iconst 5, 1)]
theorem B1_40_42d : own_d method_2_code 40 B1_40_42 42 = true := by decide +kernel
theorem d1_42 : decode method_2_code 42 = .ok (.if_icmp .ne 6, 3) := by decide +kernel
def B1_48_51 : List (Instr × Nat) := [(.iload_n 0, 1), (.bipush 6, 2)]
theorem B1_48_51d : own_d method_2_code 48 B1_48_51 51 = true := by decide +kernel
theorem d1_51 : decode method_2_code 51 = .ok (.if_icmp .ne 6, 3) := by decide +kernel
def B1_57_60 : List (Instr × Nat) := [(.iload_n 0, 1), (.bipush 7, 2)]
theorem B1_57_60d : own_d method_2_code 57 B1_57_60 60 = true := by decide +kernel
theorem d1_60 : decode method_2_code 60 = .ok (.if_icmp .ne 6, 3) := by decide +kernel
def B1_66_69 : List (Instr × Nat) := [(.iload_n 0, 1), (.bipush 8, 2)]
theorem B1_66_69d : own_d method_2_code 66 B1_66_69 69 = true := by decide +kernel
theorem d1_69 : decode method_2_code 69 = .ok (.if_icmp .ne 6, 3) := by decide +kernel
theorem d1_75 : decode method_2_code 75 = .ok (.ldc 11, 2) := by decide +kernel
theorem d1_77 : decode method_2_code 77 = .ok (.ireturn, 1) := by decide +kernel
theorem d1_72 : decode method_2_code 72 = .ok (.ldc 10, 2) := by decide +kernel
theorem d1_74 : decode method_2_code 74 = .ok (.ireturn, 1) := by decide +kernel
theorem d1_63 : decode method_2_code 63 = .ok (.ldc 9, 2) := by decide +kernel
theorem d1_65 : decode method_2_code 65 = .ok (.ireturn, 1) := by decide +kernel
theorem d1_54 : decode method_2_code 54 = .ok (.ldc 8, 2) := by decide +kernel
theorem d1_56 : decode method_2_code 56 = .ok (.ireturn, 1) := by decide +kernel
theorem d1_45 : decode method_2_code 45 = .ok (.ldc 7, 2) := by decide +kernel
theorem d1_47 : decode method_2_code 47 = .ok (.ireturn, 1) := by decide +kernel
def B1_36_39 : List (Instr × Nat) := [(.sipush 10000, 3)]
theorem B1_36_39d : own_d method_2_code 36 B1_36_39 39 = true := by decide +kernel
theorem d1_39 : decode method_2_code 39 = .ok (.ireturn, 1) := by decide +kernel
def B1_27_30 : List (Instr × Nat) := [(.sipush 1000, 3)]
theorem B1_27_30d : own_d method_2_code 27 B1_27_30 30 = true := by decide +kernel
theorem d1_30 : decode method_2_code 30 = .ok (.ireturn, 1) := by decide +kernel
def B1_19_21 : List (Instr × Nat) := [(.bipush 100, 2)]
theorem B1_19_21d : own_d method_2_code 19 B1_19_21 21 = true := by decide +kernel
theorem d1_21 : decode method_2_code 21 = .ok (.ireturn, 1) := by decide +kernel
def B1_11_13 : List (Instr × Nat) := [(.bipush 10, 2)]
theorem B1_11_13d : own_d method_2_code 11 B1_11_13 13 = true := by decide +kernel
theorem d1_13 : decode method_2_code 13 = .ok (.ireturn, 1) := by decide +kernel
def B1_4_5 : List (Instr × Nat) := [(.iconst 1, 1)]
theorem B1_4_5d : own_d method_2_code 4 B1_4_5 5 = true := by decide +kernel
theorem d1_5 : decode method_2_code 5 = .ok (.ireturn, 1) := by decide +kernel
set_option maxRecDepth 65536 in
set_option maxHeartbeats 40000000 in
theorem c_p10 (l : Launch) (Z : State) (a0 : Array Value) (hw : ∀ d ∈ tables_1, d.before a0 Z = true) (a : Int32) (h0 : Heap) (n0 : Nat) (Z0 : n0 ≤ h0.size)  :
    own_C l Z own_y1 method_2_code 1 (some .int) ({ frames := 0, cells := 0, slots := 0, locals := 0 } : Room) #[(.int a)] h0 n0 (fun v h => v = some (.int (own_q10 a)) ∧ h = h0) := by
  refine own_body pl1 Z0 (ls := #[.val (.int a)]) (fun m => by first | (simp [entryFrame, mkF, argsToLocals, Value.category]; done) | rfl) ?_
  intro p e s m below meth c T0 X0
  refine own_blk X0 B1_0_1 B1_0_1d (ls' := #[.val (.int a)]) (st' := [(.int a)]) rfl ?_
  refine own_if X0 d1_1 (pc' := 6) (by decide) (fun c1 => ?_) (fun c1 => ?_)
  · have c1 : 0 < a.toInt := c1
    refine own_blk X0 B1_6_8 B1_6_8d (ls' := #[.val (.int a)]) (st' := [(.int (1 : Int32)), (.int a)]) rfl ?_
    refine own_icmp X0 d1_8 (pc' := 14) (by decide) (fun c8 => ?_) (fun c8 => ?_)
    · have c8 : ¬ a.toInt = 1 := c8
      refine own_blk X0 B1_14_16 B1_14_16d (ls' := #[.val (.int a)]) (st' := [(.int (2 : Int32)), (.int a)]) rfl ?_
      refine own_icmp X0 d1_16 (pc' := 22) (by decide) (fun c16 => ?_) (fun c16 => ?_)
      · have c16 : ¬ a.toInt = 2 := c16
        refine own_blk X0 B1_22_24 B1_22_24d (ls' := #[.val (.int a)]) (st' := [(.int (3 : Int32)), (.int a)]) rfl ?_
        refine own_icmp X0 d1_24 (pc' := 31) (by decide) (fun c24 => ?_) (fun c24 => ?_)
        · have c24 : ¬ a.toInt = 3 := c24
          refine own_blk X0 B1_31_33 B1_31_33d (ls' := #[.val (.int a)]) (st' := [(.int (4 : Int32)), (.int a)]) rfl ?_
          refine own_icmp X0 d1_33 (pc' := 40) (by decide) (fun c33 => ?_) (fun c33 => ?_)
          · have c33 : ¬ a.toInt = 4 := c33
            refine own_blk X0 B1_40_42 B1_40_42d (ls' := #[.val (.int a)]) (st' := [(.int (5 : Int32)), (.int a)]) rfl ?_
            refine own_icmp X0 d1_42 (pc' := 48) (by decide) (fun c42 => ?_) (fun c42 => ?_)
            · have c42 : ¬ a.toInt = 5 := c42
              refine own_blk X0 B1_48_51 B1_48_51d (ls' := #[.val (.int a)]) (st' := [(.int (6 : Int32)), (.int a)]) rfl ?_
              refine own_icmp X0 d1_51 (pc' := 57) (by decide) (fun c51 => ?_) (fun c51 => ?_)
              · have c51 : ¬ a.toInt = 6 := c51
                refine own_blk X0 B1_57_60 B1_57_60d (ls' := #[.val (.int a)]) (st' := [(.int (7 : Int32)), (.int a)]) rfl ?_
                refine own_icmp X0 d1_60 (pc' := 66) (by decide) (fun c60 => ?_) (fun c60 => ?_)
                · have c60 : ¬ a.toInt = 7 := c60
                  refine own_blk X0 B1_66_69 B1_66_69d (ls' := #[.val (.int a)]) (st' := [(.int (8 : Int32)), (.int a)]) rfl ?_
                  refine own_icmp X0 d1_69 (pc' := 75) (by decide) (fun c69 => ?_) (fun c69 => ?_)
                  · have c69 : ¬ a.toInt = 8 := c69
                    refine own_ldc X0 (hw _ (List.mem_of_getElem? (i := 17) rfl)) d1_75 ?_
                    exact own_retI X0 d1_77 (by decide) (by decide) (⟨by rw [own_q10, if_neg (by omega), if_neg (by omega), if_neg (by omega), if_neg (by omega), if_neg (by omega), if_neg (by omega), if_neg (by omega), if_neg (by omega), if_neg (by omega)], rfl⟩)
                  · have c69 : ¬ (¬ a.toInt = 8) := c69
                    refine own_ldc X0 (hw _ (List.mem_of_getElem? (i := 14) rfl)) d1_72 ?_
                    exact own_retI X0 d1_74 (by decide) (by decide) (⟨by rw [own_q10, if_neg (by omega), if_neg (by omega), if_neg (by omega), if_neg (by omega), if_neg (by omega), if_neg (by omega), if_neg (by omega), if_neg (by omega), if_pos (by omega)], rfl⟩)
                · have c60 : ¬ (¬ a.toInt = 7) := c60
                  refine own_ldc X0 (hw _ (List.mem_of_getElem? (i := 15) rfl)) d1_63 ?_
                  exact own_retI X0 d1_65 (by decide) (by decide) (⟨by rw [own_q10, if_neg (by omega), if_neg (by omega), if_neg (by omega), if_neg (by omega), if_neg (by omega), if_neg (by omega), if_neg (by omega), if_pos (by omega)], rfl⟩)
              · have c51 : ¬ (¬ a.toInt = 6) := c51
                refine own_ldc X0 (hw _ (List.mem_of_getElem? (i := 16) rfl)) d1_54 ?_
                exact own_retI X0 d1_56 (by decide) (by decide) (⟨by rw [own_q10, if_neg (by omega), if_neg (by omega), if_neg (by omega), if_neg (by omega), if_neg (by omega), if_neg (by omega), if_pos (by omega)], rfl⟩)
            · have c42 : ¬ (¬ a.toInt = 5) := c42
              refine own_ldc X0 (hw _ (List.mem_of_getElem? (i := 13) rfl)) d1_45 ?_
              exact own_retI X0 d1_47 (by decide) (by decide) (⟨by rw [own_q10, if_neg (by omega), if_neg (by omega), if_neg (by omega), if_neg (by omega), if_neg (by omega), if_pos (by omega)], rfl⟩)
          · have c33 : ¬ (¬ a.toInt = 4) := c33
            refine own_blk X0 B1_36_39 B1_36_39d (ls' := #[.val (.int a)]) (st' := [(.int (10000 : Int32))]) rfl ?_
            exact own_retI X0 d1_39 (by decide) (by decide) (⟨by rw [own_q10, if_neg (by omega), if_neg (by omega), if_neg (by omega), if_neg (by omega), if_pos (by omega)], rfl⟩)
        · have c24 : ¬ (¬ a.toInt = 3) := c24
          refine own_blk X0 B1_27_30 B1_27_30d (ls' := #[.val (.int a)]) (st' := [(.int (1000 : Int32))]) rfl ?_
          exact own_retI X0 d1_30 (by decide) (by decide) (⟨by rw [own_q10, if_neg (by omega), if_neg (by omega), if_neg (by omega), if_pos (by omega)], rfl⟩)
      · have c16 : ¬ (¬ a.toInt = 2) := c16
        refine own_blk X0 B1_19_21 B1_19_21d (ls' := #[.val (.int a)]) (st' := [(.int (100 : Int32))]) rfl ?_
        exact own_retI X0 d1_21 (by decide) (by decide) (⟨by rw [own_q10, if_neg (by omega), if_neg (by omega), if_pos (by omega)], rfl⟩)
    · have c8 : ¬ (¬ a.toInt = 1) := c8
      refine own_blk X0 B1_11_13 B1_11_13d (ls' := #[.val (.int a)]) (st' := [(.int (10 : Int32))]) rfl ?_
      exact own_retI X0 d1_13 (by decide) (by decide) (⟨by rw [own_q10, if_neg (by omega), if_pos (by omega)], rfl⟩)
  · have c1 : ¬ (0 < a.toInt) := c1
    refine own_blk X0 B1_4_5 B1_4_5d (ls' := #[.val (.int a)]) (st' := [(.int (1 : Int32))]) rfl ?_
    exact own_retI X0 d1_5 (by decide) (by decide) (⟨by rw [own_q10, if_pos (by omega)], rfl⟩)
abbrev own_y3 : MethodName := ⟨"com/example/vedette/vedette/model/Iso2709PutNumberPinLaw", "expected", "(IIIIB)B"⟩
theorem pl3 : plainFor own_y3 = true := plainFor_of_name (by first | (simp [plainName, overriddenIn]; done) | decide +kernel)
def B3_0_2 : List (Instr × Nat) := [(.iload_n 0, 1), (.iload_n 1, 1)]
theorem B3_0_2d : own_d method_3_code 0 B3_0_2 2 = true := by decide +kernel
theorem d3_2 : decode method_3_code 2 = .ok (.if_icmp .lt 10, 3) := by decide +kernel
def B3_12_14 : List (Instr × Nat) := [(.iload 4, 2)]
theorem B3_12_14d : own_d method_3_code 12 B3_12_14 14 = true := by decide +kernel
theorem d3_14 : decode method_3_code 14 = .ok (.ireturn, 1) := by decide +kernel
def B3_5_9 : List (Instr × Nat) := [(.iload_n 0, 1), (.iload_n 1, 1), (.iload_n 2, 1), (.iadd, 1)]
theorem B3_5_9d : own_d method_3_code 5 B3_5_9 9 = true := by decide +kernel
theorem d3_9 : decode method_3_code 9 = .ok (.if_icmp .lt 6, 3) := by decide +kernel
def B3_15_29 : List (Instr × Nat) := [(.iload_n 1, 1), (.iload_n 2, 1), (.iadd, 1), (.iconst 1, 1), (.isub, 1), (.iload_n 0, 1), (.isub, 1), (.istore 5, 2), (.bipush 48, 2), (.iload_n 3, 1), (.iload 5, 2)]
theorem B3_15_29d : own_d method_3_code 15 B3_15_29 29 = true := by decide +kernel
theorem d3_29 : decode method_3_code 29 = .ok (.invokestatic 12, 3) := by decide +kernel
theorem pd1 : parseMethodDescriptor "(I)I" = some ⟨[.int], some .int⟩ := by decide +kernel
theorem d3_32 : decode method_3_code 32 = .ok (.idiv, 1) := by decide +kernel
def B3_33_35 : List (Instr × Nat) := [(.bipush 10, 2)]
theorem B3_33_35d : own_d method_3_code 33 B3_33_35 35 = true := by decide +kernel
theorem d3_35 : decode method_3_code 35 = .ok (.irem, 1) := by decide +kernel
def B3_36_38 : List (Instr × Nat) := [(.iadd, 1), (.i2b, 1)]
theorem B3_36_38d : own_d method_3_code 36 B3_36_38 38 = true := by decide +kernel
theorem d3_38 : decode method_3_code 38 = .ok (.ireturn, 1) := by decide +kernel
set_option maxRecDepth 65536 in
set_option maxHeartbeats 40000000 in
theorem c_exp (l : Launch) (Z : State) (a0 : Array Value) (hw : ∀ d ∈ tables_1, d.before a0 Z = true) (i : Int32) (q : Int32) (dg : Int32) (nb : Int32) (f : Int32) (h0 : Heap) (n0 : Nat) (Z0 : n0 ≤ h0.size) (hf8 : f.toInt8.toInt32 = f) :
    own_C l Z own_y3 method_3_code 6 (some .byte) ({ frames := 1, cells := 0, slots := 0, locals := 16 } : Room) #[(.int i), (.int q), (.int dg), (.int nb), (.int f)] h0 n0 (fun v h => v = some (.int (own_ex i q dg nb f)) ∧ h = h0) := by
  refine own_body pl3 Z0 (ls := #[.val (.int i), .val (.int q), .val (.int dg), .val (.int nb), .val (.int f), .unset]) (fun m => by first | (simp [entryFrame, mkF, argsToLocals, Value.category]; done) | rfl) ?_
  intro p e s m below meth c T0 X0
  refine own_blk X0 B3_0_2 B3_0_2d (ls' := #[.val (.int i), .val (.int q), .val (.int dg), .val (.int nb), .val (.int f), .unset]) (st' := [(.int q), (.int i)]) rfl ?_
  refine own_icmp X0 d3_2 (pc' := 12) (by decide) (fun c2 => ?_) (fun c2 => ?_)
  · have c2 : i.toInt < q.toInt := c2
    refine own_blk X0 B3_12_14 B3_12_14d (ls' := #[.val (.int i), .val (.int q), .val (.int dg), .val (.int nb), .val (.int f), .unset]) (st' := [(.int f)]) rfl ?_
    exact own_retN X0 (by simp) d3_14 (v' := f) (hf8) (by decide) (by decide) (⟨by rw [own_ex, if_pos (by omega)], rfl⟩)
  · have c2 : ¬ (i.toInt < q.toInt) := c2
    refine own_blk X0 B3_5_9 B3_5_9d (ls' := #[.val (.int i), .val (.int q), .val (.int dg), .val (.int nb), .val (.int f), .unset]) (st' := [(.int (q + dg)), (.int i)]) rfl ?_
    refine own_icmp X0 d3_9 (pc' := 15) (by decide) (fun c9 => ?_) (fun c9 => ?_)
    · have c9 : i.toInt < (q + dg).toInt := c9
      refine own_blk X0 B3_15_29 B3_15_29d (ls' := #[.val (.int i), .val (.int q), .val (.int dg), .val (.int nb), .val (.int f), .val (.int (((q + dg) - (1 : Int32)) - i))]) (st' := [(.int (((q + dg) - (1 : Int32)) - i)), (.int nb), (.int (48 : Int32))]) rfl ?_
      refine own_callP X0 (hw _ (List.mem_of_getElem? (i := 1) rfl)) (hw _ (List.mem_of_getElem? (i := 2) rfl)) (hw _ (List.mem_of_getElem? (i := 3) rfl)) (hw _ (List.mem_of_getElem? (i := 4) rfl)) (by decide) (c_p10 l Z a0 hw (((q + dg) - (1 : Int32)) - i) h0 n0 X0.2.1) d3_29 [(.int (((q + dg) - (1 : Int32)) - i))] [(.int nb), (.int (48 : Int32))] rfl rfl pd1 rfl rfl (by decide) (Nat.le_of_ble_eq_true rfl) (by decide) (by decide) (fun T1 X1 => ?_)
      show own_G p e below (T1.setTop (mkF m 32 #[.val (.int i), .val (.int q), .val (.int dg), .val (.int nb), .val (.int f), .val (.int (((q + dg) - (1 : Int32)) - i))] [(.int (own_q10 (((q + dg) - (1 : Int32)) - i))), (.int nb), (.int (48 : Int32))])) _
      refine own_idiv X1 d3_32 (own_q10_ne _) ?_
      refine own_blk X1 B3_33_35 B3_33_35d (ls' := #[.val (.int i), .val (.int q), .val (.int dg), .val (.int nb), .val (.int f), .val (.int (((q + dg) - (1 : Int32)) - i))]) (st' := [(.int (10 : Int32)), (.int (nb / (own_q10 (((q + dg) - (1 : Int32)) - i)))), (.int (48 : Int32))]) rfl ?_
      refine own_iremS X1 d3_35 (by decide) ?_
      refine own_blk X1 B3_36_38 B3_36_38d (ls' := #[.val (.int i), .val (.int q), .val (.int dg), .val (.int nb), .val (.int f), .val (.int (((q + dg) - (1 : Int32)) - i))]) (st' := [(.int (own_i2b ((48 : Int32) + (own_irem (nb / (own_q10 (((q + dg) - (1 : Int32)) - i))) (10 : Int32)))))]) rfl ?_
      exact own_retN X1 (by simp) d3_38 (v' := (own_i2b ((48 : Int32) + (own_irem (nb / (own_q10 (((q + dg) - (1 : Int32)) - i))) (10 : Int32))))) (own_i2b_fix _) (by decide) (by decide) (⟨by rw [own_ex, if_neg (by omega)], rfl⟩)
    · have c9 : ¬ (i.toInt < (q + dg).toInt) := c9
      refine own_blk X0 B3_12_14 B3_12_14d (ls' := #[.val (.int i), .val (.int q), .val (.int dg), .val (.int nb), .val (.int f), .unset]) (st' := [(.int f)]) rfl ?_
      exact own_retN X0 (by simp) d3_14 (v' := f) (hf8) (by decide) (by decide) (⟨by rw [own_ex, if_pos (by omega)], rfl⟩)
abbrev own_y2 : MethodName := ⟨"com/example/vedette/vedette/model/Iso2709", "putNumber", "([BIII)V"⟩
theorem pl2 : plainFor own_y2 = true := plainFor_of_name (by first | (simp [plainName, overriddenIn]; done) | decide +kernel)
def B2_0_10 : List (Instr × Nat) := [(.iload_n 3, 1), (.istore 4, 2), (.iload_n 1, 1), (.iload_n 2, 1), (.iadd, 1), (.iconst 1, 1), (.isub, 1), (.istore 5, 2)]
theorem B2_0_10d : own_d prog_73_method_4_code 0 B2_0_10 10 = true := by decide +kernel
def B2_10_13 : List (Instr × Nat) := [(.iload 5, 2), (.iload_n 1, 1)]
theorem B2_10_13d : own_d prog_73_method_4_code 10 B2_10_13 13 = true := by decide +kernel
theorem d2_13 : decode prog_73_method_4_code 13 = .ok (.if_icmp .lt 29, 3) := by decide +kernel
theorem d2_42 : decode prog_73_method_4_code 42 = .ok (.return_, 1) := by decide +kernel
def B2_16_25 : List (Instr × Nat) := [(.aload_n 0, 1), (.iload 5, 2), (.bipush 48, 2), (.iload 4, 2), (.bipush 10, 2)]
theorem B2_16_25d : own_d prog_73_method_4_code 16 B2_16_25 25 = true := by decide +kernel
theorem d2_25 : decode prog_73_method_4_code 25 = .ok (.irem, 1) := by decide +kernel
def B2_26_28 : List (Instr × Nat) := [(.iadd, 1), (.i2b, 1)]
theorem B2_26_28d : own_d prog_73_method_4_code 26 B2_26_28 28 = true := by decide +kernel
theorem d2_28 : decode prog_73_method_4_code 28 = .ok (.bastore, 1) := by decide +kernel
def B2_29_33 : List (Instr × Nat) := [(.iload 4, 2), (.bipush 10, 2)]
theorem B2_29_33d : own_d prog_73_method_4_code 29 B2_29_33 33 = true := by decide +kernel
theorem d2_33 : decode prog_73_method_4_code 33 = .ok (.idiv, 1) := by decide +kernel
def B2_34_39 : List (Instr × Nat) := [(.istore 4, 2), (.iinc 5 (-1), 3)]
theorem B2_34_39d : own_d prog_73_method_4_code 34 B2_34_39 39 = true := by decide +kernel
theorem d2_39 : decode prog_73_method_4_code 39 = .ok (.goto (-29), 3) := by decide +kernel
set_option maxRecDepth 65536 in
set_option maxHeartbeats 40000000 in
theorem c_put (l : Launch) (Z : State) (a0 : Array Value) (hw : ∀ d ∈ tables_1, d.before a0 Z = true) (b : Addr) (q dg nb : Int32) (g : Int → Int32) (h0 : Heap) (n0 : Nat) (Z0 : n0 ≤ h0.size) (n_b : n0 ≤ b) (A : own_I Z h0 b .byte 14 g) (hq : 0 ≤ q.toInt ∧ q.toInt ≤ 3) (hd : 0 ≤ dg.toInt ∧ dg.toInt ≤ 10) (hn : 0 ≤ nb.toInt) :
    own_C l Z own_y2 prog_73_method_4_code 6 none ({ frames := 0, cells := 0, slots := 0, locals := 0 } : Room) #[(.ref b), (.int q), (.int dg), (.int nb)] h0 n0 (fun v h => v = none ∧ n0 ≤ h.size ∧ own_I Z h b .byte 14 (own_pt g q.toInt dg.toInt nb.toInt 0)) := by
  refine own_body pl2 Z0 (ls := #[.val (.ref b), .val (.int q), .val (.int dg), .val (.int nb), .unset, .unset]) (fun m => by first | (simp [entryFrame, mkF, argsToLocals, Value.category]; done) | rfl) ?_
  intro p e s m below meth c T0 X0
  refine own_blk X0 B2_0_10 B2_0_10d (ls' := #[.val (.ref b), .val (.int q), .val (.int dg), .val (.int nb), .val (.int nb), .val (.int ((q + dg) - (1 : Int32)))]) (st' := []) rfl ?_
  have hqd : (q + dg).toInt = q.toInt + dg.toInt := Jvm.Kit.i32_add (by omega) (by omega)
  obtain ⟨n, hn2⟩ : ∃ n : Nat, n = dg.toInt.toNat := ⟨_, rfl⟩
  have L : ∀ (k : Nat) (i r : Int32) (hJ : Heap) (TJ : State), k ≤ n → i.toInt = q.toInt + (k : Int) - 1 → r.toInt = nb.toInt / 10 ^ (n - k) → own_X p l e ({ frames := 0, cells := 0, slots := 0, locals := 0 } : Room) s m #[(.ref b), (.int q), (.int dg), (.int nb)] below meth c Z prog_73_method_4_code 6 none own_y2 n0 hJ TJ 0 0 → own_I Z hJ b .byte 14 (own_pt g q.toInt dg.toInt nb.toInt (k : Int)) → own_G p e below (TJ.setTop (mkF m 10 #[.val (.ref b), .val (.int q), .val (.int dg), .val (.int nb), .val (.int r), .val (.int i)] [])) (own_E s n0 (fun v h => v = none ∧ n0 ≤ h.size ∧ own_I Z h b .byte 14 (own_pt g q.toInt dg.toInt nb.toInt 0)) ({ frames := 0, cells := 0, slots := 0, locals := 0 } : Room).cells ({ frames := 0, cells := 0, slots := 0, locals := 0 } : Room).slots) := by
    intro k
    induction k with
    | zero =>
      intro i r hJ TJ hk hi hr XJ AJ
      refine own_blk XJ B2_10_13 B2_10_13d (ls' := #[.val (.ref b), .val (.int q), .val (.int dg), .val (.int nb), .val (.int r), .val (.int i)]) (st' := [(.int q), (.int i)]) rfl ?_
      refine own_icmp XJ d2_13 (pc' := 42) (by decide) (fun c13 => ?_) (fun (c13 : ¬ (i.toInt < q.toInt)) => by exfalso; omega)
      have c13 : i.toInt < q.toInt := c13
      exact own_retV XJ d2_42 (by decide) (by decide) (⟨rfl, XJ.2.1, AJ⟩)
    | succ k ih =>
      intro i r hJ TJ hk hi hr XJ AJ
      have hr0 : 0 ≤ r.toInt := by rw [hr]; exact Int.ediv_nonneg hn (Int.le_of_lt (Int.pow_pos (by decide)))
      refine own_blk XJ B2_10_13 B2_10_13d (ls' := #[.val (.ref b), .val (.int q), .val (.int dg), .val (.int nb), .val (.int r), .val (.int i)]) (st' := [(.int q), (.int i)]) rfl ?_
      refine own_icmp XJ d2_13 (pc' := 42) (by decide) (fun (c13 : i.toInt < q.toInt) => by exfalso; omega) (fun c13 => ?_)
      have c13 : ¬ (i.toInt < q.toInt) := c13
      refine own_blk XJ B2_16_25 B2_16_25d (ls' := #[.val (.ref b), .val (.int q), .val (.int dg), .val (.int nb), .val (.int r), .val (.int i)]) (st' := [(.int (10 : Int32)), (.int r), (.int (48 : Int32)), (.int i), (.ref b)]) rfl ?_
      refine own_iremS XJ d2_25 (by decide) ?_
      refine own_blk XJ B2_26_28 B2_26_28d (ls' := #[.val (.ref b), .val (.int q), .val (.int dg), .val (.int nb), .val (.int r), .val (.int i)]) (st' := [(.int (own_i2b ((48 : Int32) + (own_irem r (10 : Int32))))), (.int i), (.ref b)]) rfl ?_
      refine own_bast XJ AJ n_b d2_28 (by omega) (by omega) (own_i2b_fix _) (fun h1 T1 X1 A1 W1 => ?_)
      have A1 : own_I Z h1 b .byte 14 (own_u (own_pt g q.toInt dg.toInt nb.toInt ((k + 1 : Nat) : Int)) (i.toInt) (own_i2b ((48 : Int32) + (own_irem r (10 : Int32))))) := A1
      generalize eg1 : own_u (own_pt g q.toInt dg.toInt nb.toInt ((k + 1 : Nat) : Int)) (i.toInt) (own_i2b ((48 : Int32) + (own_irem r (10 : Int32)))) = g1 at A1
      refine own_blk X1 B2_29_33 B2_29_33d (ls' := #[.val (.ref b), .val (.int q), .val (.int dg), .val (.int nb), .val (.int r), .val (.int i)]) (st' := [(.int (10 : Int32)), (.int r)]) rfl ?_
      refine own_idiv X1 d2_33 (by decide) ?_
      refine own_blk X1 B2_34_39 B2_34_39d (ls' := #[.val (.ref b), .val (.int q), .val (.int dg), .val (.int nb), .val (.int (r / (10 : Int32))), .val (.int (i + (-1 : Int32)))]) (st' := []) rfl ?_
      refine own_goto X1 d2_39 (pc' := 10) (by decide) ?_
      refine ih _ _ _ _ (by omega) (by rw [own_addc (d := -1) rfl (by omega) (by omega)]; omega) ?_ X1 (own_I_eq A1 fun j _ _ => ?_)
      · rw [own_idiv_pos (by omega), hr]
        show _ / (10 : Int) = _
        rw [Int.ediv_ediv_of_nonneg (Int.le_of_lt (Int.pow_pos (by decide))), ← Int.pow_succ]
        congr 2; omega
      · rw [← eg1, hi]
        have q1 := own_ptS (g := g) (q := q.toInt) (n := dg.toInt) (N := nb.toInt) (k := (k : Int)) (x := own_i2b ((48 : Int32) + own_irem r (10 : Int32))) (by omega) (by omega) (by rw [own_dig hr (by omega), own_dj, show (q.toInt + dg.toInt - 1 - (q.toInt + (k : Int))).toNat = n - (k + 1) by omega]) j
        have q2 : ((k + 1 : Nat) : Int) = (k : Int) + 1 := by omega
        have q3 : q.toInt + ((k + 1 : Nat) : Int) - 1 = q.toInt + (k : Int) := by omega
        rw [q3, q2]; exact q1
  refine L n _ _ _ _ (Nat.le_refl _) ?_ (by rw [Nat.sub_self]; simp) X0 (own_I_eq A fun j _ _ => by rw [own_pt, if_neg (by omega)])
  rw [own_subc (d := 1) rfl (by omega) (by omega), hqd]; omega
theorem pl0 : plainFor x = true := plainFor_of_name (by first | (simp [plainName, overriddenIn]; done) | decide +kernel)
def B0_0_6 : List (Instr × Nat) := [(.iload_n 0, 1), (.iconst 3, 1), (.iand, 1), (.istore 4, 2), (.iload_n 1, 1)]
theorem B0_0_6d : own_d code 0 B0_0_6 6 = true := by decide +kernel
theorem d0_6 : decode code 6 = .ok (.ldc 18, 2) := by decide +kernel
def B0_8_11 : List (Instr × Nat) := [(.iand, 1), (.bipush 11, 2)]
theorem B0_8_11d : own_d code 8 B0_8_11 11 = true := by decide +kernel
theorem d0_11 : decode code 11 = .ok (.irem, 1) := by decide +kernel
def B0_12_15 : List (Instr × Nat) := [(.istore 5, 2), (.iload_n 2, 1)]
theorem B0_12_15d : own_d code 12 B0_12_15 15 = true := by decide +kernel
theorem d0_15 : decode code 15 = .ok (.ldc 18, 2) := by decide +kernel
def B0_17_20 : List (Instr × Nat) := [(.iand, 1), (.istore 6, 2)]
theorem B0_17_20d : own_d code 17 B0_17_20 20 = true := by decide +kernel
def B0_40_46 : List (Instr × Nat) := [(.istore 7, 2), (.iload_n 3, 1), (.i2b, 1), (.istore 8, 2)]
theorem B0_40_46d : own_d code 40 B0_40_46 46 = true := by decide +kernel
def B0_46_48 : List (Instr × Nat) := [(.bipush 14, 2)]
theorem B0_46_48d : own_d code 46 B0_46_48 48 = true := by decide +kernel
theorem d0_48 : decode code 48 = .ok (.newarray .byte, 2) := by decide +kernel
def B0_50_54 : List (Instr × Nat) := [(.dup, 1), (.iconst 0, 1), (.iload 8, 2)]
theorem B0_50_54d : own_d code 50 B0_50_54 54 = true := by decide +kernel
theorem d0_54 : decode code 54 = .ok (.bastore, 1) := by decide +kernel
def B0_55_59 : List (Instr × Nat) := [(.dup, 1), (.iconst 1, 1), (.iload 8, 2)]
theorem B0_55_59d : own_d code 55 B0_55_59 59 = true := by decide +kernel
theorem d0_59 : decode code 59 = .ok (.bastore, 1) := by decide +kernel
def B0_60_64 : List (Instr × Nat) := [(.dup, 1), (.iconst 2, 1), (.iload 8, 2)]
theorem B0_60_64d : own_d code 60 B0_60_64 64 = true := by decide +kernel
theorem d0_64 : decode code 64 = .ok (.bastore, 1) := by decide +kernel
def B0_65_69 : List (Instr × Nat) := [(.dup, 1), (.iconst 3, 1), (.iload 8, 2)]
theorem B0_65_69d : own_d code 65 B0_65_69 69 = true := by decide +kernel
theorem d0_69 : decode code 69 = .ok (.bastore, 1) := by decide +kernel
def B0_70_74 : List (Instr × Nat) := [(.dup, 1), (.iconst 4, 1), (.iload 8, 2)]
theorem B0_70_74d : own_d code 70 B0_70_74 74 = true := by decide +kernel
theorem d0_74 : decode code 74 = .ok (.bastore, 1) := by decide +kernel
def B0_75_79 : List (Instr × Nat) := [(.dup, 1), (.iconst 5, 1), (.iload 8, 2)]
theorem B0_75_79d : own_d code 75 B0_75_79 79 = true := by decide +kernel
theorem d0_79 : decode code 79 = .ok (.bastore, 1) := by decide +kernel
def B0_80_85 : List (Instr × Nat) := [(.dup, 1), (.bipush 6, 2), (.iload 8, 2)]
theorem B0_80_85d : own_d code 80 B0_80_85 85 = true := by decide +kernel
theorem d0_85 : decode code 85 = .ok (.bastore, 1) := by decide +kernel
def B0_86_91 : List (Instr × Nat) := [(.dup, 1), (.bipush 7, 2), (.iload 8, 2)]
theorem B0_86_91d : own_d code 86 B0_86_91 91 = true := by decide +kernel
theorem d0_91 : decode code 91 = .ok (.bastore, 1) := by decide +kernel
def B0_92_97 : List (Instr × Nat) := [(.dup, 1), (.bipush 8, 2), (.iload 8, 2)]
theorem B0_92_97d : own_d code 92 B0_92_97 97 = true := by decide +kernel
theorem d0_97 : decode code 97 = .ok (.bastore, 1) := by decide +kernel
def B0_98_103 : List (Instr × Nat) := [(.dup, 1), (.bipush 9, 2), (.iload 8, 2)]
theorem B0_98_103d : own_d code 98 B0_98_103 103 = true := by decide +kernel
theorem d0_103 : decode code 103 = .ok (.bastore, 1) := by decide +kernel
def B0_104_109 : List (Instr × Nat) := [(.dup, 1), (.bipush 10, 2), (.iload 8, 2)]
theorem B0_104_109d : own_d code 104 B0_104_109 109 = true := by decide +kernel
theorem d0_109 : decode code 109 = .ok (.bastore, 1) := by decide +kernel
def B0_110_115 : List (Instr × Nat) := [(.dup, 1), (.bipush 11, 2), (.iload 8, 2)]
theorem B0_110_115d : own_d code 110 B0_110_115 115 = true := by decide +kernel
theorem d0_115 : decode code 115 = .ok (.bastore, 1) := by decide +kernel
def B0_116_121 : List (Instr × Nat) := [(.dup, 1), (.bipush 12, 2), (.iload 8, 2)]
theorem B0_116_121d : own_d code 116 B0_116_121 121 = true := by decide +kernel
theorem d0_121 : decode code 121 = .ok (.bastore, 1) := by decide +kernel
def B0_122_127 : List (Instr × Nat) := [(.dup, 1), (.bipush 13, 2), (.iload 8, 2)]
theorem B0_122_127d : own_d code 122 B0_122_127 127 = true := by decide +kernel
theorem d0_127 : decode code 127 = .ok (.bastore, 1) := by decide +kernel
def B0_128_138 : List (Instr × Nat) := [(.astore 9, 2), (.aload 9, 2), (.iload 4, 2), (.iload 5, 2), (.iload 7, 2)]
theorem B0_128_138d : own_d code 128 B0_128_138 138 = true := by decide +kernel
theorem d0_138 : decode code 138 = .ok (.invokestatic 19, 3) := by decide +kernel
theorem pd2 : parseMethodDescriptor "([BIII)V" = some ⟨[(.array .byte), .int, .int, .int], none⟩ := by decide +kernel
def B0_141_146 : List (Instr × Nat) := [(.iconst 1, 1), (.istore 10, 2), (.iload 10, 2)]
theorem B0_141_146d : own_d code 141 B0_141_146 146 = true := by decide +kernel
theorem d0_146 : decode code 146 = .ok (.ifCond .eq 26, 3) := by decide +kernel
def B0_149_152 : List (Instr × Nat) := [(.aload 9, 2), (.iconst 0, 1)]
theorem B0_149_152d : own_d code 149 B0_149_152 152 = true := by decide +kernel
theorem d0_152 : decode code 152 = .ok (.baload, 1) := by decide +kernel
def B0_153_162 : List (Instr × Nat) := [(.iconst 0, 1), (.iload 4, 2), (.iload 5, 2), (.iload 7, 2), (.iload 8, 2)]
theorem B0_153_162d : own_d code 153 B0_153_162 162 = true := by decide +kernel
theorem d0_162 : decode code 162 = .ok (.invokestatic 25, 3) := by decide +kernel
theorem pd3 : parseMethodDescriptor "(IIIIB)B" = some ⟨[.int, .int, .int, .int, .byte], some .byte⟩ := by decide +kernel
theorem d0_165 : decode code 165 = .ok (.if_icmp .ne 7, 3) := by decide +kernel
def B0_168_169 : List (Instr × Nat) := [(.iconst 1, 1)]
theorem B0_168_169d : own_d code 168 B0_168_169 169 = true := by decide +kernel
theorem d0_169 : decode code 169 = .ok (.goto 4, 3) := by decide +kernel
def B0_173_177 : List (Instr × Nat) := [(.istore 10, 2), (.iload 10, 2)]
theorem B0_173_177d : own_d code 173 B0_173_177 177 = true := by decide +kernel
theorem d0_177 : decode code 177 = .ok (.ifCond .eq 26, 3) := by decide +kernel
def B0_180_183 : List (Instr × Nat) := [(.aload 9, 2), (.iconst 1, 1)]
theorem B0_180_183d : own_d code 180 B0_180_183 183 = true := by decide +kernel
theorem d0_183 : decode code 183 = .ok (.baload, 1) := by decide +kernel
def B0_184_193 : List (Instr × Nat) := [(.iconst 1, 1), (.iload 4, 2), (.iload 5, 2), (.iload 7, 2), (.iload 8, 2)]
theorem B0_184_193d : own_d code 184 B0_184_193 193 = true := by decide +kernel
theorem d0_193 : decode code 193 = .ok (.invokestatic 25, 3) := by decide +kernel
theorem d0_196 : decode code 196 = .ok (.if_icmp .ne 7, 3) := by decide +kernel
def B0_199_200 : List (Instr × Nat) := [(.iconst 1, 1)]
theorem B0_199_200d : own_d code 199 B0_199_200 200 = true := by decide +kernel
theorem d0_200 : decode code 200 = .ok (.goto 4, 3) := by decide +kernel
def B0_204_208 : List (Instr × Nat) := [(.istore 10, 2), (.iload 10, 2)]
theorem B0_204_208d : own_d code 204 B0_204_208 208 = true := by decide +kernel
theorem d0_208 : decode code 208 = .ok (.ifCond .eq 26, 3) := by decide +kernel
def B0_211_214 : List (Instr × Nat) := [(.aload 9, 2), (.iconst 2, 1)]
theorem B0_211_214d : own_d code 211 B0_211_214 214 = true := by decide +kernel
theorem d0_214 : decode code 214 = .ok (.baload, 1) := by decide +kernel
def B0_215_224 : List (Instr × Nat) := [(.iconst 2, 1), (.iload 4, 2), (.iload 5, 2), (.iload 7, 2), (.iload 8, 2)]
theorem B0_215_224d : own_d code 215 B0_215_224 224 = true := by decide +kernel
theorem d0_224 : decode code 224 = .ok (.invokestatic 25, 3) := by decide +kernel
theorem d0_227 : decode code 227 = .ok (.if_icmp .ne 7, 3) := by decide +kernel
def B0_230_231 : List (Instr × Nat) := [(.iconst 1, 1)]
theorem B0_230_231d : own_d code 230 B0_230_231 231 = true := by decide +kernel
theorem d0_231 : decode code 231 = .ok (.goto 4, 3) := by decide +kernel
def B0_235_239 : List (Instr × Nat) := [(.istore 10, 2), (.iload 10, 2)]
theorem B0_235_239d : own_d code 235 B0_235_239 239 = true := by decide +kernel
theorem d0_239 : decode code 239 = .ok (.ifCond .eq 26, 3) := by decide +kernel
def B0_242_245 : List (Instr × Nat) := [(.aload 9, 2), (.iconst 3, 1)]
theorem B0_242_245d : own_d code 242 B0_242_245 245 = true := by decide +kernel
theorem d0_245 : decode code 245 = .ok (.baload, 1) := by decide +kernel
def B0_246_255 : List (Instr × Nat) := [(.iconst 3, 1), (.iload 4, 2), (.iload 5, 2), (.iload 7, 2), (.iload 8, 2)]
theorem B0_246_255d : own_d code 246 B0_246_255 255 = true := by decide +kernel
theorem d0_255 : decode code 255 = .ok (.invokestatic 25, 3) := by decide +kernel
theorem d0_258 : decode code 258 = .ok (.if_icmp .ne 7, 3) := by decide +kernel
def B0_261_262 : List (Instr × Nat) := [(.iconst 1, 1)]
theorem B0_261_262d : own_d code 261 B0_261_262 262 = true := by decide +kernel
theorem d0_262 : decode code 262 = .ok (.goto 4, 3) := by decide +kernel
def B0_266_270 : List (Instr × Nat) := [(.istore 10, 2), (.iload 10, 2)]
theorem B0_266_270d : own_d code 266 B0_266_270 270 = true := by decide +kernel
theorem d0_270 : decode code 270 = .ok (.ifCond .eq 26, 3) := by decide +kernel
def B0_273_276 : List (Instr × Nat) := [(.aload 9, 2), (.iconst 4, 1)]
theorem B0_273_276d : own_d code 273 B0_273_276 276 = true := by decide +kernel
theorem d0_276 : decode code 276 = .ok (.baload, 1) := by decide +kernel
def B0_277_286 : List (Instr × Nat) := [(.iconst 4, 1), (.iload 4, 2), (.iload 5, 2), (.iload 7, 2), (.iload 8, 2)]
theorem B0_277_286d : own_d code 277 B0_277_286 286 = true := by decide +kernel
theorem d0_286 : decode code 286 = .ok (.invokestatic 25, 3) := by decide +kernel
theorem d0_289 : decode code 289 = .ok (.if_icmp .ne 7, 3) := by decide +kernel
def B0_292_293 : List (Instr × Nat) := [(.iconst 1, 1)]
theorem B0_292_293d : own_d code 292 B0_292_293 293 = true := by decide +kernel
theorem d0_293 : decode code 293 = .ok (.goto 4, 3) := by decide +kernel
def B0_297_301 : List (Instr × Nat) := [(.istore 10, 2), (.iload 10, 2)]
theorem B0_297_301d : own_d code 297 B0_297_301 301 = true := by decide +kernel
theorem d0_301 : decode code 301 = .ok (.ifCond .eq 26, 3) := by decide +kernel
def B0_304_307 : List (Instr × Nat) := [(.aload 9, 2), (.iconst 5, 1)]
theorem B0_304_307d : own_d code 304 B0_304_307 307 = true := by decide +kernel
theorem d0_307 : decode code 307 = .ok (.baload, 1) := by decide +kernel
def B0_308_317 : List (Instr × Nat) := [(.iconst 5, 1), (.iload 4, 2), (.iload 5, 2), (.iload 7, 2), (.iload 8, 2)]
theorem B0_308_317d : own_d code 308 B0_308_317 317 = true := by decide +kernel
theorem d0_317 : decode code 317 = .ok (.invokestatic 25, 3) := by decide +kernel
theorem d0_320 : decode code 320 = .ok (.if_icmp .ne 7, 3) := by decide +kernel
def B0_323_324 : List (Instr × Nat) := [(.iconst 1, 1)]
theorem B0_323_324d : own_d code 323 B0_323_324 324 = true := by decide +kernel
theorem d0_324 : decode code 324 = .ok (.goto 4, 3) := by decide +kernel
def B0_328_332 : List (Instr × Nat) := [(.istore 10, 2), (.iload 10, 2)]
theorem B0_328_332d : own_d code 328 B0_328_332 332 = true := by decide +kernel
theorem d0_332 : decode code 332 = .ok (.ifCond .eq 28, 3) := by decide +kernel
def B0_335_339 : List (Instr × Nat) := [(.aload 9, 2), (.bipush 6, 2)]
theorem B0_335_339d : own_d code 335 B0_335_339 339 = true := by decide +kernel
theorem d0_339 : decode code 339 = .ok (.baload, 1) := by decide +kernel
def B0_340_350 : List (Instr × Nat) := [(.bipush 6, 2), (.iload 4, 2), (.iload 5, 2), (.iload 7, 2), (.iload 8, 2)]
theorem B0_340_350d : own_d code 340 B0_340_350 350 = true := by decide +kernel
theorem d0_350 : decode code 350 = .ok (.invokestatic 25, 3) := by decide +kernel
theorem d0_353 : decode code 353 = .ok (.if_icmp .ne 7, 3) := by decide +kernel
def B0_356_357 : List (Instr × Nat) := [(.iconst 1, 1)]
theorem B0_356_357d : own_d code 356 B0_356_357 357 = true := by decide +kernel
theorem d0_357 : decode code 357 = .ok (.goto 4, 3) := by decide +kernel
def B0_361_365 : List (Instr × Nat) := [(.istore 10, 2), (.iload 10, 2)]
theorem B0_361_365d : own_d code 361 B0_361_365 365 = true := by decide +kernel
theorem d0_365 : decode code 365 = .ok (.ifCond .eq 28, 3) := by decide +kernel
def B0_368_372 : List (Instr × Nat) := [(.aload 9, 2), (.bipush 7, 2)]
theorem B0_368_372d : own_d code 368 B0_368_372 372 = true := by decide +kernel
theorem d0_372 : decode code 372 = .ok (.baload, 1) := by decide +kernel
def B0_373_383 : List (Instr × Nat) := [(.bipush 7, 2), (.iload 4, 2), (.iload 5, 2), (.iload 7, 2), (.iload 8, 2)]
theorem B0_373_383d : own_d code 373 B0_373_383 383 = true := by decide +kernel
theorem d0_383 : decode code 383 = .ok (.invokestatic 25, 3) := by decide +kernel
theorem d0_386 : decode code 386 = .ok (.if_icmp .ne 7, 3) := by decide +kernel
def B0_389_390 : List (Instr × Nat) := [(.iconst 1, 1)]
theorem B0_389_390d : own_d code 389 B0_389_390 390 = true := by decide +kernel
theorem d0_390 : decode code 390 = .ok (.goto 4, 3) := by decide +kernel
def B0_394_398 : List (Instr × Nat) := [(.istore 10, 2), (.iload 10, 2)]
theorem B0_394_398d : own_d code 394 B0_394_398 398 = true := by decide +kernel
theorem d0_398 : decode code 398 = .ok (.ifCond .eq 28, 3) := by decide +kernel
def B0_401_405 : List (Instr × Nat) := [(.aload 9, 2), (.bipush 8, 2)]
theorem B0_401_405d : own_d code 401 B0_401_405 405 = true := by decide +kernel
theorem d0_405 : decode code 405 = .ok (.baload, 1) := by decide +kernel
def B0_406_416 : List (Instr × Nat) := [(.bipush 8, 2), (.iload 4, 2), (.iload 5, 2), (.iload 7, 2), (.iload 8, 2)]
theorem B0_406_416d : own_d code 406 B0_406_416 416 = true := by decide +kernel
theorem d0_416 : decode code 416 = .ok (.invokestatic 25, 3) := by decide +kernel
theorem d0_419 : decode code 419 = .ok (.if_icmp .ne 7, 3) := by decide +kernel
def B0_422_423 : List (Instr × Nat) := [(.iconst 1, 1)]
theorem B0_422_423d : own_d code 422 B0_422_423 423 = true := by decide +kernel
theorem d0_423 : decode code 423 = .ok (.goto 4, 3) := by decide +kernel
def B0_427_431 : List (Instr × Nat) := [(.istore 10, 2), (.iload 10, 2)]
theorem B0_427_431d : own_d code 427 B0_427_431 431 = true := by decide +kernel
theorem d0_431 : decode code 431 = .ok (.ifCond .eq 28, 3) := by decide +kernel
def B0_434_438 : List (Instr × Nat) := [(.aload 9, 2), (.bipush 9, 2)]
theorem B0_434_438d : own_d code 434 B0_434_438 438 = true := by decide +kernel
theorem d0_438 : decode code 438 = .ok (.baload, 1) := by decide +kernel
def B0_439_449 : List (Instr × Nat) := [(.bipush 9, 2), (.iload 4, 2), (.iload 5, 2), (.iload 7, 2), (.iload 8, 2)]
theorem B0_439_449d : own_d code 439 B0_439_449 449 = true := by decide +kernel
theorem d0_449 : decode code 449 = .ok (.invokestatic 25, 3) := by decide +kernel
theorem d0_452 : decode code 452 = .ok (.if_icmp .ne 7, 3) := by decide +kernel
def B0_455_456 : List (Instr × Nat) := [(.iconst 1, 1)]
theorem B0_455_456d : own_d code 455 B0_455_456 456 = true := by decide +kernel
theorem d0_456 : decode code 456 = .ok (.goto 4, 3) := by decide +kernel
def B0_460_464 : List (Instr × Nat) := [(.istore 10, 2), (.iload 10, 2)]
theorem B0_460_464d : own_d code 460 B0_460_464 464 = true := by decide +kernel
theorem d0_464 : decode code 464 = .ok (.ifCond .eq 28, 3) := by decide +kernel
def B0_467_471 : List (Instr × Nat) := [(.aload 9, 2), (.bipush 10, 2)]
theorem B0_467_471d : own_d code 467 B0_467_471 471 = true := by decide +kernel
theorem d0_471 : decode code 471 = .ok (.baload, 1) := by decide +kernel
def B0_472_482 : List (Instr × Nat) := [(.bipush 10, 2), (.iload 4, 2), (.iload 5, 2), (.iload 7, 2), (.iload 8, 2)]
theorem B0_472_482d : own_d code 472 B0_472_482 482 = true := by decide +kernel
theorem d0_482 : decode code 482 = .ok (.invokestatic 25, 3) := by decide +kernel
theorem d0_485 : decode code 485 = .ok (.if_icmp .ne 7, 3) := by decide +kernel
def B0_488_489 : List (Instr × Nat) := [(.iconst 1, 1)]
theorem B0_488_489d : own_d code 488 B0_488_489 489 = true := by decide +kernel
theorem d0_489 : decode code 489 = .ok (.goto 4, 3) := by decide +kernel
def B0_493_497 : List (Instr × Nat) := [(.istore 10, 2), (.iload 10, 2)]
theorem B0_493_497d : own_d code 493 B0_493_497 497 = true := by decide +kernel
theorem d0_497 : decode code 497 = .ok (.ifCond .eq 28, 3) := by decide +kernel
def B0_500_504 : List (Instr × Nat) := [(.aload 9, 2), (.bipush 11, 2)]
theorem B0_500_504d : own_d code 500 B0_500_504 504 = true := by decide +kernel
theorem d0_504 : decode code 504 = .ok (.baload, 1) := by decide +kernel
def B0_505_515 : List (Instr × Nat) := [(.bipush 11, 2), (.iload 4, 2), (.iload 5, 2), (.iload 7, 2), (.iload 8, 2)]
theorem B0_505_515d : own_d code 505 B0_505_515 515 = true := by decide +kernel
theorem d0_515 : decode code 515 = .ok (.invokestatic 25, 3) := by decide +kernel
theorem d0_518 : decode code 518 = .ok (.if_icmp .ne 7, 3) := by decide +kernel
def B0_521_522 : List (Instr × Nat) := [(.iconst 1, 1)]
theorem B0_521_522d : own_d code 521 B0_521_522 522 = true := by decide +kernel
theorem d0_522 : decode code 522 = .ok (.goto 4, 3) := by decide +kernel
def B0_526_530 : List (Instr × Nat) := [(.istore 10, 2), (.iload 10, 2)]
theorem B0_526_530d : own_d code 526 B0_526_530 530 = true := by decide +kernel
theorem d0_530 : decode code 530 = .ok (.ifCond .eq 28, 3) := by decide +kernel
def B0_533_537 : List (Instr × Nat) := [(.aload 9, 2), (.bipush 12, 2)]
theorem B0_533_537d : own_d code 533 B0_533_537 537 = true := by decide +kernel
theorem d0_537 : decode code 537 = .ok (.baload, 1) := by decide +kernel
def B0_538_548 : List (Instr × Nat) := [(.bipush 12, 2), (.iload 4, 2), (.iload 5, 2), (.iload 7, 2), (.iload 8, 2)]
theorem B0_538_548d : own_d code 538 B0_538_548 548 = true := by decide +kernel
theorem d0_548 : decode code 548 = .ok (.invokestatic 25, 3) := by decide +kernel
theorem d0_551 : decode code 551 = .ok (.if_icmp .ne 7, 3) := by decide +kernel
def B0_554_555 : List (Instr × Nat) := [(.iconst 1, 1)]
theorem B0_554_555d : own_d code 554 B0_554_555 555 = true := by decide +kernel
theorem d0_555 : decode code 555 = .ok (.goto 4, 3) := by decide +kernel
def B0_559_563 : List (Instr × Nat) := [(.istore 10, 2), (.iload 10, 2)]
theorem B0_559_563d : own_d code 559 B0_559_563 563 = true := by decide +kernel
theorem d0_563 : decode code 563 = .ok (.ifCond .eq 28, 3) := by decide +kernel
def B0_566_570 : List (Instr × Nat) := [(.aload 9, 2), (.bipush 13, 2)]
theorem B0_566_570d : own_d code 566 B0_566_570 570 = true := by decide +kernel
theorem d0_570 : decode code 570 = .ok (.baload, 1) := by decide +kernel
def B0_571_581 : List (Instr × Nat) := [(.bipush 13, 2), (.iload 4, 2), (.iload 5, 2), (.iload 7, 2), (.iload 8, 2)]
theorem B0_571_581d : own_d code 571 B0_571_581 581 = true := by decide +kernel
theorem d0_581 : decode code 581 = .ok (.invokestatic 25, 3) := by decide +kernel
theorem d0_584 : decode code 584 = .ok (.if_icmp .ne 7, 3) := by decide +kernel
def B0_587_588 : List (Instr × Nat) := [(.iconst 1, 1)]
theorem B0_587_588d : own_d code 587 B0_587_588 588 = true := by decide +kernel
theorem d0_588 : decode code 588 = .ok (.goto 4, 3) := by decide +kernel
def B0_592_596 : List (Instr × Nat) := [(.istore 10, 2), (.iload 10, 2)]
theorem B0_592_596d : own_d code 592 B0_592_596 596 = true := by decide +kernel
theorem d0_596 : decode code 596 = .ok (.ireturn, 1) := by decide +kernel
def B0_20_24 : List (Instr × Nat) := [(.iload 5, 2), (.bipush 10, 2)]
theorem B0_20_24d : own_d code 20 B0_20_24 24 = true := by decide +kernel
theorem d0_24 : decode code 24 = .ok (.if_icmp .ne 8, 3) := by decide +kernel
def B0_32_36 : List (Instr × Nat) := [(.iload 6, 2), (.iload 5, 2)]
theorem B0_32_36d : own_d code 32 B0_32_36 36 = true := by decide +kernel
theorem d0_36 : decode code 36 = .ok (.invokestatic 12, 3) := by decide +kernel
theorem d0_39 : decode code 39 = .ok (.irem, 1) := by decide +kernel
def B0_27_29 : List (Instr × Nat) := [(.iload 6, 2)]
theorem B0_27_29d : own_d code 27 B0_27_29 29 = true := by decide +kernel
theorem d0_29 : decode code 29 = .ok (.goto 11, 3) := by decide +kernel
set_option maxRecDepth 65536 in
set_option maxHeartbeats 40000000 in
theorem c_law (l : Launch) (Z : State) (a0 : Array Value) (hw : ∀ d ∈ tables_1, d.before a0 Z = true) (z0 : Int32) (z1 : Int32) (z2 : Int32) (z3 : Int32) (h0 : Heap) (n0 : Nat) (Z0 : n0 ≤ h0.size)  :
    own_C l Z x code maxLocals ret room_1 #[(.int z0), (.int z1), (.int z2), (.int z3)] h0 n0 (fun v h => v = some (.int 1)) := by
  refine own_body pl0 Z0 (ls := #[.val (.int z0), .val (.int z1), .val (.int z2), .val (.int z3), .unset, .unset, .unset, .unset, .unset, .unset, .unset]) (fun m => by first | (simp [entryFrame, mkF, argsToLocals, Value.category, maxLocals]; done) | rfl) ?_
  intro p e s m below meth c T0 X0
  refine own_blk X0 B0_0_6 B0_0_6d (ls' := #[.val (.int z0), .val (.int z1), .val (.int z2), .val (.int z3), .val (.int (z0 &&& (3 : Int32))), .unset, .unset, .unset, .unset, .unset, .unset]) (st' := [(.int z1)]) rfl ?_
  refine own_ldc X0 (hw _ (List.mem_of_getElem? (i := 0) rfl)) d0_6 ?_
  refine own_blk X0 B0_8_11 B0_8_11d (ls' := #[.val (.int z0), .val (.int z1), .val (.int z2), .val (.int z3), .val (.int (z0 &&& (3 : Int32))), .unset, .unset, .unset, .unset, .unset, .unset]) (st' := [(.int (11 : Int32)), (.int (z1 &&& (2147483647 : Int32)))]) rfl ?_
  refine own_iremS X0 d0_11 (by decide) ?_
  refine own_blk X0 B0_12_15 B0_12_15d (ls' := #[.val (.int z0), .val (.int z1), .val (.int z2), .val (.int z3), .val (.int (z0 &&& (3 : Int32))), .val (.int (own_irem (z1 &&& (2147483647 : Int32)) (11 : Int32))), .unset, .unset, .unset, .unset, .unset]) (st' := [(.int z2)]) rfl ?_
  refine own_ldc X0 (hw _ (List.mem_of_getElem? (i := 0) rfl)) d0_15 ?_
  refine own_blk X0 B0_17_20 B0_17_20d (ls' := #[.val (.int z0), .val (.int z1), .val (.int z2), .val (.int z3), .val (.int (z0 &&& (3 : Int32))), .val (.int (own_irem (z1 &&& (2147483647 : Int32)) (11 : Int32))), .val (.int (z2 &&& (2147483647 : Int32))), .unset, .unset, .unset, .unset]) (st' := []) rfl ?_
  generalize eq : (z0 &&& (3 : Int32)) = q
  generalize edg : (own_irem (z1 &&& (2147483647 : Int32)) (11 : Int32)) = dg
  generalize ewh : (z2 &&& (2147483647 : Int32)) = wh
  have hq : 0 ≤ q.toInt ∧ q.toInt ≤ 3 := by rw [← eq, own_mask _ 3 2 (by decide) (by decide)]; omega
  have hd : 0 ≤ dg.toInt ∧ dg.toInt ≤ 10 := by
    have h1 := own_mask z1 2147483647 31 (by decide) (by decide)
    rw [← edg, own_irem_pos (by omega)]
    show 0 ≤ _ % (11 : Int) ∧ _ % (11 : Int) ≤ 10
    omega
  have hwh : 0 ≤ wh.toInt := by rw [← ewh, own_mask _ 2147483647 31 (by decide) (by decide)]; omega
  have J40 : ∀ (TJ : State) (nb : Int32), own_X p l e room_1 s m #[(.int z0), (.int z1), (.int z2), (.int z3)] below meth c Z code maxLocals ret x n0 h0 TJ 0 0 → 0 ≤ nb.toInt → own_G p e below (TJ.setTop (mkF m 40 #[.val (.int z0), .val (.int z1), .val (.int z2), .val (.int z3), .val (.int q), .val (.int dg), .val (.int wh), .unset, .unset, .unset, .unset] [.int nb])) (own_E s n0 (fun v h => v = some (.int 1)) room_1.cells room_1.slots) := by
    intro TJ nb XJ hnb
    refine own_blk XJ B0_40_46 B0_40_46d (ls' := #[.val (.int z0), .val (.int z1), .val (.int z2), .val (.int z3), .val (.int q), .val (.int dg), .val (.int wh), .val (.int nb), .val (.int (own_i2b z3)), .unset, .unset]) (st' := []) rfl ?_
    generalize ef : (own_i2b z3) = f
    have hf8 : f.toInt8.toInt32 = f := by rw [← ef]; exact own_i2b_fix _
    refine own_blk XJ B0_46_48 B0_46_48d (ls' := #[.val (.int z0), .val (.int z1), .val (.int z2), .val (.int z3), .val (.int q), .val (.int dg), .val (.int wh), .val (.int nb), .val (.int f), .unset, .unset]) (st' := [(.int (14 : Int32))]) rfl ?_
    refine own_newI XJ (hw _ (List.mem_of_getElem? (i := 5) rfl)) rfl d0_48 (by decide) 14 (by decide) (by decide) (by decide) (by decide) (fun h1 T1 X1 E1 A1 => ?_)
    have n_b : n0 ≤ h0.size := XJ.2.1
    have A1 : own_I Z h1 h0.size .byte 14 (fun _ => (0 : Int32)) := A1
    generalize ez_b : h0.size = b at A1 n_b ⊢
    show own_G p e below (T1.setTop (mkF m 50 #[.val (.int z0), .val (.int z1), .val (.int z2), .val (.int z3), .val (.int q), .val (.int dg), .val (.int wh), .val (.int nb), .val (.int f), .unset, .unset] [(.ref b)])) _
    refine own_blk X1 B0_50_54 B0_50_54d (ls' := #[.val (.int z0), .val (.int z1), .val (.int z2), .val (.int z3), .val (.int q), .val (.int dg), .val (.int wh), .val (.int nb), .val (.int f), .unset, .unset]) (st' := [(.int f), (.int (0 : Int32)), (.ref b), (.ref b)]) rfl ?_
    refine own_bast X1 A1 n_b d0_54 (by decide) (by decide) hf8 (fun h2 T2 X2 A2 W2 => ?_)
    have A2 : own_I Z h2 b .byte 14 (own_u (fun _ => (0 : Int32)) (0) f) := A2
    generalize eg2 : own_u (fun _ => (0 : Int32)) (0) f = g2 at A2
    refine own_blk X2 B0_55_59 B0_55_59d (ls' := #[.val (.int z0), .val (.int z1), .val (.int z2), .val (.int z3), .val (.int q), .val (.int dg), .val (.int wh), .val (.int nb), .val (.int f), .unset, .unset]) (st' := [(.int f), (.int (1 : Int32)), (.ref b), (.ref b)]) rfl ?_
    refine own_bast X2 A2 n_b d0_59 (by decide) (by decide) hf8 (fun h3 T3 X3 A3 W3 => ?_)
    have A3 : own_I Z h3 b .byte 14 (own_u g2 (1) f) := A3
    generalize eg3 : own_u g2 (1) f = g3 at A3
    refine own_blk X3 B0_60_64 B0_60_64d (ls' := #[.val (.int z0), .val (.int z1), .val (.int z2), .val (.int z3), .val (.int q), .val (.int dg), .val (.int wh), .val (.int nb), .val (.int f), .unset, .unset]) (st' := [(.int f), (.int (2 : Int32)), (.ref b), (.ref b)]) rfl ?_
    refine own_bast X3 A3 n_b d0_64 (by decide) (by decide) hf8 (fun h4 T4 X4 A4 W4 => ?_)
    have A4 : own_I Z h4 b .byte 14 (own_u g3 (2) f) := A4
    generalize eg4 : own_u g3 (2) f = g4 at A4
    refine own_blk X4 B0_65_69 B0_65_69d (ls' := #[.val (.int z0), .val (.int z1), .val (.int z2), .val (.int z3), .val (.int q), .val (.int dg), .val (.int wh), .val (.int nb), .val (.int f), .unset, .unset]) (st' := [(.int f), (.int (3 : Int32)), (.ref b), (.ref b)]) rfl ?_
    refine own_bast X4 A4 n_b d0_69 (by decide) (by decide) hf8 (fun h5 T5 X5 A5 W5 => ?_)
    have A5 : own_I Z h5 b .byte 14 (own_u g4 (3) f) := A5
    generalize eg5 : own_u g4 (3) f = g5 at A5
    refine own_blk X5 B0_70_74 B0_70_74d (ls' := #[.val (.int z0), .val (.int z1), .val (.int z2), .val (.int z3), .val (.int q), .val (.int dg), .val (.int wh), .val (.int nb), .val (.int f), .unset, .unset]) (st' := [(.int f), (.int (4 : Int32)), (.ref b), (.ref b)]) rfl ?_
    refine own_bast X5 A5 n_b d0_74 (by decide) (by decide) hf8 (fun h6 T6 X6 A6 W6 => ?_)
    have A6 : own_I Z h6 b .byte 14 (own_u g5 (4) f) := A6
    generalize eg6 : own_u g5 (4) f = g6 at A6
    refine own_blk X6 B0_75_79 B0_75_79d (ls' := #[.val (.int z0), .val (.int z1), .val (.int z2), .val (.int z3), .val (.int q), .val (.int dg), .val (.int wh), .val (.int nb), .val (.int f), .unset, .unset]) (st' := [(.int f), (.int (5 : Int32)), (.ref b), (.ref b)]) rfl ?_
    refine own_bast X6 A6 n_b d0_79 (by decide) (by decide) hf8 (fun h7 T7 X7 A7 W7 => ?_)
    have A7 : own_I Z h7 b .byte 14 (own_u g6 (5) f) := A7
    generalize eg7 : own_u g6 (5) f = g7 at A7
    refine own_blk X7 B0_80_85 B0_80_85d (ls' := #[.val (.int z0), .val (.int z1), .val (.int z2), .val (.int z3), .val (.int q), .val (.int dg), .val (.int wh), .val (.int nb), .val (.int f), .unset, .unset]) (st' := [(.int f), (.int (6 : Int32)), (.ref b), (.ref b)]) rfl ?_
    refine own_bast X7 A7 n_b d0_85 (by decide) (by decide) hf8 (fun h8 T8 X8 A8 W8 => ?_)
    have A8 : own_I Z h8 b .byte 14 (own_u g7 (6) f) := A8
    generalize eg8 : own_u g7 (6) f = g8 at A8
    refine own_blk X8 B0_86_91 B0_86_91d (ls' := #[.val (.int z0), .val (.int z1), .val (.int z2), .val (.int z3), .val (.int q), .val (.int dg), .val (.int wh), .val (.int nb), .val (.int f), .unset, .unset]) (st' := [(.int f), (.int (7 : Int32)), (.ref b), (.ref b)]) rfl ?_
    refine own_bast X8 A8 n_b d0_91 (by decide) (by decide) hf8 (fun h9 T9 X9 A9 W9 => ?_)
    have A9 : own_I Z h9 b .byte 14 (own_u g8 (7) f) := A9
    generalize eg9 : own_u g8 (7) f = g9 at A9
    refine own_blk X9 B0_92_97 B0_92_97d (ls' := #[.val (.int z0), .val (.int z1), .val (.int z2), .val (.int z3), .val (.int q), .val (.int dg), .val (.int wh), .val (.int nb), .val (.int f), .unset, .unset]) (st' := [(.int f), (.int (8 : Int32)), (.ref b), (.ref b)]) rfl ?_
    refine own_bast X9 A9 n_b d0_97 (by decide) (by decide) hf8 (fun h10 T10 X10 A10 W10 => ?_)
    have A10 : own_I Z h10 b .byte 14 (own_u g9 (8) f) := A10
    generalize eg10 : own_u g9 (8) f = g10 at A10
    refine own_blk X10 B0_98_103 B0_98_103d (ls' := #[.val (.int z0), .val (.int z1), .val (.int z2), .val (.int z3), .val (.int q), .val (.int dg), .val (.int wh), .val (.int nb), .val (.int f), .unset, .unset]) (st' := [(.int f), (.int (9 : Int32)), (.ref b), (.ref b)]) rfl ?_
    refine own_bast X10 A10 n_b d0_103 (by decide) (by decide) hf8 (fun h11 T11 X11 A11 W11 => ?_)
    have A11 : own_I Z h11 b .byte 14 (own_u g10 (9) f) := A11
    generalize eg11 : own_u g10 (9) f = g11 at A11
    refine own_blk X11 B0_104_109 B0_104_109d (ls' := #[.val (.int z0), .val (.int z1), .val (.int z2), .val (.int z3), .val (.int q), .val (.int dg), .val (.int wh), .val (.int nb), .val (.int f), .unset, .unset]) (st' := [(.int f), (.int (10 : Int32)), (.ref b), (.ref b)]) rfl ?_
    refine own_bast X11 A11 n_b d0_109 (by decide) (by decide) hf8 (fun h12 T12 X12 A12 W12 => ?_)
    have A12 : own_I Z h12 b .byte 14 (own_u g11 (10) f) := A12
    generalize eg12 : own_u g11 (10) f = g12 at A12
    refine own_blk X12 B0_110_115 B0_110_115d (ls' := #[.val (.int z0), .val (.int z1), .val (.int z2), .val (.int z3), .val (.int q), .val (.int dg), .val (.int wh), .val (.int nb), .val (.int f), .unset, .unset]) (st' := [(.int f), (.int (11 : Int32)), (.ref b), (.ref b)]) rfl ?_
    refine own_bast X12 A12 n_b d0_115 (by decide) (by decide) hf8 (fun h13 T13 X13 A13 W13 => ?_)
    have A13 : own_I Z h13 b .byte 14 (own_u g12 (11) f) := A13
    generalize eg13 : own_u g12 (11) f = g13 at A13
    refine own_blk X13 B0_116_121 B0_116_121d (ls' := #[.val (.int z0), .val (.int z1), .val (.int z2), .val (.int z3), .val (.int q), .val (.int dg), .val (.int wh), .val (.int nb), .val (.int f), .unset, .unset]) (st' := [(.int f), (.int (12 : Int32)), (.ref b), (.ref b)]) rfl ?_
    refine own_bast X13 A13 n_b d0_121 (by decide) (by decide) hf8 (fun h14 T14 X14 A14 W14 => ?_)
    have A14 : own_I Z h14 b .byte 14 (own_u g13 (12) f) := A14
    generalize eg14 : own_u g13 (12) f = g14 at A14
    refine own_blk X14 B0_122_127 B0_122_127d (ls' := #[.val (.int z0), .val (.int z1), .val (.int z2), .val (.int z3), .val (.int q), .val (.int dg), .val (.int wh), .val (.int nb), .val (.int f), .unset, .unset]) (st' := [(.int f), (.int (13 : Int32)), (.ref b), (.ref b)]) rfl ?_
    refine own_bast X14 A14 n_b d0_127 (by decide) (by decide) hf8 (fun h15 T15 X15 A15 W15 => ?_)
    have A15 : own_I Z h15 b .byte 14 (own_u g14 (13) f) := A15
    generalize eg15 : own_u g14 (13) f = g15 at A15
    have A16 : own_I Z h15 b .byte 14 (fun _ => f) := own_I_eq A15 (fun j h0 h1 => by
      show f = g15 j
      rw [← eg15]
      by_cases e0 : j = 13
      · rw [own_u_eq e0]
      rw [own_u_ne e0]
      rw [← eg14]
      by_cases e1 : j = 12
      · rw [own_u_eq e1]
      rw [own_u_ne e1]
      rw [← eg13]
      by_cases e2 : j = 11
      · rw [own_u_eq e2]
      rw [own_u_ne e2]
      rw [← eg12]
      by_cases e3 : j = 10
      · rw [own_u_eq e3]
      rw [own_u_ne e3]
      rw [← eg11]
      by_cases e4 : j = 9
      · rw [own_u_eq e4]
      rw [own_u_ne e4]
      rw [← eg10]
      by_cases e5 : j = 8
      · rw [own_u_eq e5]
      rw [own_u_ne e5]
      rw [← eg9]
      by_cases e6 : j = 7
      · rw [own_u_eq e6]
      rw [own_u_ne e6]
      rw [← eg8]
      by_cases e7 : j = 6
      · rw [own_u_eq e7]
      rw [own_u_ne e7]
      rw [← eg7]
      by_cases e8 : j = 5
      · rw [own_u_eq e8]
      rw [own_u_ne e8]
      rw [← eg6]
      by_cases e9 : j = 4
      · rw [own_u_eq e9]
      rw [own_u_ne e9]
      rw [← eg5]
      by_cases e10 : j = 3
      · rw [own_u_eq e10]
      rw [own_u_ne e10]
      rw [← eg4]
      by_cases e11 : j = 2
      · rw [own_u_eq e11]
      rw [own_u_ne e11]
      rw [← eg3]
      by_cases e12 : j = 1
      · rw [own_u_eq e12]
      rw [own_u_ne e12]
      rw [← eg2]
      by_cases e13 : j = 0
      · rw [own_u_eq e13]
      rw [own_u_ne e13]
      omega)
    refine own_blk X15 B0_128_138 B0_128_138d (ls' := #[.val (.int z0), .val (.int z1), .val (.int z2), .val (.int z3), .val (.int q), .val (.int dg), .val (.int wh), .val (.int nb), .val (.int f), .val (.ref b), .unset]) (st' := [(.int nb), (.int dg), (.int q), (.ref b)]) rfl ?_
    refine own_callS X15 (hw _ (List.mem_of_getElem? (i := 6) rfl)) (hw _ (List.mem_of_getElem? (i := 7) rfl)) (hw _ (List.mem_of_getElem? (i := 8) rfl)) (hw _ (List.mem_of_getElem? (i := 9) rfl)) (by decide) (c_put l Z a0 hw b q dg nb (fun _ => f) h15 n0 X15.2.1 n_b A16 hq hd hnb) d0_138 [(.ref b), (.int q), (.int dg), (.int nb)] [] rfl rfl pd2 rfl rfl (by decide) (Nat.le_of_ble_eq_true rfl) (by decide) (by decide) (fun _ _ q => q.2.1) (fun v17 h17 T17 X17 q17 => ?_)
    obtain ⟨rfl, _, A17⟩ := q17
    show own_G p e below (T17.setTop (mkF m 141 #[.val (.int z0), .val (.int z1), .val (.int z2), .val (.int z3), .val (.int q), .val (.int dg), .val (.int wh), .val (.int nb), .val (.int f), .val (.ref b), .unset] [])) _
    have hG : ∀ j : Int32, 0 ≤ j.toInt → j.toInt < 14 → own_pt (fun _ => f) q.toInt dg.toInt nb.toInt 0 j.toInt = own_ex j q dg nb f := fun j h1 h2 => own_agree hq hd hnb h1 h2
    generalize own_pt (fun _ => f) q.toInt dg.toInt nb.toInt 0 = G at hG A17
    refine own_blk X17 B0_141_146 B0_141_146d (ls' := #[.val (.int z0), .val (.int z1), .val (.int z2), .val (.int z3), .val (.int q), .val (.int dg), .val (.int wh), .val (.int nb), .val (.int f), .val (.ref b), .val (.int (1 : Int32))]) (st' := [(.int (1 : Int32))]) rfl ?_
    refine own_if X17 d0_146 (pc' := 172) (by decide) (fun (c146 : (1 : Int) = 0) => by exfalso; omega) (fun c146 => ?_)
    have c146 : ¬ ((1 : Int) = 0) := c146
    refine own_blk X17 B0_149_152 B0_149_152d (ls' := #[.val (.int z0), .val (.int z1), .val (.int z2), .val (.int z3), .val (.int q), .val (.int dg), .val (.int wh), .val (.int nb), .val (.int f), .val (.ref b), .val (.int (1 : Int32))]) (st' := [(.int (0 : Int32)), (.ref b)]) rfl ?_
    refine own_bald X17 A17 d0_152 (by decide) (by decide) ?_
    show own_G p e below (T17.setTop (mkF m 153 #[.val (.int z0), .val (.int z1), .val (.int z2), .val (.int z3), .val (.int q), .val (.int dg), .val (.int wh), .val (.int nb), .val (.int f), .val (.ref b), .val (.int (1 : Int32))] [(.int (G 0))])) _
    refine own_blk X17 B0_153_162 B0_153_162d (ls' := #[.val (.int z0), .val (.int z1), .val (.int z2), .val (.int z3), .val (.int q), .val (.int dg), .val (.int wh), .val (.int nb), .val (.int f), .val (.ref b), .val (.int (1 : Int32))]) (st' := [(.int f), (.int nb), (.int dg), (.int q), (.int (0 : Int32)), (.int (G 0))]) rfl ?_
    refine own_callP X17 (hw _ (List.mem_of_getElem? (i := 10) rfl)) (hw _ (List.mem_of_getElem? (i := 11) rfl)) (hw _ (List.mem_of_getElem? (i := 3) rfl)) (hw _ (List.mem_of_getElem? (i := 12) rfl)) (by decide) (c_exp l Z a0 hw (0 : Int32) q dg nb f h17 n0 X17.2.1 hf8) d0_162 [(.int (0 : Int32)), (.int q), (.int dg), (.int nb), (.int f)] [(.int (G 0))] rfl rfl pd3 rfl rfl (by decide) (Nat.le_of_ble_eq_true rfl) (by decide) (by decide) (fun T18 X18 => ?_)
    show own_G p e below (T18.setTop (mkF m 165 #[.val (.int z0), .val (.int z1), .val (.int z2), .val (.int z3), .val (.int q), .val (.int dg), .val (.int wh), .val (.int nb), .val (.int f), .val (.ref b), .val (.int (1 : Int32))] [(.int (own_ex (0 : Int32) q dg nb f)), (.int (G 0))])) _
    refine own_icmp X18 d0_165 (pc' := 172) (by decide) (fun (c165 : ¬ (G 0).toInt = (own_ex (0 : Int32) q dg nb f).toInt) => by exfalso; exact c165 (congrArg Int32.toInt (hG (0 : Int32) (by decide) (by decide)))) (fun c165 => ?_)
    have c165 : ¬ (¬ (G 0).toInt = (own_ex (0 : Int32) q dg nb f).toInt) := c165
    refine own_blk X18 B0_168_169 B0_168_169d (ls' := #[.val (.int z0), .val (.int z1), .val (.int z2), .val (.int z3), .val (.int q), .val (.int dg), .val (.int wh), .val (.int nb), .val (.int f), .val (.ref b), .val (.int (1 : Int32))]) (st' := [(.int (1 : Int32))]) rfl ?_
    refine own_goto X18 d0_169 (pc' := 173) (by decide) ?_
    refine own_blk X18 B0_173_177 B0_173_177d (ls' := #[.val (.int z0), .val (.int z1), .val (.int z2), .val (.int z3), .val (.int q), .val (.int dg), .val (.int wh), .val (.int nb), .val (.int f), .val (.ref b), .val (.int (1 : Int32))]) (st' := [(.int (1 : Int32))]) rfl ?_
    refine own_if X18 d0_177 (pc' := 203) (by decide) (fun (c177 : (1 : Int) = 0) => by exfalso; omega) (fun c177 => ?_)
    have c177 : ¬ ((1 : Int) = 0) := c177
    refine own_blk X18 B0_180_183 B0_180_183d (ls' := #[.val (.int z0), .val (.int z1), .val (.int z2), .val (.int z3), .val (.int q), .val (.int dg), .val (.int wh), .val (.int nb), .val (.int f), .val (.ref b), .val (.int (1 : Int32))]) (st' := [(.int (1 : Int32)), (.ref b)]) rfl ?_
    refine own_bald X18 A17 d0_183 (by decide) (by decide) ?_
    show own_G p e below (T18.setTop (mkF m 184 #[.val (.int z0), .val (.int z1), .val (.int z2), .val (.int z3), .val (.int q), .val (.int dg), .val (.int wh), .val (.int nb), .val (.int f), .val (.ref b), .val (.int (1 : Int32))] [(.int (G 1))])) _
    refine own_blk X18 B0_184_193 B0_184_193d (ls' := #[.val (.int z0), .val (.int z1), .val (.int z2), .val (.int z3), .val (.int q), .val (.int dg), .val (.int wh), .val (.int nb), .val (.int f), .val (.ref b), .val (.int (1 : Int32))]) (st' := [(.int f), (.int nb), (.int dg), (.int q), (.int (1 : Int32)), (.int (G 1))]) rfl ?_
    refine own_callP X18 (hw _ (List.mem_of_getElem? (i := 10) rfl)) (hw _ (List.mem_of_getElem? (i := 11) rfl)) (hw _ (List.mem_of_getElem? (i := 3) rfl)) (hw _ (List.mem_of_getElem? (i := 12) rfl)) (by decide) (c_exp l Z a0 hw (1 : Int32) q dg nb f h17 n0 X18.2.1 hf8) d0_193 [(.int (1 : Int32)), (.int q), (.int dg), (.int nb), (.int f)] [(.int (G 1))] rfl rfl pd3 rfl rfl (by decide) (Nat.le_of_ble_eq_true rfl) (by decide) (by decide) (fun T19 X19 => ?_)
    show own_G p e below (T19.setTop (mkF m 196 #[.val (.int z0), .val (.int z1), .val (.int z2), .val (.int z3), .val (.int q), .val (.int dg), .val (.int wh), .val (.int nb), .val (.int f), .val (.ref b), .val (.int (1 : Int32))] [(.int (own_ex (1 : Int32) q dg nb f)), (.int (G 1))])) _
    refine own_icmp X19 d0_196 (pc' := 203) (by decide) (fun (c196 : ¬ (G 1).toInt = (own_ex (1 : Int32) q dg nb f).toInt) => by exfalso; exact c196 (congrArg Int32.toInt (hG (1 : Int32) (by decide) (by decide)))) (fun c196 => ?_)
    have c196 : ¬ (¬ (G 1).toInt = (own_ex (1 : Int32) q dg nb f).toInt) := c196
    refine own_blk X19 B0_199_200 B0_199_200d (ls' := #[.val (.int z0), .val (.int z1), .val (.int z2), .val (.int z3), .val (.int q), .val (.int dg), .val (.int wh), .val (.int nb), .val (.int f), .val (.ref b), .val (.int (1 : Int32))]) (st' := [(.int (1 : Int32))]) rfl ?_
    refine own_goto X19 d0_200 (pc' := 204) (by decide) ?_
    refine own_blk X19 B0_204_208 B0_204_208d (ls' := #[.val (.int z0), .val (.int z1), .val (.int z2), .val (.int z3), .val (.int q), .val (.int dg), .val (.int wh), .val (.int nb), .val (.int f), .val (.ref b), .val (.int (1 : Int32))]) (st' := [(.int (1 : Int32))]) rfl ?_
    refine own_if X19 d0_208 (pc' := 234) (by decide) (fun (c208 : (1 : Int) = 0) => by exfalso; omega) (fun c208 => ?_)
    have c208 : ¬ ((1 : Int) = 0) := c208
    refine own_blk X19 B0_211_214 B0_211_214d (ls' := #[.val (.int z0), .val (.int z1), .val (.int z2), .val (.int z3), .val (.int q), .val (.int dg), .val (.int wh), .val (.int nb), .val (.int f), .val (.ref b), .val (.int (1 : Int32))]) (st' := [(.int (2 : Int32)), (.ref b)]) rfl ?_
    refine own_bald X19 A17 d0_214 (by decide) (by decide) ?_
    show own_G p e below (T19.setTop (mkF m 215 #[.val (.int z0), .val (.int z1), .val (.int z2), .val (.int z3), .val (.int q), .val (.int dg), .val (.int wh), .val (.int nb), .val (.int f), .val (.ref b), .val (.int (1 : Int32))] [(.int (G 2))])) _
    refine own_blk X19 B0_215_224 B0_215_224d (ls' := #[.val (.int z0), .val (.int z1), .val (.int z2), .val (.int z3), .val (.int q), .val (.int dg), .val (.int wh), .val (.int nb), .val (.int f), .val (.ref b), .val (.int (1 : Int32))]) (st' := [(.int f), (.int nb), (.int dg), (.int q), (.int (2 : Int32)), (.int (G 2))]) rfl ?_
    refine own_callP X19 (hw _ (List.mem_of_getElem? (i := 10) rfl)) (hw _ (List.mem_of_getElem? (i := 11) rfl)) (hw _ (List.mem_of_getElem? (i := 3) rfl)) (hw _ (List.mem_of_getElem? (i := 12) rfl)) (by decide) (c_exp l Z a0 hw (2 : Int32) q dg nb f h17 n0 X19.2.1 hf8) d0_224 [(.int (2 : Int32)), (.int q), (.int dg), (.int nb), (.int f)] [(.int (G 2))] rfl rfl pd3 rfl rfl (by decide) (Nat.le_of_ble_eq_true rfl) (by decide) (by decide) (fun T20 X20 => ?_)
    show own_G p e below (T20.setTop (mkF m 227 #[.val (.int z0), .val (.int z1), .val (.int z2), .val (.int z3), .val (.int q), .val (.int dg), .val (.int wh), .val (.int nb), .val (.int f), .val (.ref b), .val (.int (1 : Int32))] [(.int (own_ex (2 : Int32) q dg nb f)), (.int (G 2))])) _
    refine own_icmp X20 d0_227 (pc' := 234) (by decide) (fun (c227 : ¬ (G 2).toInt = (own_ex (2 : Int32) q dg nb f).toInt) => by exfalso; exact c227 (congrArg Int32.toInt (hG (2 : Int32) (by decide) (by decide)))) (fun c227 => ?_)
    have c227 : ¬ (¬ (G 2).toInt = (own_ex (2 : Int32) q dg nb f).toInt) := c227
    refine own_blk X20 B0_230_231 B0_230_231d (ls' := #[.val (.int z0), .val (.int z1), .val (.int z2), .val (.int z3), .val (.int q), .val (.int dg), .val (.int wh), .val (.int nb), .val (.int f), .val (.ref b), .val (.int (1 : Int32))]) (st' := [(.int (1 : Int32))]) rfl ?_
    refine own_goto X20 d0_231 (pc' := 235) (by decide) ?_
    refine own_blk X20 B0_235_239 B0_235_239d (ls' := #[.val (.int z0), .val (.int z1), .val (.int z2), .val (.int z3), .val (.int q), .val (.int dg), .val (.int wh), .val (.int nb), .val (.int f), .val (.ref b), .val (.int (1 : Int32))]) (st' := [(.int (1 : Int32))]) rfl ?_
    refine own_if X20 d0_239 (pc' := 265) (by decide) (fun (c239 : (1 : Int) = 0) => by exfalso; omega) (fun c239 => ?_)
    have c239 : ¬ ((1 : Int) = 0) := c239
    refine own_blk X20 B0_242_245 B0_242_245d (ls' := #[.val (.int z0), .val (.int z1), .val (.int z2), .val (.int z3), .val (.int q), .val (.int dg), .val (.int wh), .val (.int nb), .val (.int f), .val (.ref b), .val (.int (1 : Int32))]) (st' := [(.int (3 : Int32)), (.ref b)]) rfl ?_
    refine own_bald X20 A17 d0_245 (by decide) (by decide) ?_
    show own_G p e below (T20.setTop (mkF m 246 #[.val (.int z0), .val (.int z1), .val (.int z2), .val (.int z3), .val (.int q), .val (.int dg), .val (.int wh), .val (.int nb), .val (.int f), .val (.ref b), .val (.int (1 : Int32))] [(.int (G 3))])) _
    refine own_blk X20 B0_246_255 B0_246_255d (ls' := #[.val (.int z0), .val (.int z1), .val (.int z2), .val (.int z3), .val (.int q), .val (.int dg), .val (.int wh), .val (.int nb), .val (.int f), .val (.ref b), .val (.int (1 : Int32))]) (st' := [(.int f), (.int nb), (.int dg), (.int q), (.int (3 : Int32)), (.int (G 3))]) rfl ?_
    refine own_callP X20 (hw _ (List.mem_of_getElem? (i := 10) rfl)) (hw _ (List.mem_of_getElem? (i := 11) rfl)) (hw _ (List.mem_of_getElem? (i := 3) rfl)) (hw _ (List.mem_of_getElem? (i := 12) rfl)) (by decide) (c_exp l Z a0 hw (3 : Int32) q dg nb f h17 n0 X20.2.1 hf8) d0_255 [(.int (3 : Int32)), (.int q), (.int dg), (.int nb), (.int f)] [(.int (G 3))] rfl rfl pd3 rfl rfl (by decide) (Nat.le_of_ble_eq_true rfl) (by decide) (by decide) (fun T21 X21 => ?_)
    show own_G p e below (T21.setTop (mkF m 258 #[.val (.int z0), .val (.int z1), .val (.int z2), .val (.int z3), .val (.int q), .val (.int dg), .val (.int wh), .val (.int nb), .val (.int f), .val (.ref b), .val (.int (1 : Int32))] [(.int (own_ex (3 : Int32) q dg nb f)), (.int (G 3))])) _
    refine own_icmp X21 d0_258 (pc' := 265) (by decide) (fun (c258 : ¬ (G 3).toInt = (own_ex (3 : Int32) q dg nb f).toInt) => by exfalso; exact c258 (congrArg Int32.toInt (hG (3 : Int32) (by decide) (by decide)))) (fun c258 => ?_)
    have c258 : ¬ (¬ (G 3).toInt = (own_ex (3 : Int32) q dg nb f).toInt) := c258
    refine own_blk X21 B0_261_262 B0_261_262d (ls' := #[.val (.int z0), .val (.int z1), .val (.int z2), .val (.int z3), .val (.int q), .val (.int dg), .val (.int wh), .val (.int nb), .val (.int f), .val (.ref b), .val (.int (1 : Int32))]) (st' := [(.int (1 : Int32))]) rfl ?_
    refine own_goto X21 d0_262 (pc' := 266) (by decide) ?_
    refine own_blk X21 B0_266_270 B0_266_270d (ls' := #[.val (.int z0), .val (.int z1), .val (.int z2), .val (.int z3), .val (.int q), .val (.int dg), .val (.int wh), .val (.int nb), .val (.int f), .val (.ref b), .val (.int (1 : Int32))]) (st' := [(.int (1 : Int32))]) rfl ?_
    refine own_if X21 d0_270 (pc' := 296) (by decide) (fun (c270 : (1 : Int) = 0) => by exfalso; omega) (fun c270 => ?_)
    have c270 : ¬ ((1 : Int) = 0) := c270
    refine own_blk X21 B0_273_276 B0_273_276d (ls' := #[.val (.int z0), .val (.int z1), .val (.int z2), .val (.int z3), .val (.int q), .val (.int dg), .val (.int wh), .val (.int nb), .val (.int f), .val (.ref b), .val (.int (1 : Int32))]) (st' := [(.int (4 : Int32)), (.ref b)]) rfl ?_
    refine own_bald X21 A17 d0_276 (by decide) (by decide) ?_
    show own_G p e below (T21.setTop (mkF m 277 #[.val (.int z0), .val (.int z1), .val (.int z2), .val (.int z3), .val (.int q), .val (.int dg), .val (.int wh), .val (.int nb), .val (.int f), .val (.ref b), .val (.int (1 : Int32))] [(.int (G 4))])) _
    refine own_blk X21 B0_277_286 B0_277_286d (ls' := #[.val (.int z0), .val (.int z1), .val (.int z2), .val (.int z3), .val (.int q), .val (.int dg), .val (.int wh), .val (.int nb), .val (.int f), .val (.ref b), .val (.int (1 : Int32))]) (st' := [(.int f), (.int nb), (.int dg), (.int q), (.int (4 : Int32)), (.int (G 4))]) rfl ?_
    refine own_callP X21 (hw _ (List.mem_of_getElem? (i := 10) rfl)) (hw _ (List.mem_of_getElem? (i := 11) rfl)) (hw _ (List.mem_of_getElem? (i := 3) rfl)) (hw _ (List.mem_of_getElem? (i := 12) rfl)) (by decide) (c_exp l Z a0 hw (4 : Int32) q dg nb f h17 n0 X21.2.1 hf8) d0_286 [(.int (4 : Int32)), (.int q), (.int dg), (.int nb), (.int f)] [(.int (G 4))] rfl rfl pd3 rfl rfl (by decide) (Nat.le_of_ble_eq_true rfl) (by decide) (by decide) (fun T22 X22 => ?_)
    show own_G p e below (T22.setTop (mkF m 289 #[.val (.int z0), .val (.int z1), .val (.int z2), .val (.int z3), .val (.int q), .val (.int dg), .val (.int wh), .val (.int nb), .val (.int f), .val (.ref b), .val (.int (1 : Int32))] [(.int (own_ex (4 : Int32) q dg nb f)), (.int (G 4))])) _
    refine own_icmp X22 d0_289 (pc' := 296) (by decide) (fun (c289 : ¬ (G 4).toInt = (own_ex (4 : Int32) q dg nb f).toInt) => by exfalso; exact c289 (congrArg Int32.toInt (hG (4 : Int32) (by decide) (by decide)))) (fun c289 => ?_)
    have c289 : ¬ (¬ (G 4).toInt = (own_ex (4 : Int32) q dg nb f).toInt) := c289
    refine own_blk X22 B0_292_293 B0_292_293d (ls' := #[.val (.int z0), .val (.int z1), .val (.int z2), .val (.int z3), .val (.int q), .val (.int dg), .val (.int wh), .val (.int nb), .val (.int f), .val (.ref b), .val (.int (1 : Int32))]) (st' := [(.int (1 : Int32))]) rfl ?_
    refine own_goto X22 d0_293 (pc' := 297) (by decide) ?_
    refine own_blk X22 B0_297_301 B0_297_301d (ls' := #[.val (.int z0), .val (.int z1), .val (.int z2), .val (.int z3), .val (.int q), .val (.int dg), .val (.int wh), .val (.int nb), .val (.int f), .val (.ref b), .val (.int (1 : Int32))]) (st' := [(.int (1 : Int32))]) rfl ?_
    refine own_if X22 d0_301 (pc' := 327) (by decide) (fun (c301 : (1 : Int) = 0) => by exfalso; omega) (fun c301 => ?_)
    have c301 : ¬ ((1 : Int) = 0) := c301
    refine own_blk X22 B0_304_307 B0_304_307d (ls' := #[.val (.int z0), .val (.int z1), .val (.int z2), .val (.int z3), .val (.int q), .val (.int dg), .val (.int wh), .val (.int nb), .val (.int f), .val (.ref b), .val (.int (1 : Int32))]) (st' := [(.int (5 : Int32)), (.ref b)]) rfl ?_
    refine own_bald X22 A17 d0_307 (by decide) (by decide) ?_
    show own_G p e below (T22.setTop (mkF m 308 #[.val (.int z0), .val (.int z1), .val (.int z2), .val (.int z3), .val (.int q), .val (.int dg), .val (.int wh), .val (.int nb), .val (.int f), .val (.ref b), .val (.int (1 : Int32))] [(.int (G 5))])) _
    refine own_blk X22 B0_308_317 B0_308_317d (ls' := #[.val (.int z0), .val (.int z1), .val (.int z2), .val (.int z3), .val (.int q), .val (.int dg), .val (.int wh), .val (.int nb), .val (.int f), .val (.ref b), .val (.int (1 : Int32))]) (st' := [(.int f), (.int nb), (.int dg), (.int q), (.int (5 : Int32)), (.int (G 5))]) rfl ?_
    refine own_callP X22 (hw _ (List.mem_of_getElem? (i := 10) rfl)) (hw _ (List.mem_of_getElem? (i := 11) rfl)) (hw _ (List.mem_of_getElem? (i := 3) rfl)) (hw _ (List.mem_of_getElem? (i := 12) rfl)) (by decide) (c_exp l Z a0 hw (5 : Int32) q dg nb f h17 n0 X22.2.1 hf8) d0_317 [(.int (5 : Int32)), (.int q), (.int dg), (.int nb), (.int f)] [(.int (G 5))] rfl rfl pd3 rfl rfl (by decide) (Nat.le_of_ble_eq_true rfl) (by decide) (by decide) (fun T23 X23 => ?_)
    show own_G p e below (T23.setTop (mkF m 320 #[.val (.int z0), .val (.int z1), .val (.int z2), .val (.int z3), .val (.int q), .val (.int dg), .val (.int wh), .val (.int nb), .val (.int f), .val (.ref b), .val (.int (1 : Int32))] [(.int (own_ex (5 : Int32) q dg nb f)), (.int (G 5))])) _
    refine own_icmp X23 d0_320 (pc' := 327) (by decide) (fun (c320 : ¬ (G 5).toInt = (own_ex (5 : Int32) q dg nb f).toInt) => by exfalso; exact c320 (congrArg Int32.toInt (hG (5 : Int32) (by decide) (by decide)))) (fun c320 => ?_)
    have c320 : ¬ (¬ (G 5).toInt = (own_ex (5 : Int32) q dg nb f).toInt) := c320
    refine own_blk X23 B0_323_324 B0_323_324d (ls' := #[.val (.int z0), .val (.int z1), .val (.int z2), .val (.int z3), .val (.int q), .val (.int dg), .val (.int wh), .val (.int nb), .val (.int f), .val (.ref b), .val (.int (1 : Int32))]) (st' := [(.int (1 : Int32))]) rfl ?_
    refine own_goto X23 d0_324 (pc' := 328) (by decide) ?_
    refine own_blk X23 B0_328_332 B0_328_332d (ls' := #[.val (.int z0), .val (.int z1), .val (.int z2), .val (.int z3), .val (.int q), .val (.int dg), .val (.int wh), .val (.int nb), .val (.int f), .val (.ref b), .val (.int (1 : Int32))]) (st' := [(.int (1 : Int32))]) rfl ?_
    refine own_if X23 d0_332 (pc' := 360) (by decide) (fun (c332 : (1 : Int) = 0) => by exfalso; omega) (fun c332 => ?_)
    have c332 : ¬ ((1 : Int) = 0) := c332
    refine own_blk X23 B0_335_339 B0_335_339d (ls' := #[.val (.int z0), .val (.int z1), .val (.int z2), .val (.int z3), .val (.int q), .val (.int dg), .val (.int wh), .val (.int nb), .val (.int f), .val (.ref b), .val (.int (1 : Int32))]) (st' := [(.int (6 : Int32)), (.ref b)]) rfl ?_
    refine own_bald X23 A17 d0_339 (by decide) (by decide) ?_
    show own_G p e below (T23.setTop (mkF m 340 #[.val (.int z0), .val (.int z1), .val (.int z2), .val (.int z3), .val (.int q), .val (.int dg), .val (.int wh), .val (.int nb), .val (.int f), .val (.ref b), .val (.int (1 : Int32))] [(.int (G 6))])) _
    refine own_blk X23 B0_340_350 B0_340_350d (ls' := #[.val (.int z0), .val (.int z1), .val (.int z2), .val (.int z3), .val (.int q), .val (.int dg), .val (.int wh), .val (.int nb), .val (.int f), .val (.ref b), .val (.int (1 : Int32))]) (st' := [(.int f), (.int nb), (.int dg), (.int q), (.int (6 : Int32)), (.int (G 6))]) rfl ?_
    refine own_callP X23 (hw _ (List.mem_of_getElem? (i := 10) rfl)) (hw _ (List.mem_of_getElem? (i := 11) rfl)) (hw _ (List.mem_of_getElem? (i := 3) rfl)) (hw _ (List.mem_of_getElem? (i := 12) rfl)) (by decide) (c_exp l Z a0 hw (6 : Int32) q dg nb f h17 n0 X23.2.1 hf8) d0_350 [(.int (6 : Int32)), (.int q), (.int dg), (.int nb), (.int f)] [(.int (G 6))] rfl rfl pd3 rfl rfl (by decide) (Nat.le_of_ble_eq_true rfl) (by decide) (by decide) (fun T24 X24 => ?_)
    show own_G p e below (T24.setTop (mkF m 353 #[.val (.int z0), .val (.int z1), .val (.int z2), .val (.int z3), .val (.int q), .val (.int dg), .val (.int wh), .val (.int nb), .val (.int f), .val (.ref b), .val (.int (1 : Int32))] [(.int (own_ex (6 : Int32) q dg nb f)), (.int (G 6))])) _
    refine own_icmp X24 d0_353 (pc' := 360) (by decide) (fun (c353 : ¬ (G 6).toInt = (own_ex (6 : Int32) q dg nb f).toInt) => by exfalso; exact c353 (congrArg Int32.toInt (hG (6 : Int32) (by decide) (by decide)))) (fun c353 => ?_)
    have c353 : ¬ (¬ (G 6).toInt = (own_ex (6 : Int32) q dg nb f).toInt) := c353
    refine own_blk X24 B0_356_357 B0_356_357d (ls' := #[.val (.int z0), .val (.int z1), .val (.int z2), .val (.int z3), .val (.int q), .val (.int dg), .val (.int wh), .val (.int nb), .val (.int f), .val (.ref b), .val (.int (1 : Int32))]) (st' := [(.int (1 : Int32))]) rfl ?_
    refine own_goto X24 d0_357 (pc' := 361) (by decide) ?_
    refine own_blk X24 B0_361_365 B0_361_365d (ls' := #[.val (.int z0), .val (.int z1), .val (.int z2), .val (.int z3), .val (.int q), .val (.int dg), .val (.int wh), .val (.int nb), .val (.int f), .val (.ref b), .val (.int (1 : Int32))]) (st' := [(.int (1 : Int32))]) rfl ?_
    refine own_if X24 d0_365 (pc' := 393) (by decide) (fun (c365 : (1 : Int) = 0) => by exfalso; omega) (fun c365 => ?_)
    have c365 : ¬ ((1 : Int) = 0) := c365
    refine own_blk X24 B0_368_372 B0_368_372d (ls' := #[.val (.int z0), .val (.int z1), .val (.int z2), .val (.int z3), .val (.int q), .val (.int dg), .val (.int wh), .val (.int nb), .val (.int f), .val (.ref b), .val (.int (1 : Int32))]) (st' := [(.int (7 : Int32)), (.ref b)]) rfl ?_
    refine own_bald X24 A17 d0_372 (by decide) (by decide) ?_
    show own_G p e below (T24.setTop (mkF m 373 #[.val (.int z0), .val (.int z1), .val (.int z2), .val (.int z3), .val (.int q), .val (.int dg), .val (.int wh), .val (.int nb), .val (.int f), .val (.ref b), .val (.int (1 : Int32))] [(.int (G 7))])) _
    refine own_blk X24 B0_373_383 B0_373_383d (ls' := #[.val (.int z0), .val (.int z1), .val (.int z2), .val (.int z3), .val (.int q), .val (.int dg), .val (.int wh), .val (.int nb), .val (.int f), .val (.ref b), .val (.int (1 : Int32))]) (st' := [(.int f), (.int nb), (.int dg), (.int q), (.int (7 : Int32)), (.int (G 7))]) rfl ?_
    refine own_callP X24 (hw _ (List.mem_of_getElem? (i := 10) rfl)) (hw _ (List.mem_of_getElem? (i := 11) rfl)) (hw _ (List.mem_of_getElem? (i := 3) rfl)) (hw _ (List.mem_of_getElem? (i := 12) rfl)) (by decide) (c_exp l Z a0 hw (7 : Int32) q dg nb f h17 n0 X24.2.1 hf8) d0_383 [(.int (7 : Int32)), (.int q), (.int dg), (.int nb), (.int f)] [(.int (G 7))] rfl rfl pd3 rfl rfl (by decide) (Nat.le_of_ble_eq_true rfl) (by decide) (by decide) (fun T25 X25 => ?_)
    show own_G p e below (T25.setTop (mkF m 386 #[.val (.int z0), .val (.int z1), .val (.int z2), .val (.int z3), .val (.int q), .val (.int dg), .val (.int wh), .val (.int nb), .val (.int f), .val (.ref b), .val (.int (1 : Int32))] [(.int (own_ex (7 : Int32) q dg nb f)), (.int (G 7))])) _
    refine own_icmp X25 d0_386 (pc' := 393) (by decide) (fun (c386 : ¬ (G 7).toInt = (own_ex (7 : Int32) q dg nb f).toInt) => by exfalso; exact c386 (congrArg Int32.toInt (hG (7 : Int32) (by decide) (by decide)))) (fun c386 => ?_)
    have c386 : ¬ (¬ (G 7).toInt = (own_ex (7 : Int32) q dg nb f).toInt) := c386
    refine own_blk X25 B0_389_390 B0_389_390d (ls' := #[.val (.int z0), .val (.int z1), .val (.int z2), .val (.int z3), .val (.int q), .val (.int dg), .val (.int wh), .val (.int nb), .val (.int f), .val (.ref b), .val (.int (1 : Int32))]) (st' := [(.int (1 : Int32))]) rfl ?_
    refine own_goto X25 d0_390 (pc' := 394) (by decide) ?_
    refine own_blk X25 B0_394_398 B0_394_398d (ls' := #[.val (.int z0), .val (.int z1), .val (.int z2), .val (.int z3), .val (.int q), .val (.int dg), .val (.int wh), .val (.int nb), .val (.int f), .val (.ref b), .val (.int (1 : Int32))]) (st' := [(.int (1 : Int32))]) rfl ?_
    refine own_if X25 d0_398 (pc' := 426) (by decide) (fun (c398 : (1 : Int) = 0) => by exfalso; omega) (fun c398 => ?_)
    have c398 : ¬ ((1 : Int) = 0) := c398
    refine own_blk X25 B0_401_405 B0_401_405d (ls' := #[.val (.int z0), .val (.int z1), .val (.int z2), .val (.int z3), .val (.int q), .val (.int dg), .val (.int wh), .val (.int nb), .val (.int f), .val (.ref b), .val (.int (1 : Int32))]) (st' := [(.int (8 : Int32)), (.ref b)]) rfl ?_
    refine own_bald X25 A17 d0_405 (by decide) (by decide) ?_
    show own_G p e below (T25.setTop (mkF m 406 #[.val (.int z0), .val (.int z1), .val (.int z2), .val (.int z3), .val (.int q), .val (.int dg), .val (.int wh), .val (.int nb), .val (.int f), .val (.ref b), .val (.int (1 : Int32))] [(.int (G 8))])) _
    refine own_blk X25 B0_406_416 B0_406_416d (ls' := #[.val (.int z0), .val (.int z1), .val (.int z2), .val (.int z3), .val (.int q), .val (.int dg), .val (.int wh), .val (.int nb), .val (.int f), .val (.ref b), .val (.int (1 : Int32))]) (st' := [(.int f), (.int nb), (.int dg), (.int q), (.int (8 : Int32)), (.int (G 8))]) rfl ?_
    refine own_callP X25 (hw _ (List.mem_of_getElem? (i := 10) rfl)) (hw _ (List.mem_of_getElem? (i := 11) rfl)) (hw _ (List.mem_of_getElem? (i := 3) rfl)) (hw _ (List.mem_of_getElem? (i := 12) rfl)) (by decide) (c_exp l Z a0 hw (8 : Int32) q dg nb f h17 n0 X25.2.1 hf8) d0_416 [(.int (8 : Int32)), (.int q), (.int dg), (.int nb), (.int f)] [(.int (G 8))] rfl rfl pd3 rfl rfl (by decide) (Nat.le_of_ble_eq_true rfl) (by decide) (by decide) (fun T26 X26 => ?_)
    show own_G p e below (T26.setTop (mkF m 419 #[.val (.int z0), .val (.int z1), .val (.int z2), .val (.int z3), .val (.int q), .val (.int dg), .val (.int wh), .val (.int nb), .val (.int f), .val (.ref b), .val (.int (1 : Int32))] [(.int (own_ex (8 : Int32) q dg nb f)), (.int (G 8))])) _
    refine own_icmp X26 d0_419 (pc' := 426) (by decide) (fun (c419 : ¬ (G 8).toInt = (own_ex (8 : Int32) q dg nb f).toInt) => by exfalso; exact c419 (congrArg Int32.toInt (hG (8 : Int32) (by decide) (by decide)))) (fun c419 => ?_)
    have c419 : ¬ (¬ (G 8).toInt = (own_ex (8 : Int32) q dg nb f).toInt) := c419
    refine own_blk X26 B0_422_423 B0_422_423d (ls' := #[.val (.int z0), .val (.int z1), .val (.int z2), .val (.int z3), .val (.int q), .val (.int dg), .val (.int wh), .val (.int nb), .val (.int f), .val (.ref b), .val (.int (1 : Int32))]) (st' := [(.int (1 : Int32))]) rfl ?_
    refine own_goto X26 d0_423 (pc' := 427) (by decide) ?_
    refine own_blk X26 B0_427_431 B0_427_431d (ls' := #[.val (.int z0), .val (.int z1), .val (.int z2), .val (.int z3), .val (.int q), .val (.int dg), .val (.int wh), .val (.int nb), .val (.int f), .val (.ref b), .val (.int (1 : Int32))]) (st' := [(.int (1 : Int32))]) rfl ?_
    refine own_if X26 d0_431 (pc' := 459) (by decide) (fun (c431 : (1 : Int) = 0) => by exfalso; omega) (fun c431 => ?_)
    have c431 : ¬ ((1 : Int) = 0) := c431
    refine own_blk X26 B0_434_438 B0_434_438d (ls' := #[.val (.int z0), .val (.int z1), .val (.int z2), .val (.int z3), .val (.int q), .val (.int dg), .val (.int wh), .val (.int nb), .val (.int f), .val (.ref b), .val (.int (1 : Int32))]) (st' := [(.int (9 : Int32)), (.ref b)]) rfl ?_
    refine own_bald X26 A17 d0_438 (by decide) (by decide) ?_
    show own_G p e below (T26.setTop (mkF m 439 #[.val (.int z0), .val (.int z1), .val (.int z2), .val (.int z3), .val (.int q), .val (.int dg), .val (.int wh), .val (.int nb), .val (.int f), .val (.ref b), .val (.int (1 : Int32))] [(.int (G 9))])) _
    refine own_blk X26 B0_439_449 B0_439_449d (ls' := #[.val (.int z0), .val (.int z1), .val (.int z2), .val (.int z3), .val (.int q), .val (.int dg), .val (.int wh), .val (.int nb), .val (.int f), .val (.ref b), .val (.int (1 : Int32))]) (st' := [(.int f), (.int nb), (.int dg), (.int q), (.int (9 : Int32)), (.int (G 9))]) rfl ?_
    refine own_callP X26 (hw _ (List.mem_of_getElem? (i := 10) rfl)) (hw _ (List.mem_of_getElem? (i := 11) rfl)) (hw _ (List.mem_of_getElem? (i := 3) rfl)) (hw _ (List.mem_of_getElem? (i := 12) rfl)) (by decide) (c_exp l Z a0 hw (9 : Int32) q dg nb f h17 n0 X26.2.1 hf8) d0_449 [(.int (9 : Int32)), (.int q), (.int dg), (.int nb), (.int f)] [(.int (G 9))] rfl rfl pd3 rfl rfl (by decide) (Nat.le_of_ble_eq_true rfl) (by decide) (by decide) (fun T27 X27 => ?_)
    show own_G p e below (T27.setTop (mkF m 452 #[.val (.int z0), .val (.int z1), .val (.int z2), .val (.int z3), .val (.int q), .val (.int dg), .val (.int wh), .val (.int nb), .val (.int f), .val (.ref b), .val (.int (1 : Int32))] [(.int (own_ex (9 : Int32) q dg nb f)), (.int (G 9))])) _
    refine own_icmp X27 d0_452 (pc' := 459) (by decide) (fun (c452 : ¬ (G 9).toInt = (own_ex (9 : Int32) q dg nb f).toInt) => by exfalso; exact c452 (congrArg Int32.toInt (hG (9 : Int32) (by decide) (by decide)))) (fun c452 => ?_)
    have c452 : ¬ (¬ (G 9).toInt = (own_ex (9 : Int32) q dg nb f).toInt) := c452
    refine own_blk X27 B0_455_456 B0_455_456d (ls' := #[.val (.int z0), .val (.int z1), .val (.int z2), .val (.int z3), .val (.int q), .val (.int dg), .val (.int wh), .val (.int nb), .val (.int f), .val (.ref b), .val (.int (1 : Int32))]) (st' := [(.int (1 : Int32))]) rfl ?_
    refine own_goto X27 d0_456 (pc' := 460) (by decide) ?_
    refine own_blk X27 B0_460_464 B0_460_464d (ls' := #[.val (.int z0), .val (.int z1), .val (.int z2), .val (.int z3), .val (.int q), .val (.int dg), .val (.int wh), .val (.int nb), .val (.int f), .val (.ref b), .val (.int (1 : Int32))]) (st' := [(.int (1 : Int32))]) rfl ?_
    refine own_if X27 d0_464 (pc' := 492) (by decide) (fun (c464 : (1 : Int) = 0) => by exfalso; omega) (fun c464 => ?_)
    have c464 : ¬ ((1 : Int) = 0) := c464
    refine own_blk X27 B0_467_471 B0_467_471d (ls' := #[.val (.int z0), .val (.int z1), .val (.int z2), .val (.int z3), .val (.int q), .val (.int dg), .val (.int wh), .val (.int nb), .val (.int f), .val (.ref b), .val (.int (1 : Int32))]) (st' := [(.int (10 : Int32)), (.ref b)]) rfl ?_
    refine own_bald X27 A17 d0_471 (by decide) (by decide) ?_
    show own_G p e below (T27.setTop (mkF m 472 #[.val (.int z0), .val (.int z1), .val (.int z2), .val (.int z3), .val (.int q), .val (.int dg), .val (.int wh), .val (.int nb), .val (.int f), .val (.ref b), .val (.int (1 : Int32))] [(.int (G 10))])) _
    refine own_blk X27 B0_472_482 B0_472_482d (ls' := #[.val (.int z0), .val (.int z1), .val (.int z2), .val (.int z3), .val (.int q), .val (.int dg), .val (.int wh), .val (.int nb), .val (.int f), .val (.ref b), .val (.int (1 : Int32))]) (st' := [(.int f), (.int nb), (.int dg), (.int q), (.int (10 : Int32)), (.int (G 10))]) rfl ?_
    refine own_callP X27 (hw _ (List.mem_of_getElem? (i := 10) rfl)) (hw _ (List.mem_of_getElem? (i := 11) rfl)) (hw _ (List.mem_of_getElem? (i := 3) rfl)) (hw _ (List.mem_of_getElem? (i := 12) rfl)) (by decide) (c_exp l Z a0 hw (10 : Int32) q dg nb f h17 n0 X27.2.1 hf8) d0_482 [(.int (10 : Int32)), (.int q), (.int dg), (.int nb), (.int f)] [(.int (G 10))] rfl rfl pd3 rfl rfl (by decide) (Nat.le_of_ble_eq_true rfl) (by decide) (by decide) (fun T28 X28 => ?_)
    show own_G p e below (T28.setTop (mkF m 485 #[.val (.int z0), .val (.int z1), .val (.int z2), .val (.int z3), .val (.int q), .val (.int dg), .val (.int wh), .val (.int nb), .val (.int f), .val (.ref b), .val (.int (1 : Int32))] [(.int (own_ex (10 : Int32) q dg nb f)), (.int (G 10))])) _
    refine own_icmp X28 d0_485 (pc' := 492) (by decide) (fun (c485 : ¬ (G 10).toInt = (own_ex (10 : Int32) q dg nb f).toInt) => by exfalso; exact c485 (congrArg Int32.toInt (hG (10 : Int32) (by decide) (by decide)))) (fun c485 => ?_)
    have c485 : ¬ (¬ (G 10).toInt = (own_ex (10 : Int32) q dg nb f).toInt) := c485
    refine own_blk X28 B0_488_489 B0_488_489d (ls' := #[.val (.int z0), .val (.int z1), .val (.int z2), .val (.int z3), .val (.int q), .val (.int dg), .val (.int wh), .val (.int nb), .val (.int f), .val (.ref b), .val (.int (1 : Int32))]) (st' := [(.int (1 : Int32))]) rfl ?_
    refine own_goto X28 d0_489 (pc' := 493) (by decide) ?_
    refine own_blk X28 B0_493_497 B0_493_497d (ls' := #[.val (.int z0), .val (.int z1), .val (.int z2), .val (.int z3), .val (.int q), .val (.int dg), .val (.int wh), .val (.int nb), .val (.int f), .val (.ref b), .val (.int (1 : Int32))]) (st' := [(.int (1 : Int32))]) rfl ?_
    refine own_if X28 d0_497 (pc' := 525) (by decide) (fun (c497 : (1 : Int) = 0) => by exfalso; omega) (fun c497 => ?_)
    have c497 : ¬ ((1 : Int) = 0) := c497
    refine own_blk X28 B0_500_504 B0_500_504d (ls' := #[.val (.int z0), .val (.int z1), .val (.int z2), .val (.int z3), .val (.int q), .val (.int dg), .val (.int wh), .val (.int nb), .val (.int f), .val (.ref b), .val (.int (1 : Int32))]) (st' := [(.int (11 : Int32)), (.ref b)]) rfl ?_
    refine own_bald X28 A17 d0_504 (by decide) (by decide) ?_
    show own_G p e below (T28.setTop (mkF m 505 #[.val (.int z0), .val (.int z1), .val (.int z2), .val (.int z3), .val (.int q), .val (.int dg), .val (.int wh), .val (.int nb), .val (.int f), .val (.ref b), .val (.int (1 : Int32))] [(.int (G 11))])) _
    refine own_blk X28 B0_505_515 B0_505_515d (ls' := #[.val (.int z0), .val (.int z1), .val (.int z2), .val (.int z3), .val (.int q), .val (.int dg), .val (.int wh), .val (.int nb), .val (.int f), .val (.ref b), .val (.int (1 : Int32))]) (st' := [(.int f), (.int nb), (.int dg), (.int q), (.int (11 : Int32)), (.int (G 11))]) rfl ?_
    refine own_callP X28 (hw _ (List.mem_of_getElem? (i := 10) rfl)) (hw _ (List.mem_of_getElem? (i := 11) rfl)) (hw _ (List.mem_of_getElem? (i := 3) rfl)) (hw _ (List.mem_of_getElem? (i := 12) rfl)) (by decide) (c_exp l Z a0 hw (11 : Int32) q dg nb f h17 n0 X28.2.1 hf8) d0_515 [(.int (11 : Int32)), (.int q), (.int dg), (.int nb), (.int f)] [(.int (G 11))] rfl rfl pd3 rfl rfl (by decide) (Nat.le_of_ble_eq_true rfl) (by decide) (by decide) (fun T29 X29 => ?_)
    show own_G p e below (T29.setTop (mkF m 518 #[.val (.int z0), .val (.int z1), .val (.int z2), .val (.int z3), .val (.int q), .val (.int dg), .val (.int wh), .val (.int nb), .val (.int f), .val (.ref b), .val (.int (1 : Int32))] [(.int (own_ex (11 : Int32) q dg nb f)), (.int (G 11))])) _
    refine own_icmp X29 d0_518 (pc' := 525) (by decide) (fun (c518 : ¬ (G 11).toInt = (own_ex (11 : Int32) q dg nb f).toInt) => by exfalso; exact c518 (congrArg Int32.toInt (hG (11 : Int32) (by decide) (by decide)))) (fun c518 => ?_)
    have c518 : ¬ (¬ (G 11).toInt = (own_ex (11 : Int32) q dg nb f).toInt) := c518
    refine own_blk X29 B0_521_522 B0_521_522d (ls' := #[.val (.int z0), .val (.int z1), .val (.int z2), .val (.int z3), .val (.int q), .val (.int dg), .val (.int wh), .val (.int nb), .val (.int f), .val (.ref b), .val (.int (1 : Int32))]) (st' := [(.int (1 : Int32))]) rfl ?_
    refine own_goto X29 d0_522 (pc' := 526) (by decide) ?_
    refine own_blk X29 B0_526_530 B0_526_530d (ls' := #[.val (.int z0), .val (.int z1), .val (.int z2), .val (.int z3), .val (.int q), .val (.int dg), .val (.int wh), .val (.int nb), .val (.int f), .val (.ref b), .val (.int (1 : Int32))]) (st' := [(.int (1 : Int32))]) rfl ?_
    refine own_if X29 d0_530 (pc' := 558) (by decide) (fun (c530 : (1 : Int) = 0) => by exfalso; omega) (fun c530 => ?_)
    have c530 : ¬ ((1 : Int) = 0) := c530
    refine own_blk X29 B0_533_537 B0_533_537d (ls' := #[.val (.int z0), .val (.int z1), .val (.int z2), .val (.int z3), .val (.int q), .val (.int dg), .val (.int wh), .val (.int nb), .val (.int f), .val (.ref b), .val (.int (1 : Int32))]) (st' := [(.int (12 : Int32)), (.ref b)]) rfl ?_
    refine own_bald X29 A17 d0_537 (by decide) (by decide) ?_
    show own_G p e below (T29.setTop (mkF m 538 #[.val (.int z0), .val (.int z1), .val (.int z2), .val (.int z3), .val (.int q), .val (.int dg), .val (.int wh), .val (.int nb), .val (.int f), .val (.ref b), .val (.int (1 : Int32))] [(.int (G 12))])) _
    refine own_blk X29 B0_538_548 B0_538_548d (ls' := #[.val (.int z0), .val (.int z1), .val (.int z2), .val (.int z3), .val (.int q), .val (.int dg), .val (.int wh), .val (.int nb), .val (.int f), .val (.ref b), .val (.int (1 : Int32))]) (st' := [(.int f), (.int nb), (.int dg), (.int q), (.int (12 : Int32)), (.int (G 12))]) rfl ?_
    refine own_callP X29 (hw _ (List.mem_of_getElem? (i := 10) rfl)) (hw _ (List.mem_of_getElem? (i := 11) rfl)) (hw _ (List.mem_of_getElem? (i := 3) rfl)) (hw _ (List.mem_of_getElem? (i := 12) rfl)) (by decide) (c_exp l Z a0 hw (12 : Int32) q dg nb f h17 n0 X29.2.1 hf8) d0_548 [(.int (12 : Int32)), (.int q), (.int dg), (.int nb), (.int f)] [(.int (G 12))] rfl rfl pd3 rfl rfl (by decide) (Nat.le_of_ble_eq_true rfl) (by decide) (by decide) (fun T30 X30 => ?_)
    show own_G p e below (T30.setTop (mkF m 551 #[.val (.int z0), .val (.int z1), .val (.int z2), .val (.int z3), .val (.int q), .val (.int dg), .val (.int wh), .val (.int nb), .val (.int f), .val (.ref b), .val (.int (1 : Int32))] [(.int (own_ex (12 : Int32) q dg nb f)), (.int (G 12))])) _
    refine own_icmp X30 d0_551 (pc' := 558) (by decide) (fun (c551 : ¬ (G 12).toInt = (own_ex (12 : Int32) q dg nb f).toInt) => by exfalso; exact c551 (congrArg Int32.toInt (hG (12 : Int32) (by decide) (by decide)))) (fun c551 => ?_)
    have c551 : ¬ (¬ (G 12).toInt = (own_ex (12 : Int32) q dg nb f).toInt) := c551
    refine own_blk X30 B0_554_555 B0_554_555d (ls' := #[.val (.int z0), .val (.int z1), .val (.int z2), .val (.int z3), .val (.int q), .val (.int dg), .val (.int wh), .val (.int nb), .val (.int f), .val (.ref b), .val (.int (1 : Int32))]) (st' := [(.int (1 : Int32))]) rfl ?_
    refine own_goto X30 d0_555 (pc' := 559) (by decide) ?_
    refine own_blk X30 B0_559_563 B0_559_563d (ls' := #[.val (.int z0), .val (.int z1), .val (.int z2), .val (.int z3), .val (.int q), .val (.int dg), .val (.int wh), .val (.int nb), .val (.int f), .val (.ref b), .val (.int (1 : Int32))]) (st' := [(.int (1 : Int32))]) rfl ?_
    refine own_if X30 d0_563 (pc' := 591) (by decide) (fun (c563 : (1 : Int) = 0) => by exfalso; omega) (fun c563 => ?_)
    have c563 : ¬ ((1 : Int) = 0) := c563
    refine own_blk X30 B0_566_570 B0_566_570d (ls' := #[.val (.int z0), .val (.int z1), .val (.int z2), .val (.int z3), .val (.int q), .val (.int dg), .val (.int wh), .val (.int nb), .val (.int f), .val (.ref b), .val (.int (1 : Int32))]) (st' := [(.int (13 : Int32)), (.ref b)]) rfl ?_
    refine own_bald X30 A17 d0_570 (by decide) (by decide) ?_
    show own_G p e below (T30.setTop (mkF m 571 #[.val (.int z0), .val (.int z1), .val (.int z2), .val (.int z3), .val (.int q), .val (.int dg), .val (.int wh), .val (.int nb), .val (.int f), .val (.ref b), .val (.int (1 : Int32))] [(.int (G 13))])) _
    refine own_blk X30 B0_571_581 B0_571_581d (ls' := #[.val (.int z0), .val (.int z1), .val (.int z2), .val (.int z3), .val (.int q), .val (.int dg), .val (.int wh), .val (.int nb), .val (.int f), .val (.ref b), .val (.int (1 : Int32))]) (st' := [(.int f), (.int nb), (.int dg), (.int q), (.int (13 : Int32)), (.int (G 13))]) rfl ?_
    refine own_callP X30 (hw _ (List.mem_of_getElem? (i := 10) rfl)) (hw _ (List.mem_of_getElem? (i := 11) rfl)) (hw _ (List.mem_of_getElem? (i := 3) rfl)) (hw _ (List.mem_of_getElem? (i := 12) rfl)) (by decide) (c_exp l Z a0 hw (13 : Int32) q dg nb f h17 n0 X30.2.1 hf8) d0_581 [(.int (13 : Int32)), (.int q), (.int dg), (.int nb), (.int f)] [(.int (G 13))] rfl rfl pd3 rfl rfl (by decide) (Nat.le_of_ble_eq_true rfl) (by decide) (by decide) (fun T31 X31 => ?_)
    show own_G p e below (T31.setTop (mkF m 584 #[.val (.int z0), .val (.int z1), .val (.int z2), .val (.int z3), .val (.int q), .val (.int dg), .val (.int wh), .val (.int nb), .val (.int f), .val (.ref b), .val (.int (1 : Int32))] [(.int (own_ex (13 : Int32) q dg nb f)), (.int (G 13))])) _
    refine own_icmp X31 d0_584 (pc' := 591) (by decide) (fun (c584 : ¬ (G 13).toInt = (own_ex (13 : Int32) q dg nb f).toInt) => by exfalso; exact c584 (congrArg Int32.toInt (hG (13 : Int32) (by decide) (by decide)))) (fun c584 => ?_)
    have c584 : ¬ (¬ (G 13).toInt = (own_ex (13 : Int32) q dg nb f).toInt) := c584
    refine own_blk X31 B0_587_588 B0_587_588d (ls' := #[.val (.int z0), .val (.int z1), .val (.int z2), .val (.int z3), .val (.int q), .val (.int dg), .val (.int wh), .val (.int nb), .val (.int f), .val (.ref b), .val (.int (1 : Int32))]) (st' := [(.int (1 : Int32))]) rfl ?_
    refine own_goto X31 d0_588 (pc' := 592) (by decide) ?_
    refine own_blk X31 B0_592_596 B0_592_596d (ls' := #[.val (.int z0), .val (.int z1), .val (.int z2), .val (.int z3), .val (.int q), .val (.int dg), .val (.int wh), .val (.int nb), .val (.int f), .val (.ref b), .val (.int (1 : Int32))]) (st' := [(.int (1 : Int32))]) rfl ?_
    exact own_retN X31 (by simp) d0_596 (v' := (1 : Int32)) (rfl) (by decide) (by decide) (rfl)
  refine own_blk X0 B0_20_24 B0_20_24d (ls' := #[.val (.int z0), .val (.int z1), .val (.int z2), .val (.int z3), .val (.int q), .val (.int dg), .val (.int wh), .unset, .unset, .unset, .unset]) (st' := [(.int (10 : Int32)), (.int dg)]) rfl ?_
  refine own_icmp X0 d0_24 (pc' := 32) (by decide) (fun c24 => ?_) (fun c24 => ?_)
  · have c24 : ¬ dg.toInt = 10 := c24
    refine own_blk X0 B0_32_36 B0_32_36d (ls' := #[.val (.int z0), .val (.int z1), .val (.int z2), .val (.int z3), .val (.int q), .val (.int dg), .val (.int wh), .unset, .unset, .unset, .unset]) (st' := [(.int dg), (.int wh)]) rfl ?_
    refine own_callP X0 (hw _ (List.mem_of_getElem? (i := 1) rfl)) (hw _ (List.mem_of_getElem? (i := 2) rfl)) (hw _ (List.mem_of_getElem? (i := 3) rfl)) (hw _ (List.mem_of_getElem? (i := 4) rfl)) (by decide) (c_p10 l Z a0 hw dg h0 n0 X0.2.1) d0_36 [(.int dg)] [(.int wh)] rfl rfl pd1 rfl rfl (by decide) (Nat.le_of_ble_eq_true rfl) (by decide) (by decide) (fun T32 X32 => ?_)
    show own_G p e below (T32.setTop (mkF m 39 #[.val (.int z0), .val (.int z1), .val (.int z2), .val (.int z3), .val (.int q), .val (.int dg), .val (.int wh), .unset, .unset, .unset, .unset] [(.int (own_q10 dg)), (.int wh)])) _
    refine own_iremS X32 d0_39 (own_q10_ne _) ?_
    exact J40 _ _ X32 (by rw [own_irem_pos hwh, own_q10_pow hd.1 (by omega)]; exact Int.emod_nonneg _ (Int.ne_of_gt (Int.pow_pos (by decide))))
  · have c24 : ¬ (¬ dg.toInt = 10) := c24
    refine own_blk X0 B0_27_29 B0_27_29d (ls' := #[.val (.int z0), .val (.int z1), .val (.int z2), .val (.int z3), .val (.int q), .val (.int dg), .val (.int wh), .unset, .unset, .unset, .unset]) (st' := [(.int wh)]) rfl ?_
    refine own_goto X0 d0_29 (pc' := 40) (by decide) ?_
    exact J40 _ _ X0 hwh
set_option maxRecDepth 65536 in
set_option maxHeartbeats 40000000 in
theorem comes_1 {Post : Tables → Env → Array Value → State → Outcome → State → Prop} (hpost : ∀ tb e args s v u, (limb_1_1.after args s (.returned v) u = true ∧ limb_1_2.after args s (.returned v) u = true ∧ True) → FrameEnd s (.returned v) u (Jvm.fieldLocs frame_1_writes args s ++ Jvm.arrayLocs frame_1_arrays args s ++ Jvm.staticLocs frame_1_statics s) 16 128 → Post tb e args s (.returned v) u) :
    ArmFor flags0 classFile x code maxLocals ret World_1 tables_1 room_1 Calls_1 rest_1 Pre_1 Post := by
  intro l hfl _ _ p e ha hc hk s m args below hf hA hF happ hP
  obtain ⟨hcalls, hrest, hpre⟩ := hP
  obtain ⟨-, -, -, hnamed, -, -, -, hat⟩ := (Spec.applies_iff hf).mp happ
  obtain ⟨hg, hn⟩ := and_e (Cond.before_iff.mp (show (Jvm.Cond.and given_1 narrow_1).before args s = true from hpre))
  obtain ⟨gc, g0⟩ := and_e hg
  obtain ⟨q0, g1⟩ := and_e g0
  obtain ⟨q1, g2⟩ := and_e g1
  obtain ⟨q2, g3⟩ := and_e g2
  obtain ⟨w0, w1, w2, w3, rfl⟩ : ∃ w0 w1 w2 w3 : Value, args = #[w0, w1, w2, w3] := by
    have hs : args.size = 4 := by simpa [Cond.value, given_1] using gc
    obtain ⟨L⟩ := args
    match L, hs with
    | [w0, w1, w2, w3], _ => exact ⟨w0, w1, w2, w3, rfl⟩
  have hw := fun d (hd : d ∈ tables_1) => atoms_spec (ws := Jvm.Cond.code x code maxLocals ret :: tables_1) hat d (List.mem_cons_of_mem _ hd)
  obtain ⟨i0, ei0⟩ := is_v q0
  obtain rfl : w0 = (.int i0) := Option.some.inj ei0
  obtain ⟨i1, ei1⟩ := is_v q1
  obtain rfl : w1 = (.int i1) := Option.some.inj ei1
  obtain ⟨i2, ei2⟩ := is_v q2
  obtain rfl : w2 = (.int i2) := Option.some.inj ei2
  obtain ⟨i3, ei3⟩ := is_v g3
  obtain rfl : w3 = (.int i3) := Option.some.inj ei3
  obtain ⟨n, o, h1, h2, h3, _, L, rfl, ⟨N, rfl⟩, hq⟩ := c_law l s _ hw i0 i1 i2 i3 s.heap s.heap.size (Nat.le_refl _) tables_1 p e ha hc hk s m _ below hf ((Spec.applies_iff_loose hf).mp happ).1 ⟨rfl, State.Warmed39.refl s, rfl⟩ trivial
  refine ⟨n, _, h1, h2, h3, hpost _ _ _ _ _ _ ⟨Cond.after_iff.mpr rfl, Cond.after_iff.mpr (eq_i res_at (Term.int_eval (1)) rfl), trivial⟩ ⟨hq.1, hq.2.1, (hq.2.2.sift fun y hy => Or.inr (N y hy)).mono (by decide) (by decide)⟩⟩
theorem main_1_1 : Claimed_1_1 := comes_1 fun _ _ _ _ _ _ h hF => ⟨h.1, hF⟩
theorem main_1_2 : Claimed_1_2 := comes_1 fun _ _ _ _ _ _ h hF => ⟨h.2.1, hF⟩
end Jvm.Pilot.@@N@@
namespace Jvm.Pilot.@@N@@
open Jvm Jvm.ClassFile Sem Op Lib Jvm.Free Jvm.Stand Jvm.Pilot.@@N@@.Jvm.D
/-! MADE BY PROGRAM (witnessworld.py) out of the Statement's table words and the real class files: 9 classes; the members and pool entries that the words name. The judged class is class 1, her method 3. -/
namespace start1
open Jvm.ClassFile
def u (s : String) : CpInfo := .utf8 (stringToUtf16 s)
/-- a pool by its gaps: so many unusable entries, then the entry; so many at the end -/
def gap : Nat → List CpInfo → List CpInfo
  | 0, r => r
  | n + 1, r => .unusable :: gap n r
def poolList (es : List (Nat × CpInfo)) (last : Nat) : List CpInfo := es.foldr (fun e r => gap e.1 (e.2 :: r)) (gap last [])
def pool (es : List (Nat × CpInfo)) (last : Nat) : Array CpInfo := ⟨poolList es last⟩
def fileOf (pool : Array CpInfo) (this : Nat) (attrs : Array Attribute := #[]) (ms : Array MethodInfo := #[]) (fl : Nat := 33) (sup : Nat := 0) (ifs : Array Nat := #[]) (fds : Array FieldInfo := #[]) : ClassFile where
  minorVersion := 0
  majorVersion := 65
  constantPool := pool
  accessFlags := fl
  thisClass := this
  superClass := sup
  interfaces := ifs
  fields := fds
  methods := ms
  attributes := attrs
def plain (name : String) (sup : Option ClassId) : Class where
  name := name
  kind := .ordinary
  loader := none
  accessFlags := 33
  super := sup
  interfaces := #[]
  cf := none
  fields := #[]
  methods := #[]
  instanceTypes := #[]
  staticTypes := #[]
  resolved := #[]
  callSites := []
  init := .initialized
  statics := none
  mirror := none

def pool0 : Array CpInfo := pool [(5, u "<init>"), (0, u "()V"), (1, .class_ 10), (1, u "java/lang/Object")] 113

def k0m0 : Method := { name := "<init>", desc := "()V", sig := { parameters := [], returnType := none }, accessFlags := 1, code := none }
/-- java/lang/Object -/
def k0 : Class := { plain "java/lang/Object" none with
  accessFlags := 33
  interfaces := #[]
  cf := some (fileOf pool0 8 #[] #[{ accessFlags := 1, nameIndex := 5, descriptorIndex := 6, attributes := #[] }] 33 0 #[] #[])
  fields := #[]
  methods := #[k0m0]
  instanceTypes := #[]
  staticTypes := #[]
  resolved := Array.replicate 124 none
  statics := none }

def pool1 : Array CpInfo := pool [(2, .class_ 4), (1, u "java/lang/Object"), (0, u "<init>"), (0, u "()V"), (0, .integer 100000), (0, .integer 1000000), (0, .integer 10000000), (0, .integer 100000000), (0, .integer 1000000000), (0, .methodref 13 14), (0, .class_ 15), (0, .nameAndType 16 17), (0, u "com/example/vedette/vedette/model/Iso2709PutNumberPinLaw"), (0, u "pow10"), (0, u "(I)I"), (0, .integer 2147483647), (0, .methodref 20 21), (0, .class_ 22), (0, .nameAndType 23 24), (0, u "com/example/vedette/vedette/model/Iso2709"), (0, u "putNumber"), (0, u "([BIII)V"), (0, .methodref 13 26), (0, .nameAndType 27 28), (0, u "expected"), (0, u "(IIIIB)B"), (3, u "law"), (0, u "(IIII)Z")] 4

def k1m0 : Method := { name := "<init>", desc := "()V", sig := { parameters := [], returnType := none }, accessFlags := 2, code := none }
def k1c1 : Code := { maxStack := 2, maxLocals := 1, code := method_2_code, exceptionTable := #[], attributes := #[] }
def k1m1 : Method := { name := "pow10", desc := "(I)I", sig := { parameters := [.int], returnType := some .int }, accessFlags := 10, code := some k1c1 }
def k1c2 : Code := { maxStack := 3, maxLocals := 6, code := method_3_code, exceptionTable := #[], attributes := #[] }
def k1m2 : Method := { name := "expected", desc := "(IIIIB)B", sig := { parameters := [.int, .int, .int, .int, .byte], returnType := some .byte }, accessFlags := 10, code := some k1c2 }
def k1c3 : Code := { maxStack := 6, maxLocals := 11, code := code, exceptionTable := #[], attributes := #[] }
def k1m3 : Method := { name := "law", desc := "(IIII)Z", sig := { parameters := [.int, .int, .int, .int], returnType := some .boolean }, accessFlags := 9, code := some k1c3 }
/-- com/example/vedette/vedette/model/Iso2709PutNumberPinLaw -/
def k1 : Class := { plain "com/example/vedette/vedette/model/Iso2709PutNumberPinLaw" (some 0) with
  accessFlags := 49
  interfaces := #[]
  cf := some (fileOf pool1 13 #[] #[{ accessFlags := 2, nameIndex := 5, descriptorIndex := 6, attributes := #[] }, { accessFlags := 10, nameIndex := 16, descriptorIndex := 17, attributes := #[] }, { accessFlags := 10, nameIndex := 27, descriptorIndex := 28, attributes := #[] }, { accessFlags := 9, nameIndex := 32, descriptorIndex := 33, attributes := #[] }] 49 2 #[] #[])
  fields := #[]
  methods := #[k1m0, k1m1, k1m2, k1m3]
  instanceTypes := #[]
  staticTypes := #[]
  resolved := Array.replicate 38 none
  statics := none }

def pool2 : Array CpInfo := pool [(2, .class_ 4), (1, u "java/lang/Object"), (0, u "<init>"), (0, u "()V"), (0, .class_ 8), (0, u "com/example/vedette/vedette/model/Iso2709"), (0, u "RECORD_TERMINATOR"), (0, u "B"), (2, u "FIELD_TERMINATOR"), (1, u "DELIMITER"), (1, u "MAX_RECORD_LENGTH"), (0, u "I"), (1, u "MAX_FIELD_LENGTH"), (1, u "RECORD_LENGTH_AT"), (1, u "RECORD_LENGTH_DIGITS"), (1, u "BASE_ADDRESS_AT"), (1, u "BASE_ADDRESS_DIGITS"), (0, u "ENTRY_LENGTH"), (0, u "TAG_LENGTH"), (1, u "FIELD_LENGTH_DIGITS"), (1, u "FIELD_START_DIGITS"), (7, u "putNumber"), (0, u "([BIII)V")] 2

def k2m0 : Method := { name := "<init>", desc := "()V", sig := { parameters := [], returnType := none }, accessFlags := 2, code := none }
def k2c1 : Code := { maxStack := 5, maxLocals := 6, code := prog_73_method_4_code, exceptionTable := #[], attributes := #[] }
def k2m1 : Method := { name := "putNumber", desc := "([BIII)V", sig := { parameters := [(.array .byte), .int, .int, .int], returnType := none }, accessFlags := 8, code := some k2c1 }
/-- com/example/vedette/vedette/model/Iso2709 -/
def k2 : Class := { plain "com/example/vedette/vedette/model/Iso2709" (some 0) with
  accessFlags := 48
  interfaces := #[]
  cf := some (fileOf pool2 7 #[] #[{ accessFlags := 2, nameIndex := 5, descriptorIndex := 6, attributes := #[] }, { accessFlags := 8, nameIndex := 42, descriptorIndex := 43, attributes := #[] }] 48 2 #[] #[{ accessFlags := 24, nameIndex := 9, descriptorIndex := 10, attributes := #[] }, { accessFlags := 24, nameIndex := 13, descriptorIndex := 10, attributes := #[] }, { accessFlags := 24, nameIndex := 15, descriptorIndex := 10, attributes := #[] }, { accessFlags := 24, nameIndex := 17, descriptorIndex := 18, attributes := #[] }, { accessFlags := 24, nameIndex := 20, descriptorIndex := 18, attributes := #[] }, { accessFlags := 24, nameIndex := 22, descriptorIndex := 18, attributes := #[] }, { accessFlags := 24, nameIndex := 24, descriptorIndex := 18, attributes := #[] }, { accessFlags := 24, nameIndex := 26, descriptorIndex := 18, attributes := #[] }, { accessFlags := 24, nameIndex := 28, descriptorIndex := 18, attributes := #[] }, { accessFlags := 24, nameIndex := 29, descriptorIndex := 18, attributes := #[] }, { accessFlags := 24, nameIndex := 30, descriptorIndex := 18, attributes := #[] }, { accessFlags := 24, nameIndex := 32, descriptorIndex := 18, attributes := #[] }, { accessFlags := 24, nameIndex := 34, descriptorIndex := 18, attributes := #[] }])
  fields := #[{ name := "RECORD_TERMINATOR", type := .byte, accessFlags := 24, slot := 0, constantValue := 0 }, { name := "FIELD_TERMINATOR", type := .byte, accessFlags := 24, slot := 1, constantValue := 0 }, { name := "DELIMITER", type := .byte, accessFlags := 24, slot := 2, constantValue := 0 }, { name := "MAX_RECORD_LENGTH", type := .int, accessFlags := 24, slot := 3, constantValue := 0 }, { name := "MAX_FIELD_LENGTH", type := .int, accessFlags := 24, slot := 4, constantValue := 0 }, { name := "RECORD_LENGTH_AT", type := .int, accessFlags := 24, slot := 5, constantValue := 0 }, { name := "RECORD_LENGTH_DIGITS", type := .int, accessFlags := 24, slot := 6, constantValue := 0 }, { name := "BASE_ADDRESS_AT", type := .int, accessFlags := 24, slot := 7, constantValue := 0 }, { name := "BASE_ADDRESS_DIGITS", type := .int, accessFlags := 24, slot := 8, constantValue := 0 }, { name := "ENTRY_LENGTH", type := .int, accessFlags := 24, slot := 9, constantValue := 0 }, { name := "TAG_LENGTH", type := .int, accessFlags := 24, slot := 10, constantValue := 0 }, { name := "FIELD_LENGTH_DIGITS", type := .int, accessFlags := 24, slot := 11, constantValue := 0 }, { name := "FIELD_START_DIGITS", type := .int, accessFlags := 24, slot := 12, constantValue := 0 }]
  methods := #[k2m0, k2m1]
  instanceTypes := #[]
  staticTypes := #[.byte, .byte, .byte, .int, .int, .int, .int, .int, .int, .int, .int, .int, .int]
  resolved := Array.replicate 46 none
  statics := none }

def pool3 : Array CpInfo := pool [(1, u "java/lang/Cloneable"), (0, .class_ 1), (0, u "java/lang/Object"), (0, .class_ 3)] 3

/-- java/lang/Cloneable -/
def k3 : Class := { plain "java/lang/Cloneable" (some 0) with
  accessFlags := 1537
  interfaces := #[]
  cf := some (fileOf pool3 2 #[] #[] 1537 4 #[] #[])
  fields := #[]
  methods := #[]
  instanceTypes := #[]
  staticTypes := #[]
  resolved := Array.replicate 8 none
  statics := none }

def pool4 : Array CpInfo := pool [(1, u "java/io/Serializable"), (0, .class_ 1), (0, u "java/lang/Object"), (0, .class_ 3)] 3

/-- java/io/Serializable -/
def k4 : Class := { plain "java/io/Serializable" (some 0) with
  accessFlags := 1537
  interfaces := #[]
  cf := some (fileOf pool4 2 #[] #[] 1537 4 #[] #[])
  fields := #[]
  methods := #[]
  instanceTypes := #[]
  staticTypes := #[]
  resolved := Array.replicate 8 none
  statics := none }

/-- the primitive byte -/
def k5 : Class := { plain "byte" none with kind := .primitive 'B', accessFlags := 0x411 }
/-- [B -/
def k6 : Class := { plain "[B" (some 0) with kind := .array 5 .byte, interfaces := #[3, 4], accessFlags := 1041 }

/-- the primitive int -/
def k7 : Class := { plain "int" none with kind := .primitive 'I', accessFlags := 0x411 }
/-- [I -/
def k8 : Class := { plain "[I" (some 0) with kind := .array 7 .int, interfaces := #[3, 4], accessFlags := 1041 }

def heap : Heap := #[]
def classes : Array Class := #[k0, k1, k2, k3, k4, k5, k6, k7, k8]
def interned : List (Array UInt16 × Addr) := []
def slotsUsed : Nat := 0
def theMethod : MethodId := ⟨1, 3⟩
def args0 : Array Value := #[.int 5, .int 6, .int 7, .int 8]
def aboutOver (below : List Frame) : State where
  vm := { classes := classes, interned := interned.toArray }
  heap := heap
  slotsUsed := slotsUsed
  threads := #[{ frames := .invoking theMethod args0 :: below }]
def below0 : List Frame := [.native { method := ⟨0, 0⟩, args := #[] }]
def about1 : State := aboutOver below0
def p0 : Program := .bare "" "" ""
def e0 : Env := launch0.env 0 0 0
theorem w_frames : about1.frames = Frame.invoking theMethod args0 :: below0 := rfl
set_option maxRecDepth 65536 in
theorem w_args : argsFit about1.vm theMethod args0 = true := by decide +kernel
set_option maxRecDepth 65536 in
theorem w_heap : heapFits about1 = true := by decide +kernel
set_option maxRecDepth 65536 in
theorem w_runnable : about1.curStatus? = some .runnable := by decide +kernel
set_option maxRecDepth 65536 in
theorem w_alone : about1.alone = true := by decide +kernel
set_option maxRecDepth 65536 in
theorem w_named : about1.methodNamed? x = some theMethod := by decide +kernel
set_option maxRecDepth 65536 in
theorem w_hears : about1.hears theMethod below0 = true := by decide +kernel
set_option maxRecDepth 65536 in
theorem w_ripe : about1.ripe theMethod args0 below0 = true := by decide +kernel
theorem w_running : about1.status = .running := rfl
set_option maxRecDepth 65536 in
theorem w_room : about1.hasRoom e0.platform room_1 = true :=
  launch0.hasRoom_least _ room_1 (by decide +kernel) (by decide +kernel) (by decide +kernel) (by decide +kernel) (by decide +kernel) (by decide +kernel)
theorem allAtoms_all (ts : List Jvm.Cond) (a : Array Jvm.Value) (st : Jvm.State) : (allAtoms ts).before a st = ts.all (fun c => c.before a st) := by
  induction ts with
  | nil => rfl
  | cons c t ih =>
    show (Jvm.Cond.and c (allAtoms t)).before a st = _
    rw [Jvm.Cond.before_and, ih, List.all_cons]
def words1 : List Jvm.Cond := Jvm.Cond.code x code maxLocals ret :: tables_1
/-- a 'code' word, met by the world's own term for the bytes: nothing is compared byte by byte -/
theorem code_word {y : MethodName} {bytes : ByteArray} {mx : Nat} {rt : Option FieldType} {a : Array Value} {s : State} {m : MethodId} {meth : Method} {c : Code} (h1 : s.methodNamed? y = some m) (h2 : s.vm.method? m = some meth) (h3 : meth.code = some c) (h4 : c.code = bytes)
    (h5 : (c.maxLocals == mx && c.exceptionTable.isEmpty && decide (c.maxStack ≤ mostOperands) && decide (meth.sig.returnType = rt) && !meth.locks && decide (parseMethodDescriptor y.desc = some meth.sig)) = true) : (Jvm.Cond.code y bytes mx rt).before a s = true := by
  simp only [Bool.and_eq_true, beq_iff_eq, Bool.not_eq_true', decide_eq_true_eq] at h5
  obtain ⟨⟨⟨⟨⟨g1, g2⟩, g3⟩, g4⟩, g5⟩, g6⟩ := h5
  simp [Cond.before, Cond.holds, Cond.value, h1, h2, h3, h4, g1, g2, g3, g4, g5, g6]
def isCode : Jvm.Cond → Bool
  | .code _ _ _ _ => true
  | _ => false
theorem all_split {L : List Jvm.Cond} {P : Jvm.Cond → Bool} (h1 : L.all (fun c => isCode c || P c) = true) (h2 : ∀ c ∈ L.filter isCode, P c = true) : L.all P = true := by
  refine List.all_eq_true.mpr fun c hc => ?_
  have h := List.all_eq_true.mp h1 c hc
  rcases Bool.eq_false_or_eq_true (isCode c) with hi | hi
  · exact h2 c (List.mem_filter.mpr ⟨hc, hi⟩)
  · simpa [hi] using h
set_option maxRecDepth 65536 in
theorem w_c0 : (Jvm.Cond.code x code maxLocals ret).before args0 about1 = true := code_word (m := ⟨1, 3⟩) (meth := k1m3) (c := k1c3) (by decide +kernel) rfl rfl rfl (by decide +kernel)
set_option maxRecDepth 65536 in
theorem w_c1 : (Jvm.Cond.code ({ cls := "com/example/vedette/vedette/model/Iso2709PutNumberPinLaw", name := "pow10", desc := "(I)I" } : Jvm.MethodName) method_2_code (1 : Nat) (Option.some Jvm.ClassFile.FieldType.int)).before args0 about1 = true := code_word (m := ⟨1, 1⟩) (meth := k1m1) (c := k1c1) (by decide +kernel) rfl rfl rfl (by decide +kernel)
set_option maxRecDepth 65536 in
theorem w_c2 : (Jvm.Cond.code ({ cls := "com/example/vedette/vedette/model/Iso2709", name := "putNumber", desc := "([BIII)V" } : Jvm.MethodName) prog_73_method_4_code (6 : Nat) (Option.none : Option Jvm.ClassFile.FieldType)).before args0 about1 = true := code_word (m := ⟨2, 1⟩) (meth := k2m1) (c := k2c1) (by decide +kernel) rfl rfl rfl (by decide +kernel)
set_option maxRecDepth 65536 in
theorem w_c3 : (Jvm.Cond.code ({ cls := "com/example/vedette/vedette/model/Iso2709PutNumberPinLaw", name := "expected", desc := "(IIIIB)B" } : Jvm.MethodName) method_3_code (6 : Nat) (Option.some Jvm.ClassFile.FieldType.byte)).before args0 about1 = true := code_word (m := ⟨1, 2⟩) (meth := k1m2) (c := k1c2) (by decide +kernel) rfl rfl rfl (by decide +kernel)
def codes1 : List Jvm.Cond := [Jvm.Cond.code x code maxLocals ret, Jvm.Cond.code ({ cls := "com/example/vedette/vedette/model/Iso2709PutNumberPinLaw", name := "pow10", desc := "(I)I" } : Jvm.MethodName) method_2_code (1 : Nat) (Option.some Jvm.ClassFile.FieldType.int), Jvm.Cond.code ({ cls := "com/example/vedette/vedette/model/Iso2709", name := "putNumber", desc := "([BIII)V" } : Jvm.MethodName) prog_73_method_4_code (6 : Nat) (Option.none : Option Jvm.ClassFile.FieldType), Jvm.Cond.code ({ cls := "com/example/vedette/vedette/model/Iso2709PutNumberPinLaw", name := "expected", desc := "(IIIIB)B" } : Jvm.MethodName) method_3_code (6 : Nat) (Option.some Jvm.ClassFile.FieldType.byte)]
set_option maxRecDepth 65536 in
theorem codes_eq : words1.filter isCode = codes1 := rfl
theorem w_codes : ∀ c ∈ words1.filter isCode, c.before args0 about1 = true := by
  rw [codes_eq]
  intro c hc
  simp only [codes1, List.mem_cons, List.not_mem_nil, or_false] at hc
  rcases hc with rfl | rfl | rfl | rfl
  · exact w_c0
  · exact w_c1
  · exact w_c2
  · exact w_c3
set_option maxRecDepth 65536 in
theorem w_t1 : words1.all (fun c => isCode c || c.before args0 about1) = true := by decide +kernel
theorem w_tables : (allAtoms (Jvm.Cond.code x code maxLocals ret :: tables_1)).before args0 about1 = true := by
  rw [allAtoms_all]
  show words1.all (fun c => c.before args0 about1) = true
  refine all_split ?_ w_codes
  rw [w_t1]
set_option maxRecDepth 65536 in
theorem w_case : (Jvm.Cond.and given_1 narrow_1).before args0 about1 = true := by decide +kernel
theorem w_applies : (headSpec (Jvm.Cond.code x code maxLocals ret :: tables_1) room_1).applies x e0.platform about1 = true :=
  (Spec.applies_iff w_frames).mpr ⟨w_running, w_runnable, w_alone, w_named, w_hears, w_ripe, w_room, w_tables⟩
theorem atStart : AtStart classFile x code maxLocals ret World_1 tables_1 room_1 Calls_1 rest_1 Pre_1 launch0 p0 e0 about1 theMethod args0 below0 :=
  ⟨lists_1, trivial, launch0.admits_env _ _ _, launch0.least_env, fairChoices_fair.cas, fairChoices_fair.clock, w_frames, w_args, w_heap, w_applies, trivial, trivial, w_case⟩
end start1
theorem witness_1 : WitnessClaimed_1 := ⟨start1.p0, start1.e0, start1.about1, start1.theMethod, start1.args0, start1.below0, start1.atStart⟩
end Jvm.Pilot.@@N@@
