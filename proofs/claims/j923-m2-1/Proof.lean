import JvmDerived
import JvmDerived.Pilot.@@N@@Statement
import JvmDerived.Pilot.@@N@@Code
set_option linter.unusedVariables false
set_option linter.unusedSimpArgs false
@@BLOCK:NumsL.lean.txt@@
namespace Jvm.Pilot.@@N@@
open Jvm Jvm.ClassFile Sem Op Lib Jvm.Free Jvm.Stand Jvm.LawKit Jvm.RoadKit Bundle Jvm.Pilot.@@N@@.Jvm.D
/-! ### own layer 1: plain steps by evaluation over a list of decoded instructions -/
def own_iushr (x y : Int32) : Int32 := (x.toUInt32 >>> (y &&& 31).toUInt32).toInt32
def own_ishl (x y : Int32) : Int32 := x <<< (y &&& 31)
def own_ishr (x y : Int32) : Int32 := x >>> (y &&& 31)
def own_irem (x y : Int32) : Int32 := x - (x / y) * y
def own_lrem (x y : Int64) : Int64 := x - (x / y) * y
def own_lushr (x : Int64) (y : Int32) : Int64 := (x.toUInt64 >>> (y &&& 0x3f).toInt64.toUInt64).toInt64
def own_lshl (x : Int64) (y : Int32) : Int64 := x <<< (y &&& 0x3f).toInt64
def own_lshr (x : Int64) (y : Int32) : Int64 := x >>> (y &&& 0x3f).toInt64
def own_i2b (x : Int32) : Int32 := x.toInt8.toInt32

abbrev own_R : Type := Option (Array Slot × List Value)
def own_i2 (f : Int32 → Int32 → Int32) (ls : Array Slot) : List Value → own_R
  | .int y :: .int x :: r => some (ls, .int (f x y) :: r)
  | _ => none
def own_i1 (f : Int32 → Value) (ls : Array Slot) : List Value → own_R
  | .int x :: r => some (ls, f x :: r)
  | _ => none
def own_l2 (f : Int64 → Int64 → Int64) (ls : Array Slot) : List Value → own_R
  | .long y :: .long x :: r => some (ls, .long (f x y) :: r)
  | _ => none
def own_lS (f : Int64 → Int32 → Int64) (ls : Array Slot) : List Value → own_R
  | .int y :: .long x :: r => some (ls, .long (f x y) :: r)
  | _ => none
def own_l1 (f : Int64 → Value) (ls : Array Slot) : List Value → own_R
  | .long x :: r => some (ls, f x :: r)
  | _ => none
def own_li (ls : Array Slot) (k : Nat) (st : List Value) : own_R :=
  match ls[k]? with
  | some (.val (.int v)) => some (ls, .int v :: st)
  | _ => none
def own_ll (ls : Array Slot) (k : Nat) (st : List Value) : own_R :=
  match ls[k]? with
  | some (.val (.long v)) => some (ls, .long v :: st)
  | _ => none
def own_la (ls : Array Slot) (k : Nat) (st : List Value) : own_R :=
  match ls[k]? with
  | some (.val (.ref v)) => some (ls, .ref v :: st)
  | some (.val .null) => some (ls, .null :: st)
  | _ => none
def own_sv (ls : Array Slot) (k : Nat) (v : Value) (r : List Value) : own_R :=
  match storeLocals ls k v with
  | some l' => some (l', r)
  | none => none
def own_si (ls : Array Slot) (k : Nat) : List Value → own_R
  | .int x :: r => own_sv ls k (.int x) r
  | _ => none
def own_sl (ls : Array Slot) (k : Nat) : List Value → own_R
  | .long x :: r => own_sv ls k (.long x) r
  | _ => none
def own_sa (ls : Array Slot) (k : Nat) : List Value → own_R
  | .ref x :: r => own_sv ls k (.ref x) r
  | .null :: r => own_sv ls k .null r
  | _ => none
def own_inc (ls : Array Slot) (k : Nat) (d : Int) (st : List Value) : own_R :=
  match ls[k]? with
  | some (.val (.int v)) => own_sv ls k (.int (v + Int32.ofInt d)) st
  | _ => none
def own_dup (ls : Array Slot) : List Value → own_R
  | .int x :: r => some (ls, .int x :: .int x :: r)
  | .ref x :: r => some (ls, .ref x :: .ref x :: r)
  | _ => none
def own_dupX (ls : Array Slot) : List Value → own_R
  | .int x :: .ref y :: r => some (ls, .int x :: .ref y :: .int x :: r)
  | _ => none
def own_pop (ls : Array Slot) : List Value → own_R
  | .int _ :: r => some (ls, r)
  | .ref _ :: r => some (ls, r)
  | _ => none

def own_p (i : Instr) (n : Nat) (ls : Array Slot) (st : List Value) : own_R :=
  match i, n with
  | .iconst k, 1 => some (ls, .int (Int32.ofInt k) :: st)
  | .bipush k, 2 => some (ls, .int (Int8.ofInt k).toInt32 :: st)
  | .sipush k, 3 => some (ls, .int (Int16.ofInt k).toInt32 :: st)
  | .lconst k, 1 => some (ls, .long (Int64.ofNat k) :: st)
  | .aconst_null, 1 => some (ls, .null :: st)
  | .iload_n k, 1 => own_li ls k.val st
  | .iload k, 2 => own_li ls k st
  | .lload_n k, 1 => own_ll ls k.val st
  | .lload k, 2 => own_ll ls k st
  | .aload_n k, 1 => own_la ls k.val st
  | .aload k, 2 => own_la ls k st
  | .istore_n k, 1 => own_si ls k.val st
  | .istore k, 2 => own_si ls k st
  | .lstore_n k, 1 => own_sl ls k.val st
  | .lstore k, 2 => own_sl ls k st
  | .astore_n k, 1 => own_sa ls k.val st
  | .astore k, 2 => own_sa ls k st
  | .iinc k d, 3 => own_inc ls k d st
  | .iadd, 1 => own_i2 (· + ·) ls st
  | .isub, 1 => own_i2 (· - ·) ls st
  | .imul, 1 => own_i2 (· * ·) ls st
  | .iand, 1 => own_i2 (· &&& ·) ls st
  | .ior, 1 => own_i2 (· ||| ·) ls st
  | .ixor, 1 => own_i2 (· ^^^ ·) ls st
  | .ishl, 1 => own_i2 own_ishl ls st
  | .ishr, 1 => own_i2 own_ishr ls st
  | .iushr, 1 => own_i2 own_iushr ls st
  | .ladd, 1 => own_l2 (· + ·) ls st
  | .lsub, 1 => own_l2 (· - ·) ls st
  | .lmul, 1 => own_l2 (· * ·) ls st
  | .land, 1 => own_l2 (· &&& ·) ls st
  | .lor, 1 => own_l2 (· ||| ·) ls st
  | .lxor, 1 => own_l2 (· ^^^ ·) ls st
  | .lshl, 1 => own_lS own_lshl ls st
  | .lshr, 1 => own_lS own_lshr ls st
  | .lushr, 1 => own_lS own_lushr ls st
  | .i2b, 1 => own_i1 (fun x => .int (own_i2b x)) ls st
  | .i2l, 1 => own_i1 (fun x => .long x.toInt64) ls st
  | .l2i, 1 => own_l1 (fun x => .int x.toInt32) ls st
  | .dup, 1 => own_dup ls st
  | .dup_x1, 1 => own_dupX ls st
  | .pop, 1 => own_pop ls st
  | _, _ => none

section Inv
variable {ls ls' : Array Slot} {st st' : List Value}
theorem own_i2_inv {f : Int32 → Int32 → Int32} (h : own_i2 f ls st = some (ls', st')) : ∃ x y r, st = .int y :: .int x :: r ∧ ls' = ls ∧ st' = .int (f x y) :: r := by
  unfold own_i2 at h; split at h
  · cases h; exact ⟨_, _, _, rfl, rfl, rfl⟩
  · cases h
theorem own_i1_inv {f : Int32 → Value} (h : own_i1 f ls st = some (ls', st')) : ∃ x r, st = .int x :: r ∧ ls' = ls ∧ st' = f x :: r := by
  unfold own_i1 at h; split at h
  · cases h; exact ⟨_, _, rfl, rfl, rfl⟩
  · cases h
theorem own_l2_inv {f : Int64 → Int64 → Int64} (h : own_l2 f ls st = some (ls', st')) : ∃ x y r, st = .long y :: .long x :: r ∧ ls' = ls ∧ st' = .long (f x y) :: r := by
  unfold own_l2 at h; split at h
  · cases h; exact ⟨_, _, _, rfl, rfl, rfl⟩
  · cases h
theorem own_lS_inv {f : Int64 → Int32 → Int64} (h : own_lS f ls st = some (ls', st')) : ∃ x y r, st = .int y :: .long x :: r ∧ ls' = ls ∧ st' = .long (f x y) :: r := by
  unfold own_lS at h; split at h
  · cases h; exact ⟨_, _, _, rfl, rfl, rfl⟩
  · cases h
theorem own_l1_inv {f : Int64 → Value} (h : own_l1 f ls st = some (ls', st')) : ∃ x r, st = .long x :: r ∧ ls' = ls ∧ st' = f x :: r := by
  unfold own_l1 at h; split at h
  · cases h; exact ⟨_, _, rfl, rfl, rfl⟩
  · cases h
theorem own_li_inv {k : Nat} (h : own_li ls k st = some (ls', st')) : ∃ v, ls[k]? = some (.val (.int v)) ∧ ls' = ls ∧ st' = .int v :: st := by
  unfold own_li at h; split at h
  · rename_i q; cases h; exact ⟨_, q, rfl, rfl⟩
  · cases h
theorem own_ll_inv {k : Nat} (h : own_ll ls k st = some (ls', st')) : ∃ v, ls[k]? = some (.val (.long v)) ∧ ls' = ls ∧ st' = .long v :: st := by
  unfold own_ll at h; split at h
  · rename_i q; cases h; exact ⟨_, q, rfl, rfl⟩
  · cases h
theorem own_la_inv {k : Nat} (h : own_la ls k st = some (ls', st')) : ∃ v : Value, v.isRef = true ∧ ls[k]? = some (.val v) ∧ ls' = ls ∧ st' = v :: st := by
  unfold own_la at h; split at h
  · rename_i q; cases h; exact ⟨_, rfl, q, rfl, rfl⟩
  · rename_i q; cases h; exact ⟨_, rfl, q, rfl, rfl⟩
  · cases h
theorem own_sv_inv {k : Nat} {v : Value} {r : List Value} (h : own_sv ls k v r = some (ls', st')) : storeLocals ls k v = some ls' ∧ st' = r := by
  unfold own_sv at h; split at h
  · rename_i q; cases h; exact ⟨q, rfl⟩
  · cases h
theorem own_si_inv {k : Nat} (h : own_si ls k st = some (ls', st')) : ∃ x, st = .int x :: st' ∧ storeLocals ls k (.int x) = some ls' := by
  unfold own_si at h; split at h
  · obtain ⟨h1, h2⟩ := own_sv_inv h; subst h2; exact ⟨_, rfl, h1⟩
  · cases h
theorem own_sl_inv {k : Nat} (h : own_sl ls k st = some (ls', st')) : ∃ x, st = .long x :: st' ∧ storeLocals ls k (.long x) = some ls' := by
  unfold own_sl at h; split at h
  · obtain ⟨h1, h2⟩ := own_sv_inv h; subst h2; exact ⟨_, rfl, h1⟩
  · cases h
theorem own_sa_inv {k : Nat} (h : own_sa ls k st = some (ls', st')) : ∃ x : Value, x.isRef = true ∧ st = x :: st' ∧ storeLocals ls k x = some ls' := by
  unfold own_sa at h; split at h
  · obtain ⟨h1, h2⟩ := own_sv_inv h; subst h2; exact ⟨_, rfl, rfl, h1⟩
  · obtain ⟨h1, h2⟩ := own_sv_inv h; subst h2; exact ⟨_, rfl, rfl, h1⟩
  · cases h
theorem own_inc_inv {k : Nat} {d : Int} (h : own_inc ls k d st = some (ls', st')) : ∃ x, ls[k]? = some (.val (.int x)) ∧ storeLocals ls k (.int (x + Int32.ofInt d)) = some ls' ∧ st' = st := by
  unfold own_inc at h; split at h
  · rename_i q; obtain ⟨h1, h2⟩ := own_sv_inv h; exact ⟨_, q, h1, h2⟩
  · cases h
theorem own_dup_inv (h : own_dup ls st = some (ls', st')) : ∃ (x : Value) (r : List Value), st = x :: r ∧ x.category = 1 ∧ ls' = ls ∧ st' = x :: x :: r := by
  unfold own_dup at h; split at h
  · cases h; exact ⟨_, _, rfl, rfl, rfl, rfl⟩
  · cases h; exact ⟨_, _, rfl, rfl, rfl, rfl⟩
  · cases h
theorem own_dupX_inv (h : own_dupX ls st = some (ls', st')) : ∃ (x y : Value) (r : List Value), st = x :: y :: r ∧ x.category = 1 ∧ y.category = 1 ∧ ls' = ls ∧ st' = x :: y :: x :: r := by
  unfold own_dupX at h; split at h
  · cases h; exact ⟨_, _, _, rfl, rfl, rfl, rfl, rfl⟩
  · cases h
theorem own_pop_inv (h : own_pop ls st = some (ls', st')) : ∃ (x : Value), st = x :: st' ∧ x.category = 1 ∧ ls' = ls := by
  unfold own_pop at h; split at h
  · cases h; exact ⟨_, rfl, rfl, rfl⟩
  · cases h; exact ⟨_, rfl, rfl, rfl⟩
  · cases h
end Inv

set_option maxHeartbeats 4000000 in
theorem own_p_ok {tb : Tables} [Ours tb] {e : Env} {below : List Frame} {T t : State} {m : MethodId} {c : Code} (h : At T m c below) (hx : tb.exec = Jvm.exec) {i : Instr} {n pc : Nat} {ls ls' : Array Slot} {st st' : List Value}
    (hd : decode c.code pc = .ok (i, n)) (hp : own_p i n ls st = some (ls', st')) (hr : Steps tb e below (T.setTop (mkF m (pc + n) ls' st')) t) : Steps tb e below (T.setTop (mkF m pc ls st)) t := by
  unfold own_p at hp
  split at hp
  · cases hp; exact XS.iconst h hx rfl hd hr
  · cases hp; exact XS.bipush h hx rfl hd hr
  · cases hp; exact XS.sipush h hx rfl hd hr
  · cases hp; exact XS.lconst h hx rfl hd hr
  · cases hp; exact XS.aconstNull h hx rfl hd hr
  · obtain ⟨v, q, rfl, rfl⟩ := own_li_inv hp; exact XS.iloadN h hx rfl hd q hr
  · obtain ⟨v, q, rfl, rfl⟩ := own_li_inv hp; exact XS.iload h hx rfl hd q hr
  · obtain ⟨v, q, rfl, rfl⟩ := own_ll_inv hp; exact XS.lloadN h hx rfl hd q hr
  · obtain ⟨v, q, rfl, rfl⟩ := own_ll_inv hp; exact XS.lload h hx rfl hd q hr
  · obtain ⟨v, q0, q, rfl, rfl⟩ := own_la_inv hp; exact XS.aloadN h hx rfl hd q q0 hr
  · obtain ⟨v, q0, q, rfl, rfl⟩ := own_la_inv hp; exact XS.aload h hx rfl hd q q0 hr
  · obtain ⟨x, rfl, q⟩ := own_si_inv hp; exact XS.istoreN h hx rfl hd rfl q hr
  · obtain ⟨x, rfl, q⟩ := own_si_inv hp; exact XS.istore h hx rfl hd rfl q hr
  · obtain ⟨x, rfl, q⟩ := own_sl_inv hp; exact XS.lstoreN h hx rfl hd rfl q hr
  · obtain ⟨x, rfl, q⟩ := own_sl_inv hp; exact XS.lstore h hx rfl hd rfl q hr
  · obtain ⟨x, q0, rfl, q⟩ := own_sa_inv hp; exact XS.astoreN h hx rfl hd rfl q0 q hr
  · obtain ⟨x, q0, rfl, q⟩ := own_sa_inv hp; exact XS.astore h hx rfl hd rfl q0 q hr
  · obtain ⟨x, q1, q2, rfl⟩ := own_inc_inv hp; exact XS.iinc h hx rfl hd q1 q2 hr
  · obtain ⟨x, y, r, rfl, rfl, rfl⟩ := own_i2_inv hp; exact XS.iadd h hx rfl hd rfl hr
  · obtain ⟨x, y, r, rfl, rfl, rfl⟩ := own_i2_inv hp; exact XS.isub h hx rfl hd rfl hr
  · obtain ⟨x, y, r, rfl, rfl, rfl⟩ := own_i2_inv hp; exact XS.imul h hx rfl hd rfl hr
  · obtain ⟨x, y, r, rfl, rfl, rfl⟩ := own_i2_inv hp; exact XS.iand h hx rfl hd rfl hr
  · obtain ⟨x, y, r, rfl, rfl, rfl⟩ := own_i2_inv hp; exact XS.ior h hx rfl hd rfl hr
  · obtain ⟨x, y, r, rfl, rfl, rfl⟩ := own_i2_inv hp; exact XS.ixor h hx rfl hd rfl hr
  · obtain ⟨x, y, r, rfl, rfl, rfl⟩ := own_i2_inv hp; exact XS.ishl h hx rfl hd rfl hr
  · obtain ⟨x, y, r, rfl, rfl, rfl⟩ := own_i2_inv hp; exact XS.ishr h hx rfl hd rfl hr
  · obtain ⟨x, y, r, rfl, rfl, rfl⟩ := own_i2_inv hp; exact XS.iushr h hx rfl hd rfl hr
  · obtain ⟨x, y, r, rfl, rfl, rfl⟩ := own_l2_inv hp; exact XS.ladd h hx rfl hd rfl hr
  · obtain ⟨x, y, r, rfl, rfl, rfl⟩ := own_l2_inv hp; exact XS.lsub h hx rfl hd rfl hr
  · obtain ⟨x, y, r, rfl, rfl, rfl⟩ := own_l2_inv hp; exact XS.lmul h hx rfl hd rfl hr
  · obtain ⟨x, y, r, rfl, rfl, rfl⟩ := own_l2_inv hp; exact XS.land h hx rfl hd rfl hr
  · obtain ⟨x, y, r, rfl, rfl, rfl⟩ := own_l2_inv hp; exact XS.lor h hx rfl hd rfl hr
  · obtain ⟨x, y, r, rfl, rfl, rfl⟩ := own_l2_inv hp; exact XS.lxor h hx rfl hd rfl hr
  · obtain ⟨x, y, r, rfl, rfl, rfl⟩ := own_lS_inv hp; exact XS.lshl h hx rfl hd rfl hr
  · obtain ⟨x, y, r, rfl, rfl, rfl⟩ := own_lS_inv hp; exact XS.lshr h hx rfl hd rfl hr
  · obtain ⟨x, y, r, rfl, rfl, rfl⟩ := own_lS_inv hp; exact XS.lushr h hx rfl hd rfl hr
  · obtain ⟨x, r, rfl, rfl, rfl⟩ := own_i1_inv hp; exact XS.i2b h hx rfl hd rfl hr
  · obtain ⟨x, r, rfl, rfl, rfl⟩ := own_i1_inv hp; exact XS.i2l h hx rfl hd rfl hr
  · obtain ⟨x, r, rfl, rfl, rfl⟩ := own_l1_inv hp; exact XS.l2i h hx rfl hd rfl hr
  · obtain ⟨x, r, rfl, q, rfl, rfl⟩ := own_dup_inv hp; exact XS.dup h hx rfl hd rfl q hr
  · obtain ⟨x, y, r, rfl, q1, q2, rfl, rfl⟩ := own_dupX_inv hp; exact XS.dupX1 h hx rfl hd rfl q1 q2 hr
  · obtain ⟨x, rfl, q, rfl⟩ := own_pop_inv hp; exact XS.pop h hx rfl hd rfl q hr
  · cases hp

/-- the list lies in the code from pc on, up to pc' -/
def own_d (code : ByteArray) : Nat → List (Instr × Nat) → Nat → Bool
  | pc, [], pc' => pc == pc'
  | pc, (i, n) :: L, pc' => decide (decode code pc = .ok (i, n)) && own_d code (pc + n) L pc'
def own_x : List (Instr × Nat) → Array Slot → List Value → own_R
  | [], ls, st => some (ls, st)
  | (i, n) :: L, ls, st => match own_p i n ls st with
    | some (ls', st') => own_x L ls' st'
    | none => none
theorem own_x_ok {tb : Tables} [Ours tb] {e : Env} {below : List Frame} {T t : State} {m : MethodId} {c : Code} (h : At T m c below) (hx : tb.exec = Jvm.exec) : ∀ (L : List (Instr × Nat)) {pc pc' : Nat} {ls ls' : Array Slot} {st st' : List Value},
    own_d c.code pc L pc' = true → own_x L ls st = some (ls', st') → Steps tb e below (T.setTop (mkF m pc' ls' st')) t → Steps tb e below (T.setTop (mkF m pc ls st)) t
  | [], pc, pc', ls, ls', st, st', hd, hr, k => by
    have e1 : pc = pc' := by simpa [own_d] using hd
    subst e1
    cases hr
    exact k
  | (i, n) :: L, pc, pc', ls, ls', st, st', hd, hr, k => by
    simp only [own_d, Bool.and_eq_true, decide_eq_true_eq] at hd
    simp only [own_x] at hr
    cases hq : own_p i n ls st with
    | none => rw [hq] at hr; cases hr
    | some q =>
      obtain ⟨l1, s1⟩ := q
      rw [hq] at hr
      exact own_p_ok h hx hd.1 hq (own_x_ok h hx L hd.2 hr k)

/-! ### own layer 2: where a walk stands, and that it comes to its end -/
def own_G (p : Program) (e : Env) (below : List Frame) (A : State) (Q : Outcome → State → Prop) : Prop :=
  ∃ s₂ o, Steps p.tables e below A s₂ ∧ s₂.status = .running ∧ Ended s₂ below o ∧ Q o s₂
theorem own_st {p : Program} {e : Env} {below : List Frame} {A A' : State} {Q : Outcome → State → Prop} (st : ∀ t, Steps p.tables e below A' t → Steps p.tables e below A t) (g : own_G p e below A' Q) : own_G p e below A Q := by
  obtain ⟨s2, o, h1, h2⟩ := g
  exact ⟨s2, o, st _ h1, h2⟩
def own_E (s : State) (n0 : Nat) (P : Option Value → Heap → Prop) (C S : Nat) (o : Outcome) (U : State) : Prop := ∃ v L, o = .returned v ∧ (Fr n0 L ∧ P v U.heap) ∧ FrameEnd s o U L C S
def own_X (p : Program) (l : Launch) (e : Env) (R : Room) (s : State) (m : MethodId) (args : Array Value) (below : List Frame) (meth : Method) (c : Code) (Z : State) (bytes : ByteArray) (maxL : Nat) (ret : Option FieldType) (y : MethodName) (n0 : Nat) (h : Heap) (T : State) (k n : Nat) : Prop :=
  (p.tables.exec = Jvm.exec ∧ c.code = bytes ∧ c.maxLocals = maxL ∧ s.vm.findClass y.cls = some m.cls ∧ meth.name = y.name ∧ meth.sig.returnType = ret ∧ Z.Warmed39 s.vm ∧ meth.locks = false) ∧
    n0 ≤ h.size ∧ T.heap = h ∧ ∃ locs, Stand p l e R s m args below meth c T locs k n ∧ Fr n0 locs
/-- a body's contract: from these arguments and this heap it returns, and P says what, and what heap it leaves -/
def own_C (l : Launch) (Z : State) (y : MethodName) (bytes : ByteArray) (maxL : Nat) (ret : Option FieldType) (rm : Room) (as : Array Value) (h0 : Heap) (n0 : Nat) (P : Option Value → Heap → Prop) : Prop :=
  ∀ ws : List Jvm.Cond, MetFree l y (head1 (Jvm.Cond.code y bytes maxL ret :: ws) rm) (fun a U => a = as ∧ Z.Warmed39 U.vm ∧ U.heap = h0) (fun _ _ _ _ _ => True)
    (fun _ U o U' => ∃ v L, o = .returned v ∧ (Fr n0 L ∧ P v U'.heap) ∧ FrameEnd U o U' L rm.cells rm.slots)
theorem own_body {l : Launch} {Z : State} {y : MethodName} {bytes : ByteArray} {maxL : Nat} {ret : Option FieldType} {rm : Room} {as : Array Value} {h0 : Heap} {n0 : Nat} {P : Option Value → Heap → Prop} (hpl : plainFor y = true) (h0n : n0 ≤ h0.size) {ls : Array Slot} (hef : ∀ m, entryFrame m as maxL = mkF m 0 ls [])
    (k : ∀ p e s m below meth c T, own_X p l e rm s m as below meth c Z bytes maxL ret y n0 h0 T 0 0 → own_G p e below (T.setTop (mkF m 0 ls [])) (own_E s n0 P rm.cells rm.slots)) : own_C l Z y bytes maxL ret rm as h0 n0 P := by
  intro ws
  refine MetFree.of_bodySF hpl hisR ?_
  intro p e s m args below meth c s₁ Bd hml0 hP hK
  obtain ⟨rfl, hZ, hh⟩ := hP
  have e0 : s₁.heap = h0 := by rw [← hh, Bd.state]; rfl
  have X0 : Stand p l e rm s m args below meth c s₁ [] 0 0 := Stand.of_body Bd
  have g := k p e s m below meth c s₁ ⟨⟨Bd.exec, Bd.bytes, hml0, findClass_of_methodNamed Bd.named, (name_of_methodNamed Bd.named Bd.method).1, Bd.returns, hZ, Bd.notSynchronized⟩, h0n, e0, [], X0, Fr.nil n0⟩
  rw [← hef m] at g
  exact g

section Walk
variable {p : Program} {l : Launch} {e : Env} {R : Room} {s : State} {m : MethodId} {args : Array Value} {below : List Frame} {meth : Method} {c : Code} {Z : State} {bytes : ByteArray} {maxL : Nat} {ret : Option FieldType} {y : MethodName} {n0 : Nat} {h : Heap} {T : State} {k n : Nat} {Q : Outcome → State → Prop} {pc pc' : Nat} {ls ls' : Array Slot} {st st' : List Value} {a0 : Array Value}
theorem own_blk (X : own_X p l e R s m args below meth c Z bytes maxL ret y n0 h T k n) (L : List (Instr × Nat)) (hd : own_d bytes pc L pc' = true) (hr : own_x L ls st = some (ls', st')) (g : own_G p e below (T.setTop (mkF m pc' ls' st')) Q) : own_G p e below (T.setTop (mkF m pc ls st)) Q := by
  obtain ⟨⟨hx, hby, -⟩, -, -, locs, X, -⟩ := X
  subst hby
  exact own_st (fun t q => own_x_ok X.here hx L hd hr q) g
/-! branches -/
def own_tg (pc : Nat) (o : Int) (pc' : Nat) : Bool := decide (0 ≤ (pc : Int) + o) && decide (((pc : Int) + o).toNat = pc')
def own_cI : ClassFile.Cond → Int → Int → Prop
  | .eq, x, y => x = y
  | .ne, x, y => ¬ x = y
  | .lt, x, y => x < y
  | .ge, x, y => y ≤ x
  | .gt, x, y => y < x
  | .le, x, y => x ≤ y
theorem own_icmp_iff (cd : ClassFile.Cond) (x y : Int32) : if_icmp.holds cd x y = true ↔ own_cI cd x.toInt y.toInt := by
  cases cd <;> simp [if_icmp.holds, own_cI, Int32.lt_iff_toInt_lt, Int32.le_iff_toInt_le, Int32.toInt_inj]
theorem own_if_iff (cd : ClassFile.Cond) (x : Int32) : ifCond.holds cd x = true ↔ own_cI cd x.toInt 0 := by
  rw [if0]; exact own_icmp_iff cd x 0
theorem own_l_iff (cd : ClassFile.Cond) (x y : Int64) : ifCond.holds cd (if x > y then 1 else if x = y then 0 else -1) = true ↔ own_cI cd x.toInt y.toInt := by
  rw [own_if_iff]
  have e1 : (x > y) = (y.toInt < x.toInt) := by rw [gt_iff_lt, Int64.lt_iff_toInt_lt]
  have e2 : (x = y) = (x.toInt = y.toInt) := by rw [Int64.toInt_inj]
  simp only [e1, e2]
  by_cases q1 : y.toInt < x.toInt
  · simp only [q1, if_true]
    have e3 : (1 : Int32).toInt = 1 := rfl
    cases cd <;> simp only [own_cI, e3] <;> omega
  · by_cases q2 : x.toInt = y.toInt
    · simp only [q1, q2, if_true, if_false]
      have e3 : (0 : Int32).toInt = 0 := rfl
      cases cd <;> simp [own_cI]
    · simp only [q1, q2, if_false]
      have e3 : (-1 : Int32).toInt = -1 := rfl
      cases cd <;> simp only [own_cI, e3] <;> omega
theorem own_tg_s {o : Int} (hp : own_tg pc o pc' = true) : 0 ≤ (pc : Int) + o ∧ ((pc : Int) + o).toNat = pc' := by
  simpa [own_tg] using hp
theorem own_goto (X : own_X p l e R s m args below meth c Z bytes maxL ret y n0 h T k n) {o : Int} (hd : decode bytes pc = .ok (.goto o, 3)) (hp : own_tg pc o pc' = true) (g : own_G p e below (T.setTop (mkF m pc' ls st)) Q) : own_G p e below (T.setTop (mkF m pc ls st)) Q := by
  obtain ⟨⟨hx, hby, -⟩, -, -, locs, X, -⟩ := X
  subst hby
  exact own_st (fun t q => XS.goto X.here hx rfl rfl hd (own_tg_s hp).1 (own_tg_s hp).2 q) g
theorem own_icmp (X : own_X p l e R s m args below meth c Z bytes maxL ret y n0 h T k n) {cd : ClassFile.Cond} {o : Int} {v w : Int32} (hd : decode bytes pc = .ok (.if_icmp cd o, 3)) (hp : own_tg pc o pc' = true) (gT : own_cI cd v.toInt w.toInt → own_G p e below (T.setTop (mkF m pc' ls st)) Q) (gF : ¬ own_cI cd v.toInt w.toInt → own_G p e below (T.setTop (mkF m (pc + 3) ls st)) Q) :
    own_G p e below (T.setTop (mkF m pc ls (.int w :: .int v :: st))) Q := by
  obtain ⟨⟨hx, hby, -⟩, -, -, locs, X, -⟩ := X
  subst hby
  cases hc : if_icmp.holds cd v w with
  | true => exact own_st (fun t q => XS.icmpYes X.here hx rfl rfl hd rfl hc (own_tg_s hp).1 (own_tg_s hp).2 q) (gT ((own_icmp_iff cd v w).mp hc))
  | false => exact own_st (fun t q => XS.icmpNo X.here hx rfl hd rfl hc q) (gF fun q => by rw [(own_icmp_iff cd v w).mpr q] at hc; cases hc)
theorem own_if (X : own_X p l e R s m args below meth c Z bytes maxL ret y n0 h T k n) {cd : ClassFile.Cond} {o : Int} {v : Int32} (hd : decode bytes pc = .ok (.ifCond cd o, 3)) (hp : own_tg pc o pc' = true) (gT : own_cI cd v.toInt 0 → own_G p e below (T.setTop (mkF m pc' ls st)) Q) (gF : ¬ own_cI cd v.toInt 0 → own_G p e below (T.setTop (mkF m (pc + 3) ls st)) Q) :
    own_G p e below (T.setTop (mkF m pc ls (.int v :: st))) Q := by
  obtain ⟨⟨hx, hby, -⟩, -, -, locs, X, -⟩ := X
  subst hby
  cases hc : ifCond.holds cd v with
  | true => exact own_st (fun t q => XS.ifYes X.here hx rfl rfl hd rfl hc (own_tg_s hp).1 (own_tg_s hp).2 q) (gT ((own_if_iff cd v).mp hc))
  | false => exact own_st (fun t q => XS.ifNo X.here hx rfl hd rfl hc q) (gF fun q => by rw [(own_if_iff cd v).mpr q] at hc; cases hc)
theorem own_lif (X : own_X p l e R s m args below meth c Z bytes maxL ret y n0 h T k n) {cd : ClassFile.Cond} {o : Int} {v w : Int64} (hd1 : decode bytes pc = .ok (.lcmp, 1)) (hd : decode bytes (pc + 1) = .ok (.ifCond cd o, 3)) (hp : own_tg (pc + 1) o pc' = true) (gT : own_cI cd v.toInt w.toInt → own_G p e below (T.setTop (mkF m pc' ls st)) Q) (gF : ¬ own_cI cd v.toInt w.toInt → own_G p e below (T.setTop (mkF m (pc + 4) ls st)) Q) :
    own_G p e below (T.setTop (mkF m pc ls (.long w :: .long v :: st))) Q := by
  obtain ⟨⟨hx, hby, -⟩, -, -, locs, X, -⟩ := X
  subst hby
  refine own_st (fun t q => XS.lcmp X.here hx rfl hd1 rfl q) ?_
  show own_G p e below (T.setTop (mkF m (pc + 1) ls (.int (if v > w then 1 else if v = w then 0 else -1) :: st))) Q
  cases hc : ifCond.holds cd (if v > w then 1 else if v = w then 0 else -1) with
  | true => exact own_st (fun t q => XS.ifYes X.here hx rfl rfl hd rfl hc (own_tg_s hp).1 (own_tg_s hp).2 q) (gT ((own_l_iff cd v w).mp hc))
  | false => exact own_st (fun t q => XS.ifNo X.here hx rfl hd rfl hc q) (gF fun q => by rw [(own_l_iff cd v w).mpr q] at hc; cases hc)
/-! division -/
theorem own_idiv (X : own_X p l e R s m args below meth c Z bytes maxL ret y n0 h T k n) {v w : Int32} (hd : decode bytes pc = .ok (.idiv, 1)) (hw : w ≠ 0) (g : own_G p e below (T.setTop (mkF m (pc + 1) ls (.int (v / w) :: st))) Q) : own_G p e below (T.setTop (mkF m pc ls (.int w :: .int v :: st))) Q := by
  obtain ⟨⟨hx, hby, -⟩, -, -, locs, X, -⟩ := X
  subst hby
  exact own_st (fun t q => XS.idiv X.here hx rfl hd rfl hw q) g
theorem own_iremS (X : own_X p l e R s m args below meth c Z bytes maxL ret y n0 h T k n) {v w : Int32} (hd : decode bytes pc = .ok (.irem, 1)) (hw : w ≠ 0) (g : own_G p e below (T.setTop (mkF m (pc + 1) ls (.int (own_irem v w) :: st))) Q) : own_G p e below (T.setTop (mkF m pc ls (.int w :: .int v :: st))) Q := by
  obtain ⟨⟨hx, hby, -⟩, -, -, locs, X, -⟩ := X
  subst hby
  exact own_st (fun t q => XS.irem X.here hx rfl hd rfl hw q) g
theorem own_ldiv (X : own_X p l e R s m args below meth c Z bytes maxL ret y n0 h T k n) {v w : Int64} (hd : decode bytes pc = .ok (.ldiv, 1)) (hw : w ≠ 0) (g : own_G p e below (T.setTop (mkF m (pc + 1) ls (.long (v / w) :: st))) Q) : own_G p e below (T.setTop (mkF m pc ls (.long w :: .long v :: st))) Q := by
  obtain ⟨⟨hx, hby, -⟩, -, -, locs, X, -⟩ := X
  subst hby
  exact own_st (fun t q => XS.ldiv X.here hx rfl hd rfl hw q) g
theorem own_lremS (X : own_X p l e R s m args below meth c Z bytes maxL ret y n0 h T k n) {v w : Int64} (hd : decode bytes pc = .ok (.lrem, 1)) (hw : w ≠ 0) (g : own_G p e below (T.setTop (mkF m (pc + 1) ls (.long (own_lrem v w) :: st))) Q) : own_G p e below (T.setTop (mkF m pc ls (.long w :: .long v :: st))) Q := by
  obtain ⟨⟨hx, hby, -⟩, -, -, locs, X, -⟩ := X
  subst hby
  exact own_st (fun t q => XS.lrem X.here hx rfl hd rfl hw q) g
/-! constants of the pool -/
theorem own_ldc (X : own_X p l e R s m args below meth c Z bytes maxL ret y n0 h T k n) {i : Nat} {v : Int32} (w : (Jvm.Cond.constant y.cls i v).before a0 Z = true) (hd : decode bytes pc = .ok (.ldc i, 2)) (g : own_G p e below (T.setTop (mkF m (pc + 2) ls (.int v :: st))) Q) : own_G p e below (T.setTop (mkF m pc ls st)) Q := by
  obtain ⟨⟨hx, hby, hml, hown, hnm, hret, hZ, hlk⟩, -, -, locs, X, -⟩ := X
  subst hby
  exact own_st (fun t q => X.ldcInt hx hown (mvT hZ w) (g := mkF m pc ls st) rfl hd t q) g
theorem own_ldc2 (X : own_X p l e R s m args below meth c Z bytes maxL ret y n0 h T k n) {i : Nat} {v : Int64} (w : (Jvm.Cond.constantLong y.cls i v).before a0 Z = true) (hd : decode bytes pc = .ok (.ldc2_w i, 3)) (g : own_G p e below (T.setTop (mkF m (pc + 3) ls (.long v :: st))) Q) : own_G p e below (T.setTop (mkF m pc ls st)) Q := by
  obtain ⟨⟨hx, hby, hml, hown, hnm, hret, hZ, hlk⟩, -, -, locs, X, -⟩ := X
  subst hby
  exact own_st (fun t q => X.ldc2Long hx hown (mvT hZ w) (g := mkF m pc ls st) rfl hd t q) g
/-! returns -/
variable {P : Option Value → Heap → Prop} {C S : Nat}
theorem own_retI (X : own_X p l e R s m args below meth c Z bytes maxL (some .int) y n0 h T k n) (hd : decode bytes pc = .ok (.ireturn, 1)) {v : Int32} (hk : k ≤ C) (hn : n ≤ S) (hP : P (some (.int v)) h) : own_G p e below (T.setTop (mkF m pc ls (.int v :: st))) (own_E s n0 P C S) := by
  obtain ⟨⟨hx, hby, hml, hown, hnm, hret, hZ, hlk⟩, -, eT, locs, X, N⟩ := X
  subst hby
  obtain ⟨fs, hr, hrun, hended, hW, hsame⟩ := X.leave (v := some (.int v)) (fun q => by rw [hret] at q; cases q)
  refine ⟨_, _, ?_, hrun, hended, _, _, rfl, ⟨N, by show P _ T.heap; rw [eT]; exact hP⟩, ⟨_, rfl⟩, hW, hsame.mono hk hn⟩
  have hm' : T.vm.method? m = some meth := X.method'
  have hnn : narrow .int (.int v) = .int v := rfl
  show Steps p.tables e below (T.setTop { method := m, pc := pc, locals := ls, stack := _ :: st, locked := none }) _
  jvm_step X.here [X.here.top, hx, hd, hm', hret, hnn]
  first | (intro acts; rw [hr _ acts rfl rfl rfl]) | rw [hr _ _ rfl rfl rfl]
  exact Steps.refl _
theorem own_retN {t : FieldType} (X : own_X p l e R s m args below meth c Z bytes maxL (some t) y n0 h T k n) (ht : t = .boolean ∨ t = .byte ∨ t = .char ∨ t = .short) (hd : decode bytes pc = .ok (.ireturn, 1)) {v v' : Int32} (hv : nar t v = v') (hk : k ≤ C) (hn : n ≤ S) (hP : P (some (.int v')) h) : own_G p e below (T.setTop (mkF m pc ls (.int v :: st))) (own_E s n0 P C S) := by
  obtain ⟨⟨hx, hby, hml, hown, hnm, hret, hZ, hlk⟩, -, eT, locs, X, N⟩ := X
  subst hby hv
  obtain ⟨fs, hr, hrun, hended, hW, hsame⟩ := X.leave (v := some (.int (nar t v))) (fun q => by rw [hret] at q; cases q)
  exact ⟨_, _, retN X hx hret ht hd hr, hrun, hended, _, _, rfl, ⟨N, by show P _ T.heap; rw [eT]; exact hP⟩, ⟨_, rfl⟩, hW, hsame.mono hk hn⟩
theorem own_retL (X : own_X p l e R s m args below meth c Z bytes maxL (some .long) y n0 h T k n) (hd : decode bytes pc = .ok (.lreturn, 1)) {v : Int64} (hk : k ≤ C) (hn : n ≤ S) (hP : P (some (.long v)) h) : own_G p e below (T.setTop (mkF m pc ls [.long v])) (own_E s n0 P C S) := by
  obtain ⟨⟨hx, hby, hml, hown, hnm, hret, hZ, hlk⟩, -, eT, locs, X, N⟩ := X
  subst hby
  obtain ⟨fs, hr, hrun, hended, hW, hsame⟩ := X.leave (v := some (.long v)) (fun q => by rw [hret] at q; cases q)
  exact ⟨_, _, X.lreturnOut hx hret hd hr, hrun, hended, _, _, rfl, ⟨N, by show P _ T.heap; rw [eT]; exact hP⟩, ⟨_, rfl⟩, hW, hsame.mono hk hn⟩
theorem own_retA {t : FieldType} (X : own_X p l e R s m args below meth c Z bytes maxL (some t) y n0 h T k n) (ht : t.isReference = true) (hd : decode bytes pc = .ok (.areturn, 1)) {v : Addr} (hk : k ≤ C) (hn : n ≤ S) (hP : P (some (.ref v)) h) : own_G p e below (T.setTop (mkF m pc ls [.ref v])) (own_E s n0 P C S) := by
  obtain ⟨⟨hx, hby, hml, hown, hnm, hret, hZ, hlk⟩, -, eT, locs, X, N⟩ := X
  subst hby
  obtain ⟨fs, hr, hrun, hended, hW, hsame⟩ := X.leave (v := some (.ref v)) (fun q => by rw [hret] at q; cases q)
  exact ⟨_, _, X.areturnOut hx rfl hret ht hd hr, hrun, hended, _, _, rfl, ⟨N, by show P _ T.heap; rw [eT]; exact hP⟩, ⟨_, rfl⟩, hW, hsame.mono hk hn⟩
theorem own_retV (X : own_X p l e R s m args below meth c Z bytes maxL none y n0 h T k n) (hd : decode bytes pc = .ok (.return_, 1)) (hk : k ≤ C) (hn : n ≤ S) (hP : P none h) : own_G p e below (T.setTop (mkF m pc ls [])) (own_E s n0 P C S) := by
  obtain ⟨⟨hx, hby, hml, hown, hnm, hret, hZ, hlk⟩, -, eT, locs, X, N⟩ := X
  subst hby
  obtain ⟨fs, hr, hrun, hended, hW, hsame⟩ := X.leave (v := none) (fun _ => rfl)
  exact ⟨_, _, X.returnOut hx hret hd hr, hrun, hended, _, _, rfl, ⟨N, by show P _ T.heap; rw [eT]; exact hP⟩, ⟨_, rfl⟩, hW, hsame.mono hk hn⟩
/-! calls -/
theorem own_callS (X : own_X p l e R s m args below meth c Z bytes maxL ret y n0 h T k n) {i : Nat} {z : MethodName} {zb : ByteArray} {zl : Nat} {zr : Option FieldType} {rm : Room} {as : Array Value} {P : Option Value → Heap → Prop}
    (w1 : (Jvm.Cond.methodLink y.cls i z).before a0 Z = true) (w2 : (Jvm.Cond.static z).before a0 Z = true) (w3 : (Jvm.Cond.initialized z.cls).before a0 Z = true) (w4 : (Jvm.Cond.code z zb zl zr).before a0 Z = true) (hy : z.cls ≠ "java/lang/invoke/MethodHandle" ∧ z.cls ≠ "java/lang/invoke/VarHandle")
    (K : own_C l Z z zb zl zr rm as h n0 P) (hd : decode bytes pc = .ok (.invokestatic i, 3)) (argsL rest : List Value) (hst : st = argsL.reverse ++ rest) (has : argsL.toArray = as) {ps : List FieldType} {pr : Option FieldType} (hsg : parseMethodDescriptor z.desc = some ⟨ps, pr⟩) (hlen : argsL.length = ps.length) (hsz : ls.size = maxL)
    (hf : rm.frames + 1 ≤ R.frames) (hl : (rest.map fun v => v.category).sum + (zl + 11) + rm.locals ≤ R.locals) (hc : k + rm.cells ≤ R.cells) (hs : n + rm.slots ≤ R.slots) (hn : ∀ v h', P v h' → n0 ≤ h'.size)
    (g : ∀ v h' T', own_X p l e R s m args below meth c Z bytes maxL ret y n0 h' T' (k + rm.cells) (n + rm.slots) → P v h' → own_G p e below (T'.setTop (mkF m (pc + 3) ls (v.toList ++ rest))) Q) : own_G p e below (T.setTop (mkF m pc ls st)) Q := by
  obtain ⟨M, hn0, eT, locs, X, N⟩ := X
  have M' := M
  obtain ⟨hx, hby, hml, hown, hnm, hret, hZ, hlk⟩ := M'
  subst hby hst has
  obtain ⟨v, vm₁, B, -, X', ⟨L, hq, l1, l2, l3⟩, stp⟩ := Jvm.LawKit.callS X hx (y := z) hown (mvT hZ w1) (mvT hZ w2) (mvT hZ w3) (mvT hZ w4) hy (backOf (W := (rest.map fun v => v.category).sum) (Q := fun v h' L => Fr n0 L ∧ P v h') (K []) hZ w4 w3 hf hl) (g := mkF m pc ls (argsL.reverse ++ rest)) rfl (hsz.trans hml.symm) (argsL := argsL) (rest := rest)
    (lenOf hsg hlen) rfl (Nat.le_of_eq (Nat.zero_add _)) hd (fun _ _ => ⟨rfl, eT, hc, hs⟩)
  obtain ⟨U, Lc, k', n'⟩ := B
  dsimp only [Pt.U, Pt.locs, Pt.cells, Pt.slots] at X' hq l1 l2 l3 stp
  subst l1 l2 l3
  exact own_st stp (g v U.heap U ⟨M, hn v _ hq.2, rfl, _, X', Fr.app N hq.1⟩ hq.2)
theorem own_callP (X : own_X p l e R s m args below meth c Z bytes maxL ret y n0 h T k n) {i : Nat} {z : MethodName} {zb : ByteArray} {zl : Nat} {zr : Option FieldType} {rm : Room} {as : Array Value} {v : Option Value}
    (w1 : (Jvm.Cond.methodLink y.cls i z).before a0 Z = true) (w2 : (Jvm.Cond.static z).before a0 Z = true) (w3 : (Jvm.Cond.initialized z.cls).before a0 Z = true) (w4 : (Jvm.Cond.code z zb zl zr).before a0 Z = true) (hy : z.cls ≠ "java/lang/invoke/MethodHandle" ∧ z.cls ≠ "java/lang/invoke/VarHandle")
    (K : own_C l Z z zb zl zr rm as h n0 (fun v' h' => v' = v ∧ h' = h)) (hd : decode bytes pc = .ok (.invokestatic i, 3)) (argsL rest : List Value) (hst : st = argsL.reverse ++ rest) (has : argsL.toArray = as) {ps : List FieldType} {pr : Option FieldType} (hsg : parseMethodDescriptor z.desc = some ⟨ps, pr⟩) (hlen : argsL.length = ps.length) (hsz : ls.size = maxL)
    (hf : rm.frames + 1 ≤ R.frames) (hl : (rest.map fun v => v.category).sum + (zl + 11) + rm.locals ≤ R.locals) (hc : k + rm.cells ≤ R.cells) (hs : n + rm.slots ≤ R.slots)
    (g : ∀ T', own_X p l e R s m args below meth c Z bytes maxL ret y n0 h T' (k + rm.cells) (n + rm.slots) → own_G p e below (T'.setTop (mkF m (pc + 3) ls (v.toList ++ rest))) Q) : own_G p e below (T.setTop (mkF m pc ls st)) Q :=
  own_callS X w1 w2 w3 w4 hy K hd argsL rest hst has hsg hlen hsz hf hl hc hs (fun v h' q => by rw [q.2]; exact X.2.1) (fun v' h' T' X' q => by obtain ⟨q1, q2⟩ := q; subst q1; rw [q2] at X'; exact g T' X')
theorem own_callN (X : own_X p l e R s m args below meth c Z bytes maxL ret y n0 h T k n) {i : Nat} {z : MethodName} {zb : ByteArray} {zl : Nat} {rm : Room} {as : Array Value} {P : Option Value → Heap → Prop} (hz : z.name = "<init>")
    (w1 : (Jvm.Cond.methodLink y.cls i z).before a0 Z = true) (w2 : (Jvm.Cond.instanceMethod z).before a0 Z = true) (w3 : (Jvm.Cond.initialized z.cls).before a0 Z = true) (w4 : (Jvm.Cond.code z zb zl none).before a0 Z = true) (hy : z.cls ≠ "java/lang/invoke/MethodHandle" ∧ z.cls ≠ "java/lang/invoke/VarHandle")
    (K : own_C l Z z zb zl none rm as h n0 P) (hd : decode bytes pc = .ok (.invokespecial i, 3)) {a : Addr} (argsL rest : List Value) (hst : st = argsL.reverse ++ .ref a :: rest) (has : (.ref a :: argsL).toArray = as) {ps : List FieldType} {pr : Option FieldType} (hsg : parseMethodDescriptor z.desc = some ⟨ps, pr⟩) (hlen : argsL.length = ps.length) (hsz : ls.size = maxL)
    (hf : rm.frames + 1 ≤ R.frames) (hl : (rest.map fun v => v.category).sum + (zl + 11) + rm.locals ≤ R.locals) (hc : k + rm.cells ≤ R.cells) (hs : n + rm.slots ≤ R.slots) (hn : ∀ v h', P v h' → n0 ≤ h'.size)
    (g : ∀ v h' T', own_X p l e R s m args below meth c Z bytes maxL ret y n0 h' T' (k + rm.cells) (n + rm.slots) → P v h' → own_G p e below (T'.setTop (mkF m (pc + 3) ls (v.toList ++ rest))) Q) : own_G p e below (T.setTop (mkF m pc ls st)) Q := by
  obtain ⟨M, hn0, eT, locs, X, N⟩ := X
  have M' := M
  obtain ⟨hx, hby, hml, hown, hnm, hret, hZ, hlk⟩ := M'
  subst hby hst has
  obtain ⟨v, vm₁, B, -, X', ⟨L, hq, l1, l2, l3⟩, stp⟩ := X.specialBack hx (y := z) hz hown (mvT hZ w1) (mvT hZ w2) (mvT hZ w4) hy (backOf (W := (rest.map fun v => v.category).sum) (Q := fun v h' L => Fr n0 L ∧ P v h') (K []) hZ w4 w3 hf hl) (g := mkF m pc ls (argsL.reverse ++ .ref a :: rest)) rfl (hsz.trans hml.symm) (Steps.refl _) (a := a) (argsL := argsL) (rest := rest)
    (lenOf hsg hlen) rfl (Nat.le_of_eq (Nat.zero_add _)) hd (fun _ _ => ⟨rfl, eT, hc, hs⟩)
  obtain ⟨U, Lc, k', n'⟩ := B
  dsimp only [Pt.U, Pt.locs, Pt.cells, Pt.slots] at X' hq l1 l2 l3 stp
  subst l1 l2 l3
  exact own_st (fun t q => stp.trans q) (g v U.heap U ⟨M, hn v _ hq.2, rfl, _, X', Fr.app N hq.1⟩ hq.2)
theorem own_callV (X : own_X p l e R s m args below meth c Z bytes maxL ret y n0 h T k n) {i : Nat} {z : MethodName} {zb : ByteArray} {zl : Nat} {zr : Option FieldType} {rm : Room} {as : Array Value} {P : Option Value → Heap → Prop}
    (w1 : (Jvm.Cond.methodLink y.cls i z).before a0 Z = true) (w2 : (Jvm.Cond.declares z).before a0 Z = true) (w5 : (Jvm.Cond.selects z.cls z z).before a0 Z = true) (w6 : (Jvm.Cond.instanceMethod z).before a0 Z = true) (w3 : (Jvm.Cond.initialized z.cls).before a0 Z = true) (w4 : (Jvm.Cond.code z zb zl zr).before a0 Z = true) (hy : z.cls ≠ "java/lang/invoke/MethodHandle" ∧ z.cls ≠ "java/lang/invoke/VarHandle")
    {a : Addr} (E : Exa Z h a z.cls) (K : own_C l Z z zb zl zr rm as h n0 P) (hd : decode bytes pc = .ok (.invokevirtual i, 3)) (argsL rest : List Value) (hst : st = argsL.reverse ++ .ref a :: rest) (has : (.ref a :: argsL).toArray = as) {ps : List FieldType} {pr : Option FieldType} (hsg : parseMethodDescriptor z.desc = some ⟨ps, pr⟩) (hlen : argsL.length = ps.length) (hsz : ls.size = maxL)
    (hf : rm.frames + 1 ≤ R.frames) (hl : (rest.map fun v => v.category).sum + (zl + 11) + rm.locals ≤ R.locals) (hc : k + rm.cells ≤ R.cells) (hs : n + rm.slots ≤ R.slots) (hn : ∀ v h', P v h' → n0 ≤ h'.size)
    (g : ∀ v h' T', own_X p l e R s m args below meth c Z bytes maxL ret y n0 h' T' (k + rm.cells) (n + rm.slots) → P v h' → own_G p e below (T'.setTop (mkF m (pc + 3) ls (v.toList ++ rest))) Q) : own_G p e below (T.setTop (mkF m pc ls st)) Q := by
  obtain ⟨M, hn0, eT, locs, X, N⟩ := X
  have M' := M
  obtain ⟨hx, hby, hml, hown, hnm, hret, hZ, hlk⟩ := M'
  subst hby hst has
  obtain ⟨cq, kq, qa, qb, qc⟩ := isOf hZ eT E
  obtain ⟨v, vm₁, B, -, X', ⟨L, hq, l1, l2, l3⟩, stp⟩ := X.virtualBack hx (y := z) (z := z) hown (mvT hZ w1) (mvT hZ w2) (notFace_of_selects (args := #[]) (mvT hZ w5)) (mvT hZ w5) (mvT hZ w6) hy (backOf (W := (rest.map fun v => v.category).sum) (Q := fun v h' L => Fr n0 L ∧ P v h') (K []) hZ w4 w3 hf hl) qa qc (g := mkF m pc ls (argsL.reverse ++ .ref a :: rest)) rfl (hsz.trans hml.symm) (Steps.refl _) (argsL := argsL) (rest := rest)
    (lenOf hsg hlen) rfl (Nat.le_of_eq (Nat.zero_add _)) hd (fun _ _ => ⟨rfl, eT, hc, hs⟩)
  obtain ⟨U, Lc, k', n'⟩ := B
  dsimp only [Pt.U, Pt.locs, Pt.cells, Pt.slots] at X' hq l1 l2 l3 stp
  subst l1 l2 l3
  exact own_st (fun t q => stp.trans q) (g v U.heap U ⟨M, hn v _ hq.2, rfl, _, X', Fr.app N hq.1⟩ hq.2)
/-! fields -/
theorem own_getF (X : own_X p l e R s m args below meth c Z bytes maxL ret y n0 h T k n) {i : Nat} {O f d : String} (w : (Jvm.Cond.fieldLink y.cls i O f d).before a0 Z = true) {a : Addr} {v : Value} (F : Fld Z h a O f d v) (hd : decode bytes pc = .ok (.getfield i, 3))
    (g : ∀ T', own_X p l e R s m args below meth c Z bytes maxL ret y n0 h T' k n → own_G p e below (T'.setTop (mkF m (pc + 3) ls (v :: st))) Q) : own_G p e below (T.setTop (mkF m pc ls (.ref a :: st))) Q := by
  obtain ⟨M, hn0, eT, locs, X, N⟩ := X
  have M' := M
  obtain ⟨hx, hby, hml, hown, hnm, hret, hZ, hlk⟩ := M'
  subst hby
  obtain ⟨T', X', e', stp⟩ := getF X hx hZ hown (host := "") (Or.inl w) Via.refl eT F (g := mkF m pc ls (.ref a :: st)) rfl rfl hd
  exact own_st stp (g T' ⟨M, hn0, e', _, X', N⟩)
theorem own_putF (X : own_X p l e R s m args below meth c Z bytes maxL ret y n0 h T k n) {i kk : Nat} {O f d K : String} {ty : FieldType} (w : (Jvm.Cond.fieldLink y.cls i O f d).before a0 Z = true) {a : Addr} {v old : Value} (F : Fld Z h a O f d old) (E : Exa Z h a K) (L : (Jvm.Cond.lays K O f d).before a0 Z = true ∨ ((Jvm.Cond.laysFinal K O f d).before a0 Z = true ∧ y.cls = O ∧ y.name = "<init>")) (wi : (Jvm.Cond.instantiable K kk).before a0 Z = true)
    (hty : parseFieldDescriptor d = some ty) (hn : narrow ty v = v) (hf : fits ty v = true) (ha : n0 ≤ a) (hd : decode bytes pc = .ok (.putfield i, 3))
    (g : ∀ h' T', own_X p l e R s m args below meth c Z bytes maxL ret y n0 h' T' k n → Wr h h' a (Jvm.RoadKit.slotOf Z O f d) v → own_G p e below (T'.setTop (mkF m (pc + 3) ls st)) Q) : own_G p e below (T.setTop (mkF m pc ls (v :: .ref a :: st))) Q := by
  obtain ⟨M, hn0, eT, locs, X, N⟩ := X
  have M' := M
  obtain ⟨hx, hby, hml, hown, hnm, hret, hZ, hlk⟩ := M'
  subst hby
  obtain ⟨T', h', X', e', W', stp⟩ := putF X hx hZ hown (host := "") (Or.inl w) Via.refl eT F E (L.imp id fun q => ⟨q.1, q.2.1, hnm.trans q.2.2⟩) wi hty hn hf (g := mkF m pc ls (v :: .ref a :: st)) rfl rfl hd
  exact own_st stp (g h' T' ⟨M, by rw [W'.size]; exact hn0, e', _, X', Fr.snoc X' N ha⟩ W')
/-! new -/
theorem own_newO (X : own_X p l e R s m args below meth c Z bytes maxL ret y n0 h T k n) {i nn : Nat} {K : String} (w : (Jvm.Cond.classLink y.cls i K).before a0 Z = true) (wi : (Jvm.Cond.instantiable K nn).before a0 Z = true) (wz : (Jvm.Cond.initialized K).before a0 Z = true) (hd : decode bytes pc = .ok (.new i, 3)) (hc : k + 1 ≤ R.cells) (hs : n + nn ≤ R.slots)
    (g : ∀ h' T', own_X p l e R s m args below meth c Z bytes maxL ret y n0 h' T' (k + 1) (n + nn) → Ext h h' → Exa Z h' h.size K → (∀ {O nm d : String} {ty : FieldType}, Laid Z a0 K O nm d → parseFieldDescriptor d = some ty → Fld Z h' h.size O nm d (defaultValue ty)) → own_G p e below (T'.setTop (mkF m (pc + 3) ls (.ref h.size :: st))) Q) : own_G p e below (T.setTop (mkF m pc ls st)) Q := by
  obtain ⟨M, hn0, eT, locs, X, N⟩ := X
  have M' := M
  obtain ⟨hx, hby, hml, hown, hnm, hret, hZ, hlk⟩ := M'
  subst hby
  obtain ⟨T', h', X', e', E', A', D', -, stp⟩ := newO X hx hZ hown w wi wz eT (g := mkF m pc ls st) rfl hd hc hs
  exact own_st stp (g h' T' ⟨M, Nat.le_trans hn0 E'.1, e', _, X', N⟩ E' A' D')
end Walk
/-! ### own layer 3: arrays: the array at a has n places, place j holds f j -/
def own_A (Z : State) (h : Heap) (a : Addr) (ty : FieldType) (n : Nat) (f : Int → Value) : Prop := n < 2147483648 ∧ ∃ c : Cell, Arr Z h a c ty ∧ c.slots.size = n ∧ ∀ j : Nat, j < n → c.slots[j]? = some (f (j : Int))
def own_u {α : Type} (f : Int → α) (i : Int) (x : α) : Int → α := fun j => if j = i then x else f j
section Arrs
variable {Z : State} {h h' : Heap} {a b : Addr} {ty : FieldType} {n : Nat} {f : Int → Value}
theorem own_A_lt (A : own_A Z h a ty n f) : a < h.size := by obtain ⟨-, c, A, -⟩ := A; exact A.lt
theorem own_A_ext (A : own_A Z h a ty n f) (E : Ext h h') : own_A Z h' a ty n f := by obtain ⟨q, c, A, r⟩ := A; exact ⟨q, c, A.ext E, r⟩
theorem own_A_other (A : own_A Z h b ty n f) {sl : Nat} {v : Value} (W : Wr h h' a sl v) (q : b ≠ a) : own_A Z h' b ty n f := by obtain ⟨q1, c, A, r⟩ := A; exact ⟨q1, c, A.other W q, r⟩
theorem own_A_keep (A : own_A Z h a ty n f) {ws : List Addr} (K : Keep h h' ws) (q : a ∉ ws) : own_A Z h' a ty n f := by obtain ⟨q1, c, A, r⟩ := A; exact ⟨q1, c, ⟨K.2.1 a c A.1 q, A.2⟩, r⟩
theorem own_A_new {k : ClassId} {z : Int32} (A : Arr Z h a (newA k ty z) ty) (q : 0 ≤ z.toInt) : own_A Z h a ty z.toInt.toNat (fun _ => defaultValue ty) := by
  have := Int32.toInt_lt z
  refine ⟨by omega, _, A, by rw [sz_new]; rfl, fun j hj => ?_⟩
  have hj' : j < z.toNatClampNeg := hj
  simp [newA, hj']
theorem own_A_set {sl : Nat} {v : Value} (A : own_A Z h a ty n f) (W : Wr h h' a sl v) (i : Int) (hi : i = (sl : Int)) : own_A Z h' a ty n (own_u f i v) := by
  obtain ⟨q, c, A, S, H⟩ := A
  have W0 := W
  obtain ⟨c2, g1, -, g3, -⟩ := W0
  cases g1.symm.trans A.1
  refine ⟨q, _, A.same W, by rw [sz_set]; exact S, fun j hj => ?_⟩
  subst hi
  by_cases u : j = sl
  · subst u; simp [Cell.setSlot, own_u, g3]
  · have e1 : ¬ ((j : Int) = (sl : Int)) := by omega
    simp only [own_u, e1, if_false, Cell.setSlot]
    rw [Array.getElem?_setIfInBounds_ne (fun q => u q.symm)]
    exact H j hj
theorem own_A_eq {g : Int → Value} (A : own_A Z h a ty n f) (q : ∀ j : Int, 0 ≤ j → j < n → g j = f j) : own_A Z h a ty n g := by
  obtain ⟨q1, c, A, S, H⟩ := A
  exact ⟨q1, c, A, S, fun j hj => by rw [H j hj, q j (by omega) (by omega)]⟩
theorem own_tnc (j : Int32) : j.toNatClampNeg = j.toInt.toNat := rfl
theorem own_z32 : (0 : Int32).toInt = 0 := rfl
theorem own_idx {j : Int32} (h0 : 0 ≤ j.toInt) : ¬ j < 0 := by rw [Int32.lt_iff_toInt_lt, own_z32]; omega
theorem own_inb {j : Int32} {cl : Cell} (S : cl.slots.size = n) (h0 : 0 ≤ j.toInt) (h1 : j.toInt < n) : ¬ (j < 0 ∨ cl.slots.size ≤ j.toNatClampNeg) := by
  rw [Int32.lt_iff_toInt_lt, S, own_z32, own_tnc]; omega
theorem own_nat {j : Int32} (h0 : 0 ≤ j.toInt) : j.toInt = (j.toNatClampNeg : Int) := by rw [own_tnc]; omega
end Arrs
/-- the same, of ints -/
def own_I (Z : State) (h : Heap) (a : Addr) (ty : FieldType) (n : Nat) (g : Int → Int32) : Prop := own_A Z h a ty n (fun j => .int (g j))
theorem own_I_ext {Z : State} {h h' : Heap} {a : Addr} {ty : FieldType} {n : Nat} {g : Int → Int32} (A : own_I Z h a ty n g) (E : Ext h h') : own_I Z h' a ty n g := own_A_ext A E
theorem own_I_other {Z : State} {h h' : Heap} {a b : Addr} {ty : FieldType} {n : Nat} {g : Int → Int32} (A : own_I Z h b ty n g) {sl : Nat} {v : Value} (W : Wr h h' a sl v) (q : b ≠ a) : own_I Z h' b ty n g := own_A_other A W q
theorem own_I_keep {Z : State} {h h' : Heap} {a : Addr} {ty : FieldType} {n : Nat} {g : Int → Int32} (A : own_I Z h a ty n g) {ws : List Addr} (K : Keep h h' ws) (q : a ∉ ws) : own_I Z h' a ty n g := own_A_keep A K q
theorem own_I_eq {Z : State} {h : Heap} {a : Addr} {ty : FieldType} {n : Nat} {f g : Int → Int32} (A : own_I Z h a ty n f) (q : ∀ j : Int, 0 ≤ j → j < n → g j = f j) : own_I Z h a ty n g := own_A_eq A (fun j h0 h1 => by rw [q j h0 h1])
theorem own_I_set {Z : State} {h h' : Heap} {a : Addr} {ty : FieldType} {n : Nat} {g : Int → Int32} {sl : Nat} {x : Int32} (A : own_I Z h a ty n g) (W : Wr h h' a sl (.int x)) (i : Int) (hi : i = (sl : Int)) : own_I Z h' a ty n (own_u g i x) :=
  own_A_eq (own_A_set A W i hi) (fun j _ _ => by simp only [own_u]; split <;> rfl)
theorem own_u_ne {α : Type} {g : Int → α} {i j : Int} {x : α} (h : j ≠ i) : own_u g i x j = g j := if_neg h
theorem own_u_eq {α : Type} {g : Int → α} {i j : Int} {x : α} (h : j = i) : own_u g i x j = x := if_pos h
section Arrs2
variable {p : Program} {l : Launch} {e : Env} {R : Room} {s : State} {m : MethodId} {args : Array Value} {below : List Frame} {meth : Method} {c : Code} {Z : State} {bytes : ByteArray} {maxL : Nat} {ret : Option FieldType} {y : MethodName} {n0 : Nat} {h : Heap} {T : State} {k n : Nat} {Q : Outcome → State → Prop} {pc pc' : Nat} {ls ls' : Array Slot} {st st' : List Value} {a0 : Array Value} {a : Addr} {nn : Nat} {f : Int → Value} {gg : Int → Int32}
theorem own_len (X : own_X p l e R s m args below meth c Z bytes maxL ret y n0 h T k n) {ty : FieldType} (A : own_A Z h a ty nn f) (hd : decode bytes pc = .ok (.arraylength, 1)) (g : own_G p e below (T.setTop (mkF m (pc + 1) ls (.int (Int32.ofNat nn) :: st))) Q) : own_G p e below (T.setTop (mkF m pc ls (.ref a :: st))) Q := by
  obtain ⟨⟨hx, hby, hml, hown, hnm, hret, hZ, hlk⟩, hn0, eT, locs, X, N⟩ := X
  obtain ⟨q, cl, A, S, H⟩ := A
  subst hby
  refine own_st (fun t q => X.arraylength hx (by rw [eT]; exact A.1) (State.isArrayOf_alike hZ.alike A.2.1) (g := mkF m pc ls (.ref a :: st)) rfl rfl hd t q) ?_
  show own_G p e below (T.setTop (mkF m (pc + 1) ls (.int cl.slots.size.toInt32 :: st))) Q
  rw [S]
  exact g
theorem own_iald (X : own_X p l e R s m args below meth c Z bytes maxL ret y n0 h T k n) (A : own_I Z h a .int nn gg) (hd : decode bytes pc = .ok (.iaload, 1)) {j : Int32} (h0 : 0 ≤ j.toInt) (h1 : j.toInt < nn) (g : own_G p e below (T.setTop (mkF m (pc + 1) ls (.int (gg j.toInt) :: st))) Q) : own_G p e below (T.setTop (mkF m pc ls (.int j :: .ref a :: st))) Q := by
  obtain ⟨⟨hx, hby, hml, hown, hnm, hret, hZ, hlk⟩, hn0, eT, locs, X, N⟩ := X
  obtain ⟨q, cl, A, S, H⟩ := A
  subst hby
  have e1 := own_nat h0
  refine own_st (fun t q => X.iaload hx (by rw [eT]; exact A.1) (State.isArrayOf_alike hZ.alike A.2.1) A.2.2 (own_inb S h0 h1) (H _ (by omega)) (g := mkF m pc ls (.int j :: .ref a :: st)) rfl rfl hd t q) ?_
  show own_G p e below (T.setTop (mkF m (pc + 1) ls (.int (gg (j.toNatClampNeg : Int)) :: st))) Q
  rw [← e1]
  exact g
theorem own_bald (X : own_X p l e R s m args below meth c Z bytes maxL ret y n0 h T k n) (A : own_I Z h a .byte nn gg) (hd : decode bytes pc = .ok (.baload, 1)) {j : Int32} (h0 : 0 ≤ j.toInt) (h1 : j.toInt < nn) (g : own_G p e below (T.setTop (mkF m (pc + 1) ls (.int (gg j.toInt) :: st))) Q) : own_G p e below (T.setTop (mkF m pc ls (.int j :: .ref a :: st))) Q := by
  obtain ⟨⟨hx, hby, hml, hown, hnm, hret, hZ, hlk⟩, hn0, eT, locs, X, N⟩ := X
  obtain ⟨q, cl, A, S, H⟩ := A
  subst hby
  have e1 := own_nat h0
  refine own_st (fun t q => X.baloadBytes hx (by rw [eT]; exact A.1) (State.isArrayOf_alike hZ.alike A.2.1) A.2.2 (own_inb S h0 h1) (H _ (by omega)) (g := mkF m pc ls (.int j :: .ref a :: st)) rfl rfl hd t q) ?_
  show own_G p e below (T.setTop (mkF m (pc + 1) ls (.int (gg (j.toNatClampNeg : Int)) :: st))) Q
  rw [← e1]
  exact g
theorem own_zald (X : own_X p l e R s m args below meth c Z bytes maxL ret y n0 h T k n) (A : own_I Z h a .boolean nn gg) (hd : decode bytes pc = .ok (.baload, 1)) {j : Int32} (h0 : 0 ≤ j.toInt) (h1 : j.toInt < nn) (g : own_G p e below (T.setTop (mkF m (pc + 1) ls (.int (gg j.toInt) :: st))) Q) : own_G p e below (T.setTop (mkF m pc ls (.int j :: .ref a :: st))) Q := by
  obtain ⟨⟨hx, hby, hml, hown, hnm, hret, hZ, hlk⟩, hn0, eT, locs, X, N⟩ := X
  obtain ⟨q, cl, A, S, H⟩ := A
  subst hby
  have e1 := own_nat h0
  refine own_st (fun t q => X.baloadBooleans hx (by rw [eT]; exact A.1) (State.isArrayOf_alike hZ.alike A.2.1) A.2.2 (own_inb S h0 h1) (H _ (by omega)) (g := mkF m pc ls (.int j :: .ref a :: st)) rfl rfl hd t q) ?_
  show own_G p e below (T.setTop (mkF m (pc + 1) ls (.int (gg (j.toNatClampNeg : Int)) :: st))) Q
  rw [← e1]
  exact g
theorem own_iast (X : own_X p l e R s m args below meth c Z bytes maxL ret y n0 h T k n) (A : own_I Z h a .int nn gg) (ha : n0 ≤ a) (hd : decode bytes pc = .ok (.iastore, 1)) {j x : Int32} (h0 : 0 ≤ j.toInt) (h1 : j.toInt < nn)
    (g : ∀ h' T', own_X p l e R s m args below meth c Z bytes maxL ret y n0 h' T' k n → own_I Z h' a .int nn (own_u gg j.toInt x) → Wr h h' a j.toNatClampNeg (.int x) → own_G p e below (T'.setTop (mkF m (pc + 1) ls st)) Q) : own_G p e below (T.setTop (mkF m pc ls (.int x :: .int j :: .ref a :: st))) Q := by
  obtain ⟨M, hn0, eT, locs, X, N⟩ := X
  have M' := M
  obtain ⟨hx, hby, hml, hown, hnm, hret, hZ, hlk⟩ := M'
  have AA := A
  obtain ⟨q, cl, A, S, H⟩ := A
  subst hby
  obtain ⟨T', h', X', e', W', stp⟩ := stI X hx hZ eT A (own_inb S h0 h1) (g := mkF m pc ls (.int x :: .int j :: .ref a :: st)) rfl rfl hd
  exact own_st stp (g h' T' ⟨M, by rw [W'.size]; exact hn0, e', _, X', Fr.snoc X' N ha⟩ (own_I_set AA W' _ (own_nat h0)) W')
theorem own_bast (X : own_X p l e R s m args below meth c Z bytes maxL ret y n0 h T k n) (A : own_I Z h a .byte nn gg) (ha : n0 ≤ a) (hd : decode bytes pc = .ok (.bastore, 1)) {j x : Int32} (h0 : 0 ≤ j.toInt) (h1 : j.toInt < nn) (hx8 : x.toInt8.toInt32 = x)
    (g : ∀ h' T', own_X p l e R s m args below meth c Z bytes maxL ret y n0 h' T' k n → own_I Z h' a .byte nn (own_u gg j.toInt x) → Wr h h' a j.toNatClampNeg (.int x) → own_G p e below (T'.setTop (mkF m (pc + 1) ls st)) Q) : own_G p e below (T.setTop (mkF m pc ls (.int x :: .int j :: .ref a :: st))) Q := by
  obtain ⟨M, hn0, eT, locs, X, N⟩ := X
  have M' := M
  obtain ⟨hx, hby, hml, hown, hnm, hret, hZ, hlk⟩ := M'
  have AA := A
  obtain ⟨q, cl, A, S, H⟩ := A
  subst hby
  obtain ⟨T', h', X', e', W', stp⟩ := stB X hx hZ eT A (own_inb S h0 h1) (g := mkF m pc ls (.int x :: .int j :: .ref a :: st)) rfl rfl hd
  have W2 : Wr h h' a j.toNatClampNeg (.int x) := by have q := W'; simp only [nar, hx8] at q; exact q
  exact own_st stp (g h' T' ⟨M, by rw [W'.size]; exact hn0, e', _, X', Fr.snoc X' N ha⟩ (own_I_set AA W2 _ (own_nat h0)) W2)
theorem own_zast (X : own_X p l e R s m args below meth c Z bytes maxL ret y n0 h T k n) (A : own_I Z h a .boolean nn gg) (ha : n0 ≤ a) (hd : decode bytes pc = .ok (.bastore, 1)) {j x : Int32} (h0 : 0 ≤ j.toInt) (h1 : j.toInt < nn) (hx1 : x &&& 1 = x)
    (g : ∀ h' T', own_X p l e R s m args below meth c Z bytes maxL ret y n0 h' T' k n → own_I Z h' a .boolean nn (own_u gg j.toInt x) → Wr h h' a j.toNatClampNeg (.int x) → own_G p e below (T'.setTop (mkF m (pc + 1) ls st)) Q) : own_G p e below (T.setTop (mkF m pc ls (.int x :: .int j :: .ref a :: st))) Q := by
  obtain ⟨M, hn0, eT, locs, X, N⟩ := X
  have M' := M
  obtain ⟨hx, hby, hml, hown, hnm, hret, hZ, hlk⟩ := M'
  have AA := A
  obtain ⟨q, cl, A, S, H⟩ := A
  subst hby
  obtain ⟨T', h', X', e', W', stp⟩ := stZ X hx hZ eT A (own_inb S h0 h1) (g := mkF m pc ls (.int x :: .int j :: .ref a :: st)) rfl rfl hd
  have W2 : Wr h h' a j.toNatClampNeg (.int x) := by have q := W'; simp only [nar, hx1] at q; exact q
  exact own_st stp (g h' T' ⟨M, by rw [W'.size]; exact hn0, e', _, X', Fr.snoc X' N ha⟩ (own_I_set AA W2 _ (own_nat h0)) W2)
theorem own_jast (X : own_X p l e R s m args below meth c Z bytes maxL ret y n0 h T k n) (A : own_A Z h a .long nn f) (ha : n0 ≤ a) (hd : decode bytes pc = .ok (.lastore, 1)) {j : Int32} {x : Int64} (h0 : 0 ≤ j.toInt) (h1 : j.toInt < nn)
    (g : ∀ h' T', own_X p l e R s m args below meth c Z bytes maxL ret y n0 h' T' k n → own_A Z h' a .long nn (own_u f j.toInt (.long x)) → Wr h h' a j.toNatClampNeg (.long x) → own_G p e below (T'.setTop (mkF m (pc + 1) ls st)) Q) : own_G p e below (T.setTop (mkF m pc ls (.long x :: .int j :: .ref a :: st))) Q := by
  obtain ⟨M, hn0, eT, locs, X, N⟩ := X
  have M' := M
  obtain ⟨hx, hby, hml, hown, hnm, hret, hZ, hlk⟩ := M'
  have AA := A
  obtain ⟨q, cl, A, S, H⟩ := A
  subst hby
  obtain ⟨T', h', X', e', W', stp⟩ := stJ X hx hZ eT A (own_inb S h0 h1) (g := mkF m pc ls (.long x :: .int j :: .ref a :: st)) rfl rfl hd
  exact own_st stp (g h' T' ⟨M, by rw [W'.size]; exact hn0, e', _, X', Fr.snoc X' N ha⟩ (own_A_set AA W' _ (own_nat h0)) W')
theorem own_newP (X : own_X p l e R s m args below meth c Z bytes maxL ret y n0 h T k n) {aty : ArrayType} (w : (Jvm.Cond.arrayClass (newarray.typeOf aty)).before a0 Z = true) (hd : decode bytes pc = .ok (.newarray aty, 2)) {v : Int32} (h0 : 0 ≤ v.toInt) (cap : Nat) (hcap : v.toInt ≤ cap) (hb : cap * 8 ≤ 536870912) (hc : k + 1 ≤ R.cells) (hs : n + cap ≤ R.slots)
    (g : ∀ h' T', own_X p l e R s m args below meth c Z bytes maxL ret y n0 h' T' (k + 1) (n + cap) → Ext h h' → own_A Z h' h.size (newarray.typeOf aty) v.toInt.toNat (fun _ => defaultValue (newarray.typeOf aty)) → own_G p e below (T'.setTop (mkF m (pc + 2) ls (.ref h.size :: st))) Q) : own_G p e below (T.setTop (mkF m pc ls (.int v :: st))) Q := by
  obtain ⟨M, hn0, eT, locs, X, N⟩ := X
  have M' := M
  obtain ⟨hx, hby, hml, hown, hnm, hret, hZ, hlk⟩ := M'
  subst hby
  have e1 := own_nat h0
  obtain ⟨T', h', cA, X', e', E', A', stp⟩ := newP X hx hZ w eT (g := mkF m pc ls (.int v :: st)) rfl hd rfl (own_idx h0) (cap := cap) (by omega) hb hc hs
  exact own_st stp (g h' T' ⟨M, Nat.le_trans hn0 E'.1, e', _, X', N⟩ E' (own_A_new A' h0))
theorem own_newI (X : own_X p l e R s m args below meth c Z bytes maxL ret y n0 h T k n) {aty : ArrayType} (w : (Jvm.Cond.arrayClass (newarray.typeOf aty)).before a0 Z = true) (hdf : defaultValue (newarray.typeOf aty) = .int 0) (hd : decode bytes pc = .ok (.newarray aty, 2)) {v : Int32} (h0 : 0 ≤ v.toInt) (cap : Nat) (hcap : v.toInt ≤ cap) (hb : cap * 8 ≤ 536870912) (hc : k + 1 ≤ R.cells) (hs : n + cap ≤ R.slots)
    (g : ∀ h' T', own_X p l e R s m args below meth c Z bytes maxL ret y n0 h' T' (k + 1) (n + cap) → Ext h h' → own_I Z h' h.size (newarray.typeOf aty) v.toInt.toNat (fun _ => 0) → own_G p e below (T'.setTop (mkF m (pc + 2) ls (.ref h.size :: st))) Q) : own_G p e below (T.setTop (mkF m pc ls (.int v :: st))) Q :=
  own_newP X w hd h0 cap hcap hb hc hs (fun h' T' X' E A => g h' T' X' E (own_A_eq A fun _ _ _ => hdf.symm))
end Arrs2
section Obj
variable {p : Program} {l : Launch} {e : Env} {R : Room} {s : State} {m : MethodId} {args : Array Value} {below : List Frame} {meth : Method} {c : Code} {Z : State} {bytes : ByteArray} {maxL : Nat} {ret : Option FieldType} {y : MethodName} {n0 : Nat} {h : Heap} {T : State} {k n : Nat} {Q : Outcome → State → Prop} {pc pc' : Nat} {ls ls' : Array Slot} {st st' : List Value} {a0 : Array Value}
/-- the constructor of Object -/
theorem own_init (X : own_X p l e R s m args below meth c Z bytes maxL ret y n0 h T k n) {i : Nat} (w1 : (Jvm.Cond.methodLink y.cls i Lib.objectInit).before a0 Z = true) (w2 : (Jvm.Cond.instanceMethod Lib.objectInit).before a0 Z = true) (w3 : (Jvm.Cond.code Lib.objectInit object_method_1_code 1 none).before a0 Z = true) (hd : decode bytes pc = .ok (.invokespecial i, 3)) {a : Addr} (hsz : ls.size = maxL) (hf : 1 ≤ R.frames) (hl : (st.map fun v => v.category).sum + 12 ≤ R.locals)
    (g : ∀ T', own_X p l e R s m args below meth c Z bytes maxL ret y n0 h T' k n → own_G p e below (T'.setTop (mkF m (pc + 3) ls st)) Q) : own_G p e below (T.setTop (mkF m pc ls (.ref a :: st))) Q := by
  obtain ⟨M, hn0, eT, locs, X, N⟩ := X
  have M' := M
  obtain ⟨hx, hby, hml, hown, hnm, hret, hZ, hlk⟩ := M'
  subst hby
  obtain ⟨T', X', e', stp⟩ := initO X hx hZ hown w1 w2 w3 eT (g := mkF m pc ls (.ref a :: st)) rfl (hsz.trans hml.symm) rfl hd hf (Nat.le_of_eq (Nat.zero_add _)) hl
  exact own_st stp (g T' ⟨M, hn0, e', _, X', N⟩)
end Obj
/-! ### own numbers -/
theorem own_addc {x k : Int32} {d : Int} (hk : k.toInt = d) (h1 : -2147483648 ≤ x.toInt + d) (h2 : x.toInt + d < 2147483648) : (x + k).toInt = x.toInt + d := by
  subst hk; exact Jvm.Kit.i32_add (by omega) (by omega)
theorem own_subc {x k : Int32} {d : Int} (hk : k.toInt = d) (h1 : -2147483648 ≤ x.toInt - d) (h2 : x.toInt - d < 2147483648) : (x - k).toInt = x.toInt - d := by
  subst hk; exact Jvm.Kit.i32_sub (by omega) (by omega)
theorem own_mulc {x k : Int32} {d : Int} (hk : k.toInt = d) (h1 : -2147483648 ≤ x.toInt * d) (h2 : x.toInt * d < 2147483648) : (x * k).toInt = x.toInt * d := by
  subst hk; exact Jvm.Kit.i32_mul (by omega) (by omega)
theorem own_i2b_int (x : Int32) : (own_i2b x).toInt = x.toInt.bmod 256 := by
  simp [own_i2b, Int8.toInt_toInt32, Int32.toInt_toInt8]
theorem own_i2b_b (x : Int32) : -128 ≤ (own_i2b x).toInt ∧ (own_i2b x).toInt < 128 ∧ (own_i2b x).toInt % 256 = x.toInt % 256 := by
  rw [own_i2b_int]
  have h1 := Int.bmod_emod (x := x.toInt) (m := 256)
  have h2 := Int.le_bmod (x := x.toInt) (m := 256) (by decide)
  have h3 := Int.bmod_lt (x := x.toInt) (m := 256) (by decide)
  omega
theorem own_i2b_fix (x : Int32) : (own_i2b x).toInt8.toInt32 = own_i2b x := by
  simp [own_i2b]
theorem own_i2b_id {x : Int32} (h1 : -128 ≤ x.toInt) (h2 : x.toInt < 128) : own_i2b x = x := by
  apply Int32.toInt_inj.mp
  have := own_i2b_b x
  omega
theorem own_irem_int (x y : Int32) : (own_irem x y).toInt = x.toInt.tmod y.toInt := by
  have a := (x % y).toInt_lt; have b := (x % y).le_toInt
  rw [Int32.toInt_mod] at a b
  rw [own_irem, Int32.toInt_sub, Int32.toInt_mul, Int32.toInt_div, Int.bmod_mul_bmod, Int.sub_bmod_bmod, Int.mul_comm, ← Int.tmod_def]
  exact Jvm.Kit.bmod32 b a
theorem own_irem_pos {x y : Int32} (h : 0 ≤ x.toInt) : (own_irem x y).toInt = x.toInt % y.toInt := by rw [own_irem_int, Int.tmod_eq_emod_of_nonneg h]
theorem own_idiv_pos {x y : Int32} (h : 0 ≤ x.toInt) : (x / y).toInt = x.toInt / y.toInt := by
  have a := x.toInt_lt
  rw [Jvm.Kit.i32_div (by omega), Int.tdiv_eq_ediv_of_nonneg h]
theorem own_lrem_pos {x y : Int64} (h : 0 ≤ x.toInt) : (own_lrem x y).toInt = x.toInt % y.toInt := by rw [own_lrem]; exact Jvm.Kit.i64_rem_nonneg h
theorem own_ldiv_pos {x y : Int64} (h : 0 ≤ x.toInt) : (x / y).toInt = x.toInt / y.toInt := by
  have a := x.toInt_lt
  rw [Jvm.Kit.i64_div (by omega), Int.tdiv_eq_ediv_of_nonneg h]
/-! bits -/
theorem own_lushr_bv (x : Int64) (y : Int32) (k : Nat) (hk : ((y &&& 0x3f).toInt64.toBitVec % 64).toNat = k) : (own_lushr x y).toBitVec = x.toBitVec >>> k := by
  simp only [own_lushr, UInt64.toBitVec_toInt64, UInt64.toBitVec_shiftRight, Int64.toBitVec_toUInt64, BitVec.ushiftRight_eq', hk]
theorem own_lshl_bv (x : Int64) (y : Int32) (k : Nat) (hk : ((y &&& 0x3f).toInt64.toBitVec.smod 64#64).toNat = k) : (own_lshl x y).toBitVec = x.toBitVec <<< k := by
  have e : (own_lshl x y).toBitVec = x.toBitVec <<< ((y &&& 0x3f).toInt64.toBitVec.smod 64#64) := rfl
  rw [e, BitVec.shiftLeft_eq', hk]
theorem own_iushr_bv (x : Int32) (y : Int32) (k : Nat) (hk : ((y &&& 31).toBitVec % 32).toNat = k) : (own_iushr x y).toBitVec = x.toBitVec >>> k := by
  simp only [own_iushr, UInt32.toBitVec_toInt32, UInt32.toBitVec_shiftRight, Int32.toBitVec_toUInt32, BitVec.ushiftRight_eq', hk]
theorem own_iushr_int (x y : Int32) (k : Nat) (hk : ((y &&& 31).toBitVec % 32).toNat = k) (h : 0 ≤ x.toInt) : (own_iushr x y).toInt = x.toInt / 2 ^ k := by
  have e : (own_iushr x y).toInt = (own_iushr x y).toBitVec.toInt := rfl
  have e1 : x.toInt = x.toBitVec.toInt := rfl
  rw [e, own_iushr_bv x y k hk, e1]
  rw [e1] at h
  have h2 : x.toBitVec.toInt = (x.toBitVec.toNat : Int) := by
    rw [BitVec.toInt_eq_toNat_cond] at h ⊢
    split at h
    · rw [if_pos (by assumption)]
    · have := x.toBitVec.isLt; omega
  have h3 : 2 * x.toBitVec.toNat < 2 ^ 32 := by
    have := BitVec.toInt_lt (x := x.toBitVec); omega
  rw [BitVec.toInt_eq_toNat_cond, BitVec.toNat_ushiftRight, Nat.shiftRight_eq_div_pow]
  have h4 : x.toBitVec.toNat / 2 ^ k ≤ x.toBitVec.toNat := Nat.div_le_self _ _
  rw [if_pos (by omega), h2, Int.natCast_ediv, Int.natCast_pow]
  rfl
theorem own_pos_nat {x : Int32} (h : 0 ≤ x.toInt) : x.toInt = (x.toBitVec.toNat : Int) := by
  have e : x.toInt = x.toBitVec.toInt := rfl
  rw [e] at h ⊢
  rw [BitVec.toInt_eq_toNat_cond] at h ⊢
  have := x.toBitVec.isLt
  split at h
  · rw [if_pos (by assumption)]
  · omega
theorem own_nat_pos {x : Int32} {n : Nat} (h : x.toBitVec.toNat = n) (hn : n < 2147483648) : x.toInt = (n : Int) := by
  have e : x.toInt = x.toBitVec.toInt := rfl
  rw [e, BitVec.toInt_eq_toNat_cond, h, if_pos (by omega)]
/-- an or of a multiple of 2^k and what lies below 2^k is their sum -/
theorem own_or {x y : Int32} (k : Nat) (hx : 0 ≤ x.toInt) (hx2 : x.toInt % 2 ^ k = 0) (hy : 0 ≤ y.toInt) (hy2 : y.toInt < 2 ^ k) : (x ||| y).toInt = x.toInt + y.toInt := by
  have e1 := own_pos_nat hx
  have e2 := own_pos_nat hy
  have b1 := Int32.toInt_lt x
  have b2 := Int32.toInt_lt y
  have hm : x.toBitVec.toNat % 2 ^ k = 0 := by
    rw [e1] at hx2
    have : ((x.toBitVec.toNat % 2 ^ k : Nat) : Int) = 0 := by rw [Int.natCast_emod, Int.natCast_pow]; exact hx2
    omega
  have hl : y.toBitVec.toNat < 2 ^ k := by
    rw [e2] at hy2
    have : (y.toBitVec.toNat : Int) < ((2 ^ k : Nat) : Int) := by rw [Int.natCast_pow]; exact hy2
    omega
  have hd : x.toBitVec.toNat = 2 ^ k * (x.toBitVec.toNat / 2 ^ k) := by
    have := Nat.div_add_mod x.toBitVec.toNat (2 ^ k); omega
  have e3 : (x ||| y).toBitVec.toNat = x.toBitVec.toNat + y.toBitVec.toNat := by
    rw [Int32.toBitVec_or, BitVec.toNat_or]
    generalize y.toBitVec.toNat = b at *
    rw [hd, ← Nat.two_pow_add_eq_or_of_lt hl]
  have hlt : (x ||| y).toBitVec.toNat < 2147483648 := by
    rw [Int32.toBitVec_or, BitVec.toNat_or]
    exact Nat.or_lt_two_pow (n := 31) (by omega) (by omega)
  rw [own_nat_pos e3 (by omega)]
  omega
theorem own_mask (x m : Int32) (k : Nat) (hk : k < 32) (hm : m.toBitVec.toNat = 2 ^ k - 1) : (x &&& m).toInt = x.toInt % 2 ^ k := Jvm.Kit.i32_mask x m hk hm
/-! the high bits of a byte -/
theorem own_fin256 {x : Int32} (h0 : 0 ≤ x.toInt) (h1 : x.toInt < 256) : ∃ n : Fin 256, x = Int32.ofNat n.val ∧ x.toInt = (n.val : Int) := by
  refine ⟨⟨x.toInt.toNat, by omega⟩, ?_, by show x.toInt = (x.toInt.toNat : Int); omega⟩
  apply Int32.toInt_inj.mp
  rw [Int32.toInt_ofNat_of_lt (by show x.toInt.toNat < _; omega)]
  show x.toInt = (x.toInt.toNat : Int); omega
theorem own_f192 : ∀ n : Fin 256, (Int32.ofNat n.val &&& 192).toInt = (n.val : Int) - (n.val : Int) % 64 := by decide +kernel
theorem own_f224 : ∀ n : Fin 256, (Int32.ofNat n.val &&& 224).toInt = (n.val : Int) - (n.val : Int) % 32 := by decide +kernel
theorem own_f240 : ∀ n : Fin 256, (Int32.ofNat n.val &&& 240).toInt = (n.val : Int) - (n.val : Int) % 16 := by decide +kernel
theorem own_f248 : ∀ n : Fin 256, (Int32.ofNat n.val &&& 248).toInt = (n.val : Int) - (n.val : Int) % 8 := by decide +kernel
theorem own_h192 {x : Int32} (h0 : 0 ≤ x.toInt) (h1 : x.toInt < 256) : (x &&& 192).toInt = x.toInt - x.toInt % 64 := by
  obtain ⟨n, e1, e2⟩ := own_fin256 h0 h1; rw [e2, e1]; exact own_f192 n
theorem own_h224 {x : Int32} (h0 : 0 ≤ x.toInt) (h1 : x.toInt < 256) : (x &&& 224).toInt = x.toInt - x.toInt % 32 := by
  obtain ⟨n, e1, e2⟩ := own_fin256 h0 h1; rw [e2, e1]; exact own_f224 n
theorem own_h240 {x : Int32} (h0 : 0 ≤ x.toInt) (h1 : x.toInt < 256) : (x &&& 240).toInt = x.toInt - x.toInt % 16 := by
  obtain ⟨n, e1, e2⟩ := own_fin256 h0 h1; rw [e2, e1]; exact own_f240 n
theorem own_h248 {x : Int32} (h0 : 0 ≤ x.toInt) (h1 : x.toInt < 256) : (x &&& 248).toInt = x.toInt - x.toInt % 8 := by
  obtain ⟨n, e1, e2⟩ := own_fin256 h0 h1; rw [e2, e1]; exact own_f248 n
theorem own_m255 (x : Int32) : (x &&& 255).toInt = x.toInt % 256 := Jvm.Kit.i32_mask x 255 (k := 8) (by decide) (by decide)
theorem own_m63 (x : Int32) : (x &&& 63).toInt = x.toInt % 64 := Jvm.Kit.i32_mask x 63 (k := 6) (by decide) (by decide)
theorem own_l192 (x : Int32) : (x &&& 192).toInt = x.toInt % 256 - x.toInt % 64 := by
  have e : x &&& 192 = (x &&& 255) &&& 192 := by rw [Int32.and_assoc]; rfl
  have h := own_m255 x
  rw [e, own_h192 (by omega) (by omega), h]; omega
theorem own_shr (x y : Int32) (k : Nat) (hk : ((y &&& 31).toBitVec.smod 32).toNat = k) : (own_ishr x y).toInt = x.toInt / 2 ^ k := Jvm.Kit.i32_shr x _ hk
theorem own_shl (x y : Int32) (k : Nat) (hk : ((y &&& 31).toBitVec.smod 32).toNat = k) (h1 : -2147483648 ≤ x.toInt * 2 ^ k) (h2 : x.toInt * 2 ^ k < 2147483648) : (own_ishl x y).toInt = x.toInt * 2 ^ k := Jvm.Kit.i32_shl x _ hk (by omega) (by omega)
/-- an or with a constant that is a multiple of 2^k -/
theorem own_orc {x y : Int32} {d : Int} (k : Nat) (hx : x.toInt = d) (h0 : 0 ≤ d) (h1 : d % 2 ^ k = 0) (hy : 0 ≤ y.toInt) (hy2 : y.toInt < 2 ^ k) : (x ||| y).toInt = d + y.toInt := by
  subst hx; exact own_or k h0 h1 hy hy2
theorem own_b255 (x : Int32) : (own_i2b x &&& 255).toInt = x.toInt % 256 := by
  have h1 := own_m255 (own_i2b x)
  have h2 := own_i2b_b x
  omega
theorem own_ofNat {n : Nat} (h : n < 2147483648) : (Int32.ofNat n).toInt = (n : Int) := Int32.toInt_ofNat_of_lt (by omega)
/-! ### own layer 4: System.arraycopy between arrays of one primitive kind -/
theorem own_fits8 {x : Int32} (h : x.toInt8.toInt32 = x) : fits .byte (.int x) = true := by rw [← h]; exact fits_nar_byte x
theorem own_clamp {n : Nat} (h : n < 2147483648) : (Int32.ofNat n).toNatClampNeg = n := by
  have e := own_ofNat h
  rw [own_tnc, e]; omega
theorem own_rng_getD (f : Int → Value) (n k : Nat) (d : Value) (hk : k < n) : ((List.range n).map fun (j : Nat) => f (j : Int)).getD k d = f (k : Int) := by
  simp [List.getD_eq_getElem?_getD, List.getElem?_map, List.getElem?_range hk]
theorem own_A_arv {Z : State} {h : Heap} {a : Addr} {ty : FieldType} {n : Nat} {f : Int → Value} (A : own_A Z h a ty n f) (hf : ∀ j : Int, 0 ≤ j → j < n → fits ty (f j) = true) (d : Value) : ∃ k, Arv Z h a k ty (Int32.ofNat n) ((List.range n).map fun (j : Nat) => f (j : Int)) d := by
  obtain ⟨q, c, A, S, H⟩ := A
  refine ⟨c.cls, c, A, rfl, by rw [own_clamp q, S], own_idx (by rw [own_ofNat q]; omega), fun k hk => ?_, fun k hk => ?_⟩
  · rw [S] at hk; rw [own_rng_getD f n k d hk]; exact H k hk
  · rw [S] at hk; rw [own_rng_getD f n k d hk]; exact hf k (by omega) (by omega)
theorem own_cp_getD (fa fb : Int → Value) (na nb sp dp nn : Nat) (d : Value) (h1 : sp + nn ≤ na) (h2 : dp + nn ≤ nb) (j : Nat) (hj : j < nb) :
    (((List.range nb).map fun (j : Nat) => fb (j : Int)).take dp ++ ((List.range nn).map fun (i : Nat) => ((List.range na).map fun (j : Nat) => fa (j : Int)).getD (sp + i) d) ++ ((List.range nb).map fun (j : Nat) => fb (j : Int)).drop (dp + nn)).getD j d = if (dp : Int) ≤ (j : Int) ∧ (j : Int) < (dp : Int) + nn then fa ((sp : Int) + ((j : Int) - dp)) else fb (j : Int) := by
  have lt : (((List.range nb).map fun (j : Nat) => fb (j : Int)).take dp).length = dp := by rw [List.length_take, List.length_map, List.length_range]; omega
  have lu : ((List.range nn).map fun (i : Nat) => ((List.range na).map fun (j : Nat) => fa (j : Int)).getD (sp + i) d).length = nn := by rw [List.length_map, List.length_range]
  rw [List.getD_eq_getElem?_getD]
  by_cases c1 : j < dp
  · rw [if_neg (by omega), List.append_assoc, List.getElem?_append_left (by omega), List.getElem?_take_of_lt c1, ← List.getD_eq_getElem?_getD, own_rng_getD fb nb j d hj]
  · by_cases c2 : j < dp + nn
    · rw [if_pos (by omega), List.getElem?_append_left (by rw [List.length_append]; omega), List.getElem?_append_right (by omega), lt, List.getElem?_map, List.getElem?_range (by omega)]
      show ((List.range na).map fun (j : Nat) => fa (j : Int)).getD (sp + (j - dp)) d = _
      rw [own_rng_getD fa na _ d (by omega)]
      congr 1; omega
    · rw [if_neg (by omega), List.getElem?_append_right (by rw [List.length_append]; omega), List.length_append, lt, lu, List.getElem?_drop, show dp + nn + (j - (dp + nn)) = j by omega, ← List.getD_eq_getElem?_getD, own_rng_getD fb nb j d hj]
theorem own_u_fix {g : Int → Int32} (h : ∀ j, (g j).toInt8.toInt32 = g j) {i : Int} {x : Int32} (hx : x.toInt8.toInt32 = x) : ∀ j, (own_u g i x j).toInt8.toInt32 = own_u g i x j := by
  intro j
  by_cases e : j = i
  · rw [own_u_eq e]; exact hx
  · rw [own_u_ne e]; exact h j
section Copy
variable {p : Program} {l : Launch} {e : Env} {R : Room} {s : State} {m : MethodId} {args : Array Value} {below : List Frame} {meth : Method} {c : Code} {Z : State} {bytes : ByteArray} {maxL : Nat} {ret : Option FieldType} {y : MethodName} {n0 : Nat} {h : Heap} {T : State} {k n : Nat} {Q : Outcome → State → Prop} {pc : Nat} {ls : Array Slot} {st : List Value} {a0 : Array Value}
theorem own_acopy (X : own_X p l e R s m args below meth c Z bytes maxL ret y n0 h T k n) {i : Nat} (w1 : (Jvm.Cond.methodLink y.cls i Jvm.Stand.acN).before a0 Z = true) (w2 : (Jvm.Cond.native Jvm.Stand.acN).before a0 Z = true) (w3 : (Jvm.Cond.static Jvm.Stand.acN).before a0 Z = true) (w4 : (Jvm.Cond.initialized "java/lang/System").before a0 Z = true)
    {a b : Addr} {ty : FieldType} {na nb : Nat} {fa fb : Int → Value} (A : own_A Z h a ty na fa) (B : own_A Z h b ty nb fb) (hr : refKind ty = false) (fA : ∀ j : Int, 0 ≤ j → j < na → fits ty (fa j) = true) (fB : ∀ j : Int, 0 ≤ j → j < nb → fits ty (fb j) = true)
    {sp dp nn : Int32} (h1 : 0 ≤ sp.toInt) (h2 : 0 ≤ dp.toInt) (h3 : 0 ≤ nn.toInt) (h4 : sp.toInt + nn.toInt ≤ na) (h5 : dp.toInt + nn.toInt ≤ nb) (ge : n0 ≤ b) (hd : decode bytes pc = .ok (.invokestatic i, 3)) (hsz : ls.size = maxL) (hf : 1 ≤ R.frames) (hlo : (st.map fun v => v.category).sum + (nativeFrameWords "java/lang/System" "arraycopy" 5 + 11) ≤ R.locals)
    (g : ∀ h' T', own_X p l e R s m args below meth c Z bytes maxL ret y n0 h' T' k n → Keep h h' [b] → own_A Z h' b ty nb (fun j => if dp.toInt ≤ j ∧ j < dp.toInt + nn.toInt then fa (sp.toInt + (j - dp.toInt)) else fb j) → own_G p e below (T'.setTop (mkF m (pc + 3) ls st)) Q) :
    own_G p e below (T.setTop (mkF m pc ls (.int nn :: .int dp :: .ref b :: .int sp :: .ref a :: st))) Q := by
  obtain ⟨M, hn0, eT, locs, X, N⟩ := X
  have M' := M
  obtain ⟨hx, hby, hml, hown, hnm, hret, hZ, hlk⟩ := M'
  subst hby
  have qa := A.1
  have qb := B.1
  obtain ⟨ka, VA⟩ := own_A_arv A fA .null
  obtain ⟨kb, VB⟩ := own_A_arv B fB .null
  have e1 := own_nat h1
  have e2 := own_nat h2
  have e3 := own_nat h3
  obtain ⟨T', h', L, X', e', N', K', V', stp⟩ := cpA X hx hZ hown w1 w2 w3 w4 eT VA VB (Or.inl ⟨rfl, hr⟩) (own_idx h1) (own_idx h2) (own_idx h3) (by rw [own_clamp qa]; omega) (by rw [own_clamp qb]; omega) rfl (by rw [List.length_map, List.length_range]; omega) N ge (g := mkF m pc ls (.int nn :: .int dp :: .ref b :: .int sp :: .ref a :: st)) rfl (hsz.trans hml.symm) rfl hd hf (Nat.le_of_eq (Nat.zero_add _)) hlo
  refine own_st stp (g h' T' ⟨M, Nat.le_trans hn0 K'.1, e', _, X', N'⟩ K' ⟨qb, ?_⟩)
  obtain ⟨cc, A', -, S', -, H', -⟩ := V'
  rw [own_clamp qb] at S'
  refine ⟨cc, A', S', fun j hj => ?_⟩
  rw [H' j (by omega), own_cp_getD fa fb na nb _ _ _ .null (by omega) (by omega) j hj, e1, e2, e3]
end Copy
section Acmp
variable {p : Program} {l : Launch} {e : Env} {R : Room} {s : State} {m : MethodId} {args : Array Value} {below : List Frame} {meth : Method} {c : Code} {Z : State} {bytes : ByteArray} {maxL : Nat} {ret : Option FieldType} {y : MethodName} {n0 : Nat} {h : Heap} {T : State} {k n : Nat} {Q : Outcome → State → Prop} {pc : Nat} {ls : Array Slot} {st : List Value}
/-- if_acmpne of one and the same reference: on -/
theorem own_acmpSame (X : own_X p l e R s m args below meth c Z bytes maxL ret y n0 h T k n) {o : Int} {a : Addr} (hd : decode bytes pc = .ok (.if_acmp .ne o, 3)) (g : own_G p e below (T.setTop (mkF m (pc + 3) ls st)) Q) : own_G p e below (T.setTop (mkF m pc ls (.ref a :: .ref a :: st))) Q := by
  obtain ⟨⟨hx, hby, -⟩, -, -, locs, X, -⟩ := X
  subst hby
  exact own_st (fun t q => XS.acmpNo X.here hx rfl hd rfl (by simp [if_acmp.holds]) q) g
end Acmp
/-! ### own layer 5: a constructor whose entry is resolved already; a long array made; InstanceValues' state -/
section Ref
variable {p : Program} {l : Launch} {e : Env} {R : Room} {s : State} {m : MethodId} {args : Array Value} {below : List Frame} {meth : Method} {c : Code} {Z : State} {bytes : ByteArray} {maxL : Nat} {ret : Option FieldType} {y : MethodName} {n0 : Nat} {h : Heap} {T : State} {k n : Nat} {Q : Outcome → State → Prop} {pc : Nat} {ls : Array Slot} {st : List Value} {a0 : Array Value}
theorem own_more (X : own_X p l e R s m args below meth c Z bytes maxL ret y n0 h T k n) {k' n' : Nat} (hk : k ≤ k') (hn : n ≤ n') : own_X p l e R s m args below meth c Z bytes maxL ret y n0 h T k' n' := by
  obtain ⟨M, hn0, eT, locs, X, N⟩ := X
  exact ⟨M, hn0, eT, locs, X.more hk hn, N⟩
theorem own_refSpec {s : State} {args : Array Value} {cls : String} {index cur : Nat} {x : MethodName} (hcur : s.vm.findClass cls = some cur) (h : (Jvm.Cond.methodRef cls index x).before args s = true) :
    ∃ m c', s.methodFound? x.cls x.name x.desc = some m ∧ s.vm.methodReady cur index m ∧ s.vm.findClass x.cls = some c' ∧ Op.namesResolved s.vm cur index c' := by
  simp only [Cond.before, Cond.holds, Cond.value, hcur] at h
  cases hm : s.methodFound? x.cls x.name x.desc with
  | none => simp [hm] at h
  | some m' =>
  simp only [hm, beq_iff_eq, Option.some.injEq, Bool.and_eq_true, decide_eq_true_eq] at h
  obtain ⟨⟨hnames, hcls⟩, hres⟩ := h
  obtain ⟨cp, hcp, hn⟩ := State.names_spec hnames
  obtain ⟨ci, nt, hentry, hnt, -⟩ := namesOf?_method hn
  obtain ⟨k, cf, hk, hcf, rfl⟩ := State.poolOf?_spec hcur hcp
  have hci : ∃ c', s.vm.findClass x.cls = some c' ∧ s.resolvedAt? cls ci = some (.cls c') := by
    cases hr : s.refClass? cls index with
    | none =>
      exfalso
      rw [hr] at hcls
      simp only [State.methodFound?, ← hcls, Option.bind_eq_bind, Option.bind_none] at hm
      cases hm
    | some c' =>
      refine ⟨c', by rw [← hcls, hr], ?_⟩
      simp only [State.refClass?, hcp, Option.bind_eq_bind, Option.bind_some] at hr
      rcases hentry with he | he <;> simp only [he, Option.bind_eq_some_iff] at hr <;>
        (obtain ⟨r, hr1, hr2⟩ := hr; cases r <;> simp at hr2; subst hr2; exact hr1)
  obtain ⟨c', hfind, hready⟩ := hci
  split at hres
  · rename_i m hr
    have hmm : m = m' := by simpa using hres
    subst hmm
    exact ⟨m, c', rfl, State.resolvedAt?_spec hcur hr, hfind, k, cf, ci, nt, hk, hcf, hentry, State.resolvedAt?_spec hcur hready⟩
  · cases hres
theorem own_callR (X : own_X p l e R s m args below meth c Z bytes maxL ret y n0 h T k n) {i : Nat} {z : MethodName} {zb : ByteArray} {zl : Nat} {rm : Room} {as : Array Value} {P : Option Value → Heap → Prop} (hz : z.name = "<init>")
    (w1 : (Jvm.Cond.methodRef y.cls i z).before a0 Z = true) (w2 : (Jvm.Cond.instanceMethod z).before a0 Z = true) (w3 : (Jvm.Cond.initialized z.cls).before a0 Z = true) (w4 : (Jvm.Cond.code z zb zl none).before a0 Z = true) (hy : z.cls ≠ "java/lang/invoke/MethodHandle" ∧ z.cls ≠ "java/lang/invoke/VarHandle")
    (K : own_C l Z z zb zl none rm as h n0 P) (hd : decode bytes pc = .ok (.invokespecial i, 3)) {a : Addr} (argsL rest : List Value) (hst : st = argsL.reverse ++ .ref a :: rest) (has : (.ref a :: argsL).toArray = as) {ps : List FieldType} {pr : Option FieldType} (hsg : parseMethodDescriptor z.desc = some ⟨ps, pr⟩) (hlen : argsL.length = ps.length) (hsz : ls.size = maxL)
    (hf : rm.frames + 1 ≤ R.frames) (hl : (rest.map fun v => v.category).sum + (zl + 11) + rm.locals ≤ R.locals) (hc : k + rm.cells ≤ R.cells) (hs : n + rm.slots ≤ R.slots) (hn : ∀ v h', P v h' → n0 ≤ h'.size)
    (g : ∀ v h' T', own_X p l e R s m args below meth c Z bytes maxL ret y n0 h' T' (k + rm.cells) (n + rm.slots) → P v h' → own_G p e below (T'.setTop (mkF m (pc + 3) ls (v.toList ++ rest))) Q) : own_G p e below (T.setTop (mkF m pc ls st)) Q := by
  obtain ⟨M, hn0, eT, locs, X, N⟩ := X
  have M' := M
  obtain ⟨hx, hby, hml, hown, hnm, hret, hZ, hlk⟩ := M'
  subst hby hst has
  obtain ⟨obj, methO, hnO, hmO, hstO, habO⟩ := Cond.instanceMethod_spec (mvT hZ w2 : (Jvm.Cond.instanceMethod z).before args s = true)
  obtain ⟨methO', cO, hmO', hcO, hbO, hlO, -, hlockO, -, hsigO⟩ := Cond.code_spec hnO (mvT hZ w4 : (Jvm.Cond.code z zb zl none).before args s = true)
  cases hmO.symm.trans hmO'
  obtain ⟨kO, hkO, hnameO⟩ := className_of_methodNamed hnO
  obtain ⟨hnameMO, hdescO⟩ := name_of_methodNamed hnO hmO
  have hZT : Z.Warmed39 T.vm := wtrans hZ X.warmed
  have al := hZT.alike
  have aT := X.warmed.alike
  obtain ⟨mZ, hnZ⟩ := Cond.code_named w4
  have wR : (Jvm.Cond.methodRef y.cls i z).before a0 (Z.setVm T.vm) = true := Cond.methodRef_warmed39 hZT hnZ hy w1
  have hcur : (Z.setVm T.vm).vm.findClass y.cls = some m.cls := by show T.vm.findClass y.cls = _; rw [aT.findClass]; exact hown
  obtain ⟨mm, c', hfd, hrd, hfc, hnr⟩ := own_refSpec hcur wR
  have hnT : (Z.setVm T.vm).methodNamed? z = some obj := by
    have q := X.named hnO
    exact q
  have hmm : mm = obj := by
    have q := State.methodFound?_of_named hnT hy
    rw [hfd] at q; exact Option.some.inj q
  subst hmm
  have hcc : c' = mm.cls := by
    have q := findClass_of_methodNamed hnT
    rw [hfc] at q; exact Option.some.inj q
  subst hcc
  obtain ⟨kO₂, hkO₂, heO₂⟩ := aT.2.2 _ _ hkO
  have hmO₂ : T.vm.method? mm = some methO := by rw [aT.method?]; exact hmO
  have hfound : lookupSpecial T.vm mm.cls "<init>" methO.desc = .method mm := by
    rw [aT.lookupSpecial, hdescO, ← hz]; exact lookupSpecial_of_named hnO hmO hstO
  have stp0 : ∀ target, (∀ acts, Steps p.tables e below (doInvoke e (T.setTop (mkF m pc ls rest)) acts mm (.ref a :: argsL).toArray).1 target) → Steps p.tables e below (T.setTop (mkF m pc ls (argsL.reverse ++ .ref a :: rest))) target := by
    intro target hrest
    jvm_step X.here [hx, hd, invokespecial.wp_init (e := e) (s := T) (k := kO₂) (meth := methO) (m := mm) (a := a) (args := argsL) (rest := rest) (f := mkF m pc ls (argsL.reverse ++ .ref a :: rest)) X.here.top hnr hrd hkO₂ hmO₂ (by rw [hnameMO]; exact hz) hstO habO hfound (lenOf hsg hlen _ hsigO) rfl]
    exact hrest
  have BK := backOf (p := p) (e := e) (below := below) (args := args) (W := (rest.map fun v => v.category).sum) (len := 3) (Q := fun v h' L => Fr n0 L ∧ P v h') (K []) hZ w4 w3 hf hl
  obtain ⟨v, B, X', ⟨L, hq, l1, l2, l3⟩, hsteps⟩ := BK m meth c ⟨T, locs, k, n⟩ (mkF m pc ls rest) (.invokespecial i) mm (.ref a :: argsL).toArray X rfl (hsz.trans hml.symm) hd (Nat.le_of_eq (Nat.zero_add _)) (X.named hnO) ⟨rfl, eT, hc, hs⟩
  obtain ⟨U, Lc, k', n'⟩ := B
  dsimp only [Pt.U, Pt.locs, Pt.cells, Pt.slots] at X' hq l1 l2 l3 hsteps
  subst l1 l2 l3
  refine own_st (fun t q => stp0 t fun acts => ?_) (g v U.heap U ⟨M, hn v _ hq.2, rfl, _, X', Fr.app N hq.1⟩ hq.2)
  rw [doInvoke_state]; exact hsteps.trans q
end Ref
def own_minJ (a b : Int64) : Int64 := if b.toInt < a.toInt then b else a
def own_maxJ (a b : Int64) : Int64 := if a.toInt < b.toInt then b else a
def own_minI (a b : Int32) : Int32 := if b.toInt < a.toInt then b else a
def own_maxI (a b : Int32) : Int32 := if a.toInt < b.toInt then b else a
def own_V (Z : State) (h : Heap) (n0 : Nat) (v va ha : Addr) (B K : Int64) (sz : Int32) (n : Nat) (fv : Int → Int64) (hv : Int → Int32) : Prop :=
  Exa Z h v "lonewatch/model/InstanceValues" ∧ Fld Z h v "lonewatch/model/InstanceValues" "base" "J" (.long B) ∧ Fld Z h v "lonewatch/model/InstanceValues" "kept" "J" (.long K) ∧ Fld Z h v "lonewatch/model/InstanceValues" "values" "[J" (.ref va) ∧ Fld Z h v "lonewatch/model/InstanceValues" "held" "[Z" (.ref ha) ∧ Fld Z h v "lonewatch/model/InstanceValues" "size" "I" (.int sz) ∧ own_A Z h va .long n (fun j => .long (fv j)) ∧ own_I Z h ha .boolean n hv ∧ n0 ≤ v ∧ n0 ≤ va ∧ n0 ≤ ha ∧ v ≠ va ∧ v ≠ ha ∧ va ≠ ha
/-- the state of an InstanceValues: mem says which instances from K on hold a value -/
def own_S (Z : State) (h : Heap) (n0 : Nat) (v : Addr) (B K : Int64) (n : Nat) (mem : Int → Prop) : Prop :=
  ∃ va ha sz fv hv, own_V Z h n0 v va ha B K sz n fv hv ∧ (∀ j : Int, 0 ≤ j → j < n → hv j = 0 ∨ hv j = 1) ∧ ∀ k : Int, K.toInt ≤ k → (mem k ↔ (k - B.toInt < n ∧ hv (k - B.toInt) = 1))
theorem own_S_iff {Z : State} {h : Heap} {n0 : Nat} {v : Addr} {B K : Int64} {n : Nat} {mem mem' : Int → Prop} (S : own_S Z h n0 v B K n mem) (q : ∀ k, mem' k ↔ mem k) : own_S Z h n0 v B K n mem' := by
  obtain ⟨va, ha, sz, fv, hv, V, h1, h2⟩ := S
  exact ⟨va, ha, sz, fv, hv, V, h1, fun k hk => (q k).trans (h2 k hk)⟩
theorem own_fitZ {x : Int32} (h : x = 0 ∨ x = 1) : fits .boolean (.int x) = true := by rcases h with rfl | rfl <;> rfl
abbrev own_y8 : MethodName := ⟨"java/lang/Math", "min", "(JJ)J"⟩
theorem pl8 : plainFor own_y8 = true := Jvm.Free.JP.mathPlain rfl (by decide +kernel)
def B8_0_2 : List (Instr × Nat) := [(.lload_n 0, 1), (.lload_n 2, 1)]
theorem B8_0_2d : own_d jdk_29_method_70_code 0 B8_0_2 2 = true := by decide +kernel
theorem d8_2 : decode jdk_29_method_70_code 2 = .ok (.lcmp, 1) := by decide +kernel
theorem d8_3 : decode jdk_29_method_70_code 3 = .ok (.ifCond .gt 7, 3) := by decide +kernel
def B8_10_11 : List (Instr × Nat) := [(.lload_n 2, 1)]
theorem B8_10_11d : own_d jdk_29_method_70_code 10 B8_10_11 11 = true := by decide +kernel
theorem d8_11 : decode jdk_29_method_70_code 11 = .ok (.lreturn, 1) := by decide +kernel
def B8_6_7 : List (Instr × Nat) := [(.lload_n 0, 1)]
theorem B8_6_7d : own_d jdk_29_method_70_code 6 B8_6_7 7 = true := by decide +kernel
theorem d8_7 : decode jdk_29_method_70_code 7 = .ok (.goto 4, 3) := by decide +kernel
set_option maxRecDepth 65536 in
set_option maxHeartbeats 40000000 in
theorem c_minJ (l : Launch) (Z : State) (a0 : Array Value) (hw : ∀ d ∈ tables_1, d.before a0 Z = true) (a : Int64) (b : Int64) (h0 : Heap) (n0 : Nat) (Z0 : n0 ≤ h0.size)  :
    own_C l Z own_y8 jdk_29_method_70_code 4 (some .long) ({ frames := 0, cells := 0, slots := 0, locals := 0 } : Room) #[(.long a), (.long b)] h0 n0 (fun v h => v = some (.long (own_minJ a b)) ∧ h = h0) := by
  refine own_body pl8 Z0 (ls := #[.val (.long a), .second, .val (.long b), .second]) (fun m => by first | (simp [entryFrame, mkF, argsToLocals, Value.category]; done) | rfl) ?_
  intro p e s m below meth c T0 X0
  refine own_blk X0 B8_0_2 B8_0_2d (ls' := #[.val (.long a), .second, .val (.long b), .second]) (st' := [(.long b), (.long a)]) rfl ?_
  refine own_lif X0 d8_2 d8_3 (pc' := 10) (by decide) (fun c2 => ?_) (fun c2 => ?_)
  · have c2 : b.toInt < a.toInt := c2
    refine own_blk X0 B8_10_11 B8_10_11d (ls' := #[.val (.long a), .second, .val (.long b), .second]) (st' := [(.long b)]) rfl ?_
    exact own_retL X0 d8_11 (by decide) (by decide) (⟨by rw [own_minJ, if_pos (by omega)], rfl⟩)
  · have c2 : ¬ (b.toInt < a.toInt) := c2
    refine own_blk X0 B8_6_7 B8_6_7d (ls' := #[.val (.long a), .second, .val (.long b), .second]) (st' := [(.long a)]) rfl ?_
    refine own_goto X0 d8_7 (pc' := 11) (by decide) ?_
    exact own_retL X0 d8_11 (by decide) (by decide) (⟨by rw [own_minJ, if_neg (by omega)], rfl⟩)
abbrev own_y9 : MethodName := ⟨"java/lang/Math", "max", "(JJ)J"⟩
theorem pl9 : plainFor own_y9 = true := Jvm.Free.JP.mathPlain rfl (by decide +kernel)
def B9_0_2 : List (Instr × Nat) := [(.lload_n 0, 1), (.lload_n 2, 1)]
theorem B9_0_2d : own_d jdk_29_method_66_code 0 B9_0_2 2 = true := by decide +kernel
theorem d9_2 : decode jdk_29_method_66_code 2 = .ok (.lcmp, 1) := by decide +kernel
theorem d9_3 : decode jdk_29_method_66_code 3 = .ok (.ifCond .lt 7, 3) := by decide +kernel
def B9_10_11 : List (Instr × Nat) := [(.lload_n 2, 1)]
theorem B9_10_11d : own_d jdk_29_method_66_code 10 B9_10_11 11 = true := by decide +kernel
theorem d9_11 : decode jdk_29_method_66_code 11 = .ok (.lreturn, 1) := by decide +kernel
def B9_6_7 : List (Instr × Nat) := [(.lload_n 0, 1)]
theorem B9_6_7d : own_d jdk_29_method_66_code 6 B9_6_7 7 = true := by decide +kernel
theorem d9_7 : decode jdk_29_method_66_code 7 = .ok (.goto 4, 3) := by decide +kernel
set_option maxRecDepth 65536 in
set_option maxHeartbeats 40000000 in
theorem c_maxJ (l : Launch) (Z : State) (a0 : Array Value) (hw : ∀ d ∈ tables_1, d.before a0 Z = true) (a : Int64) (b : Int64) (h0 : Heap) (n0 : Nat) (Z0 : n0 ≤ h0.size)  :
    own_C l Z own_y9 jdk_29_method_66_code 4 (some .long) ({ frames := 0, cells := 0, slots := 0, locals := 0 } : Room) #[(.long a), (.long b)] h0 n0 (fun v h => v = some (.long (own_maxJ a b)) ∧ h = h0) := by
  refine own_body pl9 Z0 (ls := #[.val (.long a), .second, .val (.long b), .second]) (fun m => by first | (simp [entryFrame, mkF, argsToLocals, Value.category]; done) | rfl) ?_
  intro p e s m below meth c T0 X0
  refine own_blk X0 B9_0_2 B9_0_2d (ls' := #[.val (.long a), .second, .val (.long b), .second]) (st' := [(.long b), (.long a)]) rfl ?_
  refine own_lif X0 d9_2 d9_3 (pc' := 10) (by decide) (fun c2 => ?_) (fun c2 => ?_)
  · have c2 : a.toInt < b.toInt := c2
    refine own_blk X0 B9_10_11 B9_10_11d (ls' := #[.val (.long a), .second, .val (.long b), .second]) (st' := [(.long b)]) rfl ?_
    exact own_retL X0 d9_11 (by decide) (by decide) (⟨by rw [own_maxJ, if_pos (by omega)], rfl⟩)
  · have c2 : ¬ (a.toInt < b.toInt) := c2
    refine own_blk X0 B9_6_7 B9_6_7d (ls' := #[.val (.long a), .second, .val (.long b), .second]) (st' := [(.long a)]) rfl ?_
    refine own_goto X0 d9_7 (pc' := 11) (by decide) ?_
    exact own_retL X0 d9_11 (by decide) (by decide) (⟨by rw [own_maxJ, if_neg (by omega)], rfl⟩)
abbrev own_y11 : MethodName := ⟨"java/lang/Math", "min", "(II)I"⟩
theorem pl11 : plainFor own_y11 = true := Jvm.Free.JP.mathPlain rfl (by decide +kernel)
def B11_0_2 : List (Instr × Nat) := [(.iload_n 0, 1), (.iload_n 1, 1)]
theorem B11_0_2d : own_d jdk_29_method_69_code 0 B11_0_2 2 = true := by decide +kernel
theorem d11_2 : decode jdk_29_method_69_code 2 = .ok (.if_icmp .gt 7, 3) := by decide +kernel
def B11_9_10 : List (Instr × Nat) := [(.iload_n 1, 1)]
theorem B11_9_10d : own_d jdk_29_method_69_code 9 B11_9_10 10 = true := by decide +kernel
theorem d11_10 : decode jdk_29_method_69_code 10 = .ok (.ireturn, 1) := by decide +kernel
def B11_5_6 : List (Instr × Nat) := [(.iload_n 0, 1)]
theorem B11_5_6d : own_d jdk_29_method_69_code 5 B11_5_6 6 = true := by decide +kernel
theorem d11_6 : decode jdk_29_method_69_code 6 = .ok (.goto 4, 3) := by decide +kernel
set_option maxRecDepth 65536 in
set_option maxHeartbeats 40000000 in
theorem c_minI (l : Launch) (Z : State) (a0 : Array Value) (hw : ∀ d ∈ tables_1, d.before a0 Z = true) (a : Int32) (b : Int32) (h0 : Heap) (n0 : Nat) (Z0 : n0 ≤ h0.size)  :
    own_C l Z own_y11 jdk_29_method_69_code 2 (some .int) ({ frames := 0, cells := 0, slots := 0, locals := 0 } : Room) #[(.int a), (.int b)] h0 n0 (fun v h => v = some (.int (own_minI a b)) ∧ h = h0) := by
  refine own_body pl11 Z0 (ls := #[.val (.int a), .val (.int b)]) (fun m => by first | (simp [entryFrame, mkF, argsToLocals, Value.category]; done) | rfl) ?_
  intro p e s m below meth c T0 X0
  refine own_blk X0 B11_0_2 B11_0_2d (ls' := #[.val (.int a), .val (.int b)]) (st' := [(.int b), (.int a)]) rfl ?_
  refine own_icmp X0 d11_2 (pc' := 9) (by decide) (fun c2 => ?_) (fun c2 => ?_)
  · have c2 : b.toInt < a.toInt := c2
    refine own_blk X0 B11_9_10 B11_9_10d (ls' := #[.val (.int a), .val (.int b)]) (st' := [(.int b)]) rfl ?_
    exact own_retI X0 d11_10 (by decide) (by decide) (⟨by rw [own_minI, if_pos (by omega)], rfl⟩)
  · have c2 : ¬ (b.toInt < a.toInt) := c2
    refine own_blk X0 B11_5_6 B11_5_6d (ls' := #[.val (.int a), .val (.int b)]) (st' := [(.int a)]) rfl ?_
    refine own_goto X0 d11_6 (pc' := 10) (by decide) ?_
    exact own_retI X0 d11_10 (by decide) (by decide) (⟨by rw [own_minI, if_neg (by omega)], rfl⟩)
abbrev own_y13 : MethodName := ⟨"java/lang/Math", "max", "(II)I"⟩
theorem pl13 : plainFor own_y13 = true := Jvm.Free.JP.mathPlain rfl (by decide +kernel)
def B13_0_2 : List (Instr × Nat) := [(.iload_n 0, 1), (.iload_n 1, 1)]
theorem B13_0_2d : own_d jdk_29_method_65_code 0 B13_0_2 2 = true := by decide +kernel
theorem d13_2 : decode jdk_29_method_65_code 2 = .ok (.if_icmp .lt 7, 3) := by decide +kernel
def B13_9_10 : List (Instr × Nat) := [(.iload_n 1, 1)]
theorem B13_9_10d : own_d jdk_29_method_65_code 9 B13_9_10 10 = true := by decide +kernel
theorem d13_10 : decode jdk_29_method_65_code 10 = .ok (.ireturn, 1) := by decide +kernel
def B13_5_6 : List (Instr × Nat) := [(.iload_n 0, 1)]
theorem B13_5_6d : own_d jdk_29_method_65_code 5 B13_5_6 6 = true := by decide +kernel
theorem d13_6 : decode jdk_29_method_65_code 6 = .ok (.goto 4, 3) := by decide +kernel
set_option maxRecDepth 65536 in
set_option maxHeartbeats 40000000 in
theorem c_maxI (l : Launch) (Z : State) (a0 : Array Value) (hw : ∀ d ∈ tables_1, d.before a0 Z = true) (a : Int32) (b : Int32) (h0 : Heap) (n0 : Nat) (Z0 : n0 ≤ h0.size)  :
    own_C l Z own_y13 jdk_29_method_65_code 2 (some .int) ({ frames := 0, cells := 0, slots := 0, locals := 0 } : Room) #[(.int a), (.int b)] h0 n0 (fun v h => v = some (.int (own_maxI a b)) ∧ h = h0) := by
  refine own_body pl13 Z0 (ls := #[.val (.int a), .val (.int b)]) (fun m => by first | (simp [entryFrame, mkF, argsToLocals, Value.category]; done) | rfl) ?_
  intro p e s m below meth c T0 X0
  refine own_blk X0 B13_0_2 B13_0_2d (ls' := #[.val (.int a), .val (.int b)]) (st' := [(.int b), (.int a)]) rfl ?_
  refine own_icmp X0 d13_2 (pc' := 9) (by decide) (fun c2 => ?_) (fun c2 => ?_)
  · have c2 : a.toInt < b.toInt := c2
    refine own_blk X0 B13_9_10 B13_9_10d (ls' := #[.val (.int a), .val (.int b)]) (st' := [(.int b)]) rfl ?_
    exact own_retI X0 d13_10 (by decide) (by decide) (⟨by rw [own_maxI, if_pos (by omega)], rfl⟩)
  · have c2 : ¬ (a.toInt < b.toInt) := c2
    refine own_blk X0 B13_5_6 B13_5_6d (ls' := #[.val (.int a), .val (.int b)]) (st' := [(.int a)]) rfl ?_
    refine own_goto X0 d13_6 (pc' := 10) (by decide) ?_
    exact own_retI X0 d13_10 (by decide) (by decide) (⟨by rw [own_maxI, if_neg (by omega)], rfl⟩)
abbrev own_y16 : MethodName := ⟨"java/util/Arrays", "checkLength", "(II)V"⟩
theorem pl16 : plainFor own_y16 = true := plainFor_of_name (by first | (simp [plainName, overriddenIn]; done) | decide +kernel)
def B16_0_2 : List (Instr × Nat) := [(.iload_n 1, 1), (.iload_n 0, 1)]
theorem B16_0_2d : own_d jdk_65_method_131_code 0 B16_0_2 2 = true := by decide +kernel
theorem d16_2 : decode jdk_65_method_131_code 2 = .ok (.if_icmp .ge 35, 3) := by decide +kernel
theorem d16_37 : decode jdk_65_method_131_code 37 = .ok (.return_, 1) := by decide +kernel
set_option maxRecDepth 65536 in
set_option maxHeartbeats 40000000 in
theorem c_chk (l : Launch) (Z : State) (a0 : Array Value) (hw : ∀ d ∈ tables_1, d.before a0 Z = true) (a : Int32) (b : Int32) (h0 : Heap) (n0 : Nat) (Z0 : n0 ≤ h0.size) (hc : a.toInt ≤ b.toInt) :
    own_C l Z own_y16 jdk_65_method_131_code 2 none ({ frames := 0, cells := 0, slots := 0, locals := 0 } : Room) #[(.int a), (.int b)] h0 n0 (fun v h => v = none ∧ h = h0) := by
  refine own_body pl16 Z0 (ls := #[.val (.int a), .val (.int b)]) (fun m => by first | (simp [entryFrame, mkF, argsToLocals, Value.category]; done) | rfl) ?_
  intro p e s m below meth c T0 X0
  refine own_blk X0 B16_0_2 B16_0_2d (ls' := #[.val (.int a), .val (.int b)]) (st' := [(.int a), (.int b)]) rfl ?_
  refine own_icmp X0 d16_2 (pc' := 37) (by decide) (fun c2 => ?_) (fun (c2 : ¬ (a.toInt ≤ b.toInt)) => by exfalso; omega)
  have c2 : a.toInt ≤ b.toInt := c2
  exact own_retV X0 d16_37 (by decide) (by decide) (⟨rfl, rfl⟩)
abbrev own_y10 : MethodName := ⟨"java/util/Arrays", "copyOf", "([JI)[J"⟩
theorem pl10 : plainFor own_y10 = true := plainFor_of_name (by first | (simp [plainName, overriddenIn]; done) | decide +kernel)
def B10_0_2 : List (Instr × Nat) := [(.iload_n 1, 1), (.aload_n 0, 1)]
theorem B10_0_2d : own_d jdk_65_method_124_code 0 B10_0_2 2 = true := by decide +kernel
theorem d10_2 : decode jdk_65_method_124_code 2 = .ok (.arraylength, 1) := by decide +kernel
theorem d10_3 : decode jdk_65_method_124_code 3 = .ok (.if_icmp .ne 11, 3) := by decide +kernel
def B10_14_15 : List (Instr × Nat) := [(.iload_n 1, 1)]
theorem B10_14_15d : own_d jdk_65_method_124_code 14 B10_14_15 15 = true := by decide +kernel
theorem d10_15 : decode jdk_65_method_124_code 15 = .ok (.newarray .long, 2) := by decide +kernel
def B10_17_23 : List (Instr × Nat) := [(.astore_n 2, 1), (.aload_n 0, 1), (.iconst 0, 1), (.aload_n 2, 1), (.iconst 0, 1), (.aload_n 0, 1)]
theorem B10_17_23d : own_d jdk_65_method_124_code 17 B10_17_23 23 = true := by decide +kernel
theorem d10_23 : decode jdk_65_method_124_code 23 = .ok (.arraylength, 1) := by decide +kernel
def B10_24_25 : List (Instr × Nat) := [(.iload_n 1, 1)]
theorem B10_24_25d : own_d jdk_65_method_124_code 24 B10_24_25 25 = true := by decide +kernel
theorem d10_25 : decode jdk_65_method_124_code 25 = .ok (.invokestatic 304, 3) := by decide +kernel
theorem pd11 : parseMethodDescriptor "(II)I" = some ⟨[.int, .int], some .int⟩ := by decide +kernel
theorem d10_28 : decode jdk_65_method_124_code 28 = .ok (.invokestatic 150, 3) := by decide +kernel
def B10_31_32 : List (Instr × Nat) := [(.aload_n 2, 1)]
theorem B10_31_32d : own_d jdk_65_method_124_code 31 B10_31_32 32 = true := by decide +kernel
theorem d10_32 : decode jdk_65_method_124_code 32 = .ok (.areturn, 1) := by decide +kernel
set_option maxRecDepth 65536 in
set_option maxHeartbeats 40000000 in
theorem c_cj64 (l : Launch) (Z : State) (a0 : Array Value) (hw : ∀ d ∈ tables_1, d.before a0 Z = true) (b : Addr) (ln : Int32) (n : Nat) (fv : Int → Int64) (h0 : Heap) (n0 : Nat) (Z0 : n0 ≤ h0.size) (A : own_A Z h0 b .long n (fun j => .long (fv j))) (hl : (n : Int) < ln.toInt ∧ ln.toInt ≤ 64) :
    own_C l Z own_y10 jdk_65_method_124_code 3 (some (.array .long)) ({ frames := 1, cells := 1, slots := 64, locals := 20 } : Room) #[(.ref b), (.int ln)] h0 n0 (fun v h => ∃ a : Addr, v = some (.ref a) ∧ Keep h0 h [a] ∧ h0.size ≤ a ∧ ∃ fv' : Int → Int64, own_A Z h a .long ln.toInt.toNat (fun j => .long (fv' j))) := by
  refine own_body pl10 Z0 (ls := #[.val (.ref b), .val (.int ln), .unset]) (fun m => by first | (simp [entryFrame, mkF, argsToLocals, Value.category]; done) | rfl) ?_
  intro p e s m below meth c T0 X0
  have hn2 := A.1
  have hN : (Int32.ofNat n).toInt = (n : Int) := own_ofNat A.1
  refine own_blk X0 B10_0_2 B10_0_2d (ls' := #[.val (.ref b), .val (.int ln), .unset]) (st' := [(.ref b), (.int ln)]) rfl ?_
  refine own_len X0 A d10_2 ?_
  refine own_icmp X0 d10_3 (pc' := 14) (by decide) (fun c3 => ?_) (fun (c3 : ¬ (¬ ln.toInt = (Int32.ofNat n).toInt)) => by exfalso; omega)
  have c3 : ¬ ln.toInt = (Int32.ofNat n).toInt := c3
  refine own_blk X0 B10_14_15 B10_14_15d (ls' := #[.val (.ref b), .val (.int ln), .unset]) (st' := [(.int ln)]) rfl ?_
  have lt_b := own_A_lt A
  refine own_newP X0 (hw _ (List.mem_of_getElem? (i := 15) rfl)) d10_15 (by omega) 64 (by omega) (by decide) (by decide) (by decide) (fun h1 T1 X1 E1 A1 => ?_)
  have n_a : n0 ≤ h0.size := X0.2.1
  have A1 : own_A Z h1 h0.size .long ln.toInt.toNat (fun j => .long ((fun _ => (0 : Int64)) j)) := A1
  generalize ez_a : h0.size = a at A1 n_a lt_b ⊢
  have A2 := own_A_ext A E1
  have ne_b_a : b ≠ a := Nat.ne_of_lt lt_b
  show own_G p e below (T1.setTop (mkF m 17 #[.val (.ref b), .val (.int ln), .unset] [(.ref a)])) _
  refine own_blk X1 B10_17_23 B10_17_23d (ls' := #[.val (.ref b), .val (.int ln), .val (.ref a)]) (st' := [(.ref b), (.int (0 : Int32)), (.ref a), (.int (0 : Int32)), (.ref b)]) rfl ?_
  refine own_len X1 A2 d10_23 ?_
  refine own_blk X1 B10_24_25 B10_24_25d (ls' := #[.val (.ref b), .val (.int ln), .val (.ref a)]) (st' := [(.int ln), (.int (Int32.ofNat n)), (.int (0 : Int32)), (.ref a), (.int (0 : Int32)), (.ref b)]) rfl ?_
  refine own_callP X1 (hw _ (List.mem_of_getElem? (i := 71) rfl)) (hw _ (List.mem_of_getElem? (i := 72) rfl)) (hw _ (List.mem_of_getElem? (i := 59) rfl)) (hw _ (List.mem_of_getElem? (i := 73) rfl)) (by decide) (c_minI l Z a0 hw (Int32.ofNat n) ln h1 n0 X1.2.1) d10_25 [(.int (Int32.ofNat n)), (.int ln)] [(.int (0 : Int32)), (.ref a), (.int (0 : Int32)), (.ref b)] rfl rfl pd11 rfl rfl (by decide) (Nat.le_of_ble_eq_true rfl) (by decide) (by decide) (fun T3 X3 => ?_)
  show own_G p e below (T3.setTop (mkF m 28 #[.val (.ref b), .val (.int ln), .val (.ref a)] [(.int (own_minI (Int32.ofNat n) ln)), (.int (0 : Int32)), (.ref a), (.int (0 : Int32)), (.ref b)])) _
  rw [show (own_minI (Int32.ofNat n) ln) = (Int32.ofNat n) from by rw [own_minI, if_neg (by omega)]]
  refine own_acopy X3 (hw _ (List.mem_of_getElem? (i := 74) rfl)) (hw _ (List.mem_of_getElem? (i := 77) rfl)) (hw _ (List.mem_of_getElem? (i := 75) rfl)) (hw _ (List.mem_of_getElem? (i := 76) rfl)) (ty := .long) A2 A1 rfl (fun _ _ _ => rfl) (fun _ _ _ => rfl) (by decide) (by decide) (by omega) (by show (0 : Int) + _ ≤ _; omega) (by show (0 : Int) + _ ≤ _; omega) n_a d10_28 rfl (by decide) (Nat.le_of_ble_eq_true rfl) (fun h4 T4 X4 K4 A4 => ?_)
  have B4 : ∃ fv' : Int → Int64, own_A Z h4 a .long ln.toInt.toNat (fun j => .long (fv' j)) := by
    refine ⟨fun j => if (0 : Int) ≤ j ∧ j < (0 : Int) + (Int32.ofNat n).toInt then fv ((0 : Int) + (j - 0)) else 0, own_A_eq A4 (fun j q0 q1 => ?_)⟩
    show Value.long (if (0 : Int) ≤ j ∧ j < (0 : Int) + (Int32.ofNat n).toInt then fv ((0 : Int) + (j - 0)) else 0) = if (0 : Int) ≤ j ∧ j < (0 : Int) + (Int32.ofNat n).toInt then Value.long (fv ((0 : Int) + (j - 0))) else Value.long 0
    split <;> rfl
  have KK : Keep h0 h4 [a] := ((Keep.refl h0 [a]).ext E1).trans K4 (fun x hx => Or.inl hx)
  show own_G p e below (T4.setTop (mkF m 31 #[.val (.ref b), .val (.int ln), .val (.ref a)] [])) _
  refine own_blk X4 B10_31_32 B10_31_32d (ls' := #[.val (.ref b), .val (.int ln), .val (.ref a)]) (st' := [(.ref a)]) rfl ?_
  exact own_retA X4 rfl d10_32 (by decide) (by decide) (⟨a, rfl, KK, Nat.le_refl _, B4⟩)
set_option maxRecDepth 65536 in
set_option maxHeartbeats 40000000 in
theorem c_cj128 (l : Launch) (Z : State) (a0 : Array Value) (hw : ∀ d ∈ tables_1, d.before a0 Z = true) (b : Addr) (ln : Int32) (n : Nat) (fv : Int → Int64) (h0 : Heap) (n0 : Nat) (Z0 : n0 ≤ h0.size) (A : own_A Z h0 b .long n (fun j => .long (fv j))) (hl : (n : Int) < ln.toInt ∧ ln.toInt ≤ 128) :
    own_C l Z own_y10 jdk_65_method_124_code 3 (some (.array .long)) ({ frames := 1, cells := 1, slots := 128, locals := 20 } : Room) #[(.ref b), (.int ln)] h0 n0 (fun v h => ∃ a : Addr, v = some (.ref a) ∧ Keep h0 h [a] ∧ h0.size ≤ a ∧ ∃ fv' : Int → Int64, own_A Z h a .long ln.toInt.toNat (fun j => .long (fv' j))) := by
  refine own_body pl10 Z0 (ls := #[.val (.ref b), .val (.int ln), .unset]) (fun m => by first | (simp [entryFrame, mkF, argsToLocals, Value.category]; done) | rfl) ?_
  intro p e s m below meth c T0 X0
  have hn2 := A.1
  have hN : (Int32.ofNat n).toInt = (n : Int) := own_ofNat A.1
  refine own_blk X0 B10_0_2 B10_0_2d (ls' := #[.val (.ref b), .val (.int ln), .unset]) (st' := [(.ref b), (.int ln)]) rfl ?_
  refine own_len X0 A d10_2 ?_
  refine own_icmp X0 d10_3 (pc' := 14) (by decide) (fun c3 => ?_) (fun (c3 : ¬ (¬ ln.toInt = (Int32.ofNat n).toInt)) => by exfalso; omega)
  have c3 : ¬ ln.toInt = (Int32.ofNat n).toInt := c3
  refine own_blk X0 B10_14_15 B10_14_15d (ls' := #[.val (.ref b), .val (.int ln), .unset]) (st' := [(.int ln)]) rfl ?_
  have lt_b := own_A_lt A
  refine own_newP X0 (hw _ (List.mem_of_getElem? (i := 15) rfl)) d10_15 (by omega) 128 (by omega) (by decide) (by decide) (by decide) (fun h1 T1 X1 E1 A1 => ?_)
  have n_a : n0 ≤ h0.size := X0.2.1
  have A1 : own_A Z h1 h0.size .long ln.toInt.toNat (fun j => .long ((fun _ => (0 : Int64)) j)) := A1
  generalize ez_a : h0.size = a at A1 n_a lt_b ⊢
  have A2 := own_A_ext A E1
  have ne_b_a : b ≠ a := Nat.ne_of_lt lt_b
  show own_G p e below (T1.setTop (mkF m 17 #[.val (.ref b), .val (.int ln), .unset] [(.ref a)])) _
  refine own_blk X1 B10_17_23 B10_17_23d (ls' := #[.val (.ref b), .val (.int ln), .val (.ref a)]) (st' := [(.ref b), (.int (0 : Int32)), (.ref a), (.int (0 : Int32)), (.ref b)]) rfl ?_
  refine own_len X1 A2 d10_23 ?_
  refine own_blk X1 B10_24_25 B10_24_25d (ls' := #[.val (.ref b), .val (.int ln), .val (.ref a)]) (st' := [(.int ln), (.int (Int32.ofNat n)), (.int (0 : Int32)), (.ref a), (.int (0 : Int32)), (.ref b)]) rfl ?_
  refine own_callP X1 (hw _ (List.mem_of_getElem? (i := 71) rfl)) (hw _ (List.mem_of_getElem? (i := 72) rfl)) (hw _ (List.mem_of_getElem? (i := 59) rfl)) (hw _ (List.mem_of_getElem? (i := 73) rfl)) (by decide) (c_minI l Z a0 hw (Int32.ofNat n) ln h1 n0 X1.2.1) d10_25 [(.int (Int32.ofNat n)), (.int ln)] [(.int (0 : Int32)), (.ref a), (.int (0 : Int32)), (.ref b)] rfl rfl pd11 rfl rfl (by decide) (Nat.le_of_ble_eq_true rfl) (by decide) (by decide) (fun T3 X3 => ?_)
  show own_G p e below (T3.setTop (mkF m 28 #[.val (.ref b), .val (.int ln), .val (.ref a)] [(.int (own_minI (Int32.ofNat n) ln)), (.int (0 : Int32)), (.ref a), (.int (0 : Int32)), (.ref b)])) _
  rw [show (own_minI (Int32.ofNat n) ln) = (Int32.ofNat n) from by rw [own_minI, if_neg (by omega)]]
  refine own_acopy X3 (hw _ (List.mem_of_getElem? (i := 74) rfl)) (hw _ (List.mem_of_getElem? (i := 77) rfl)) (hw _ (List.mem_of_getElem? (i := 75) rfl)) (hw _ (List.mem_of_getElem? (i := 76) rfl)) (ty := .long) A2 A1 rfl (fun _ _ _ => rfl) (fun _ _ _ => rfl) (by decide) (by decide) (by omega) (by show (0 : Int) + _ ≤ _; omega) (by show (0 : Int) + _ ≤ _; omega) n_a d10_28 rfl (by decide) (Nat.le_of_ble_eq_true rfl) (fun h4 T4 X4 K4 A4 => ?_)
  have B4 : ∃ fv' : Int → Int64, own_A Z h4 a .long ln.toInt.toNat (fun j => .long (fv' j)) := by
    refine ⟨fun j => if (0 : Int) ≤ j ∧ j < (0 : Int) + (Int32.ofNat n).toInt then fv ((0 : Int) + (j - 0)) else 0, own_A_eq A4 (fun j q0 q1 => ?_)⟩
    show Value.long (if (0 : Int) ≤ j ∧ j < (0 : Int) + (Int32.ofNat n).toInt then fv ((0 : Int) + (j - 0)) else 0) = if (0 : Int) ≤ j ∧ j < (0 : Int) + (Int32.ofNat n).toInt then Value.long (fv ((0 : Int) + (j - 0))) else Value.long 0
    split <;> rfl
  have KK : Keep h0 h4 [a] := ((Keep.refl h0 [a]).ext E1).trans K4 (fun x hx => Or.inl hx)
  show own_G p e below (T4.setTop (mkF m 31 #[.val (.ref b), .val (.int ln), .val (.ref a)] [])) _
  refine own_blk X4 B10_31_32 B10_31_32d (ls' := #[.val (.ref b), .val (.int ln), .val (.ref a)]) (st' := [(.ref a)]) rfl ?_
  exact own_retA X4 rfl d10_32 (by decide) (by decide) (⟨a, rfl, KK, Nat.le_refl _, B4⟩)
set_option maxRecDepth 65536 in
set_option maxHeartbeats 40000000 in
theorem c_cj382 (l : Launch) (Z : State) (a0 : Array Value) (hw : ∀ d ∈ tables_1, d.before a0 Z = true) (b : Addr) (ln : Int32) (n : Nat) (fv : Int → Int64) (h0 : Heap) (n0 : Nat) (Z0 : n0 ≤ h0.size) (A : own_A Z h0 b .long n (fun j => .long (fv j))) (hl : (n : Int) < ln.toInt ∧ ln.toInt ≤ 382) :
    own_C l Z own_y10 jdk_65_method_124_code 3 (some (.array .long)) ({ frames := 1, cells := 1, slots := 382, locals := 20 } : Room) #[(.ref b), (.int ln)] h0 n0 (fun v h => ∃ a : Addr, v = some (.ref a) ∧ Keep h0 h [a] ∧ h0.size ≤ a ∧ ∃ fv' : Int → Int64, own_A Z h a .long ln.toInt.toNat (fun j => .long (fv' j))) := by
  refine own_body pl10 Z0 (ls := #[.val (.ref b), .val (.int ln), .unset]) (fun m => by first | (simp [entryFrame, mkF, argsToLocals, Value.category]; done) | rfl) ?_
  intro p e s m below meth c T0 X0
  have hn2 := A.1
  have hN : (Int32.ofNat n).toInt = (n : Int) := own_ofNat A.1
  refine own_blk X0 B10_0_2 B10_0_2d (ls' := #[.val (.ref b), .val (.int ln), .unset]) (st' := [(.ref b), (.int ln)]) rfl ?_
  refine own_len X0 A d10_2 ?_
  refine own_icmp X0 d10_3 (pc' := 14) (by decide) (fun c3 => ?_) (fun (c3 : ¬ (¬ ln.toInt = (Int32.ofNat n).toInt)) => by exfalso; omega)
  have c3 : ¬ ln.toInt = (Int32.ofNat n).toInt := c3
  refine own_blk X0 B10_14_15 B10_14_15d (ls' := #[.val (.ref b), .val (.int ln), .unset]) (st' := [(.int ln)]) rfl ?_
  have lt_b := own_A_lt A
  refine own_newP X0 (hw _ (List.mem_of_getElem? (i := 15) rfl)) d10_15 (by omega) 382 (by omega) (by decide) (by decide) (by decide) (fun h1 T1 X1 E1 A1 => ?_)
  have n_a : n0 ≤ h0.size := X0.2.1
  have A1 : own_A Z h1 h0.size .long ln.toInt.toNat (fun j => .long ((fun _ => (0 : Int64)) j)) := A1
  generalize ez_a : h0.size = a at A1 n_a lt_b ⊢
  have A2 := own_A_ext A E1
  have ne_b_a : b ≠ a := Nat.ne_of_lt lt_b
  show own_G p e below (T1.setTop (mkF m 17 #[.val (.ref b), .val (.int ln), .unset] [(.ref a)])) _
  refine own_blk X1 B10_17_23 B10_17_23d (ls' := #[.val (.ref b), .val (.int ln), .val (.ref a)]) (st' := [(.ref b), (.int (0 : Int32)), (.ref a), (.int (0 : Int32)), (.ref b)]) rfl ?_
  refine own_len X1 A2 d10_23 ?_
  refine own_blk X1 B10_24_25 B10_24_25d (ls' := #[.val (.ref b), .val (.int ln), .val (.ref a)]) (st' := [(.int ln), (.int (Int32.ofNat n)), (.int (0 : Int32)), (.ref a), (.int (0 : Int32)), (.ref b)]) rfl ?_
  refine own_callP X1 (hw _ (List.mem_of_getElem? (i := 71) rfl)) (hw _ (List.mem_of_getElem? (i := 72) rfl)) (hw _ (List.mem_of_getElem? (i := 59) rfl)) (hw _ (List.mem_of_getElem? (i := 73) rfl)) (by decide) (c_minI l Z a0 hw (Int32.ofNat n) ln h1 n0 X1.2.1) d10_25 [(.int (Int32.ofNat n)), (.int ln)] [(.int (0 : Int32)), (.ref a), (.int (0 : Int32)), (.ref b)] rfl rfl pd11 rfl rfl (by decide) (Nat.le_of_ble_eq_true rfl) (by decide) (by decide) (fun T3 X3 => ?_)
  show own_G p e below (T3.setTop (mkF m 28 #[.val (.ref b), .val (.int ln), .val (.ref a)] [(.int (own_minI (Int32.ofNat n) ln)), (.int (0 : Int32)), (.ref a), (.int (0 : Int32)), (.ref b)])) _
  rw [show (own_minI (Int32.ofNat n) ln) = (Int32.ofNat n) from by rw [own_minI, if_neg (by omega)]]
  refine own_acopy X3 (hw _ (List.mem_of_getElem? (i := 74) rfl)) (hw _ (List.mem_of_getElem? (i := 77) rfl)) (hw _ (List.mem_of_getElem? (i := 75) rfl)) (hw _ (List.mem_of_getElem? (i := 76) rfl)) (ty := .long) A2 A1 rfl (fun _ _ _ => rfl) (fun _ _ _ => rfl) (by decide) (by decide) (by omega) (by show (0 : Int) + _ ≤ _; omega) (by show (0 : Int) + _ ≤ _; omega) n_a d10_28 rfl (by decide) (Nat.le_of_ble_eq_true rfl) (fun h4 T4 X4 K4 A4 => ?_)
  have B4 : ∃ fv' : Int → Int64, own_A Z h4 a .long ln.toInt.toNat (fun j => .long (fv' j)) := by
    refine ⟨fun j => if (0 : Int) ≤ j ∧ j < (0 : Int) + (Int32.ofNat n).toInt then fv ((0 : Int) + (j - 0)) else 0, own_A_eq A4 (fun j q0 q1 => ?_)⟩
    show Value.long (if (0 : Int) ≤ j ∧ j < (0 : Int) + (Int32.ofNat n).toInt then fv ((0 : Int) + (j - 0)) else 0) = if (0 : Int) ≤ j ∧ j < (0 : Int) + (Int32.ofNat n).toInt then Value.long (fv ((0 : Int) + (j - 0))) else Value.long 0
    split <;> rfl
  have KK : Keep h0 h4 [a] := ((Keep.refl h0 [a]).ext E1).trans K4 (fun x hx => Or.inl hx)
  show own_G p e below (T4.setTop (mkF m 31 #[.val (.ref b), .val (.int ln), .val (.ref a)] [])) _
  refine own_blk X4 B10_31_32 B10_31_32d (ls' := #[.val (.ref b), .val (.int ln), .val (.ref a)]) (st' := [(.ref a)]) rfl ?_
  exact own_retA X4 rfl d10_32 (by decide) (by decide) (⟨a, rfl, KK, Nat.le_refl _, B4⟩)
abbrev own_y12 : MethodName := ⟨"java/util/Arrays", "copyOf", "([ZI)[Z"⟩
theorem pl12 : plainFor own_y12 = true := plainFor_of_name (by first | (simp [plainName, overriddenIn]; done) | decide +kernel)
def B12_0_2 : List (Instr × Nat) := [(.iload_n 1, 1), (.aload_n 0, 1)]
theorem B12_0_2d : own_d jdk_65_method_128_code 0 B12_0_2 2 = true := by decide +kernel
theorem d12_2 : decode jdk_65_method_128_code 2 = .ok (.arraylength, 1) := by decide +kernel
theorem d12_3 : decode jdk_65_method_128_code 3 = .ok (.if_icmp .ne 11, 3) := by decide +kernel
def B12_14_15 : List (Instr × Nat) := [(.iload_n 1, 1)]
theorem B12_14_15d : own_d jdk_65_method_128_code 14 B12_14_15 15 = true := by decide +kernel
theorem d12_15 : decode jdk_65_method_128_code 15 = .ok (.newarray .boolean, 2) := by decide +kernel
def B12_17_23 : List (Instr × Nat) := [(.astore_n 2, 1), (.aload_n 0, 1), (.iconst 0, 1), (.aload_n 2, 1), (.iconst 0, 1), (.aload_n 0, 1)]
theorem B12_17_23d : own_d jdk_65_method_128_code 17 B12_17_23 23 = true := by decide +kernel
theorem d12_23 : decode jdk_65_method_128_code 23 = .ok (.arraylength, 1) := by decide +kernel
def B12_24_25 : List (Instr × Nat) := [(.iload_n 1, 1)]
theorem B12_24_25d : own_d jdk_65_method_128_code 24 B12_24_25 25 = true := by decide +kernel
theorem d12_25 : decode jdk_65_method_128_code 25 = .ok (.invokestatic 304, 3) := by decide +kernel
theorem d12_28 : decode jdk_65_method_128_code 28 = .ok (.invokestatic 150, 3) := by decide +kernel
def B12_31_32 : List (Instr × Nat) := [(.aload_n 2, 1)]
theorem B12_31_32d : own_d jdk_65_method_128_code 31 B12_31_32 32 = true := by decide +kernel
theorem d12_32 : decode jdk_65_method_128_code 32 = .ok (.areturn, 1) := by decide +kernel
set_option maxRecDepth 65536 in
set_option maxHeartbeats 40000000 in
theorem c_cz64 (l : Launch) (Z : State) (a0 : Array Value) (hw : ∀ d ∈ tables_1, d.before a0 Z = true) (b : Addr) (ln : Int32) (n : Nat) (hv : Int → Int32) (h0 : Heap) (n0 : Nat) (Z0 : n0 ≤ h0.size) (A : own_I Z h0 b .boolean n hv) (hv01 : ∀ j : Int, 0 ≤ j → j < n → hv j = 0 ∨ hv j = 1) (hl : (n : Int) < ln.toInt ∧ ln.toInt ≤ 64) :
    own_C l Z own_y12 jdk_65_method_128_code 3 (some (.array .boolean)) ({ frames := 1, cells := 1, slots := 64, locals := 20 } : Room) #[(.ref b), (.int ln)] h0 n0 (fun v h => ∃ a : Addr, v = some (.ref a) ∧ Keep h0 h [a] ∧ h0.size ≤ a ∧ own_I Z h a .boolean ln.toInt.toNat (fun j => if j < (n : Int) then hv j else 0)) := by
  refine own_body pl12 Z0 (ls := #[.val (.ref b), .val (.int ln), .unset]) (fun m => by first | (simp [entryFrame, mkF, argsToLocals, Value.category]; done) | rfl) ?_
  intro p e s m below meth c T0 X0
  have hn2 := A.1
  have hN : (Int32.ofNat n).toInt = (n : Int) := own_ofNat A.1
  refine own_blk X0 B12_0_2 B12_0_2d (ls' := #[.val (.ref b), .val (.int ln), .unset]) (st' := [(.ref b), (.int ln)]) rfl ?_
  refine own_len X0 A d12_2 ?_
  refine own_icmp X0 d12_3 (pc' := 14) (by decide) (fun c3 => ?_) (fun (c3 : ¬ (¬ ln.toInt = (Int32.ofNat n).toInt)) => by exfalso; omega)
  have c3 : ¬ ln.toInt = (Int32.ofNat n).toInt := c3
  refine own_blk X0 B12_14_15 B12_14_15d (ls' := #[.val (.ref b), .val (.int ln), .unset]) (st' := [(.int ln)]) rfl ?_
  have lt_b := own_A_lt A
  refine own_newI X0 (hw _ (List.mem_of_getElem? (i := 18) rfl)) rfl d12_15 (by omega) 64 (by omega) (by decide) (by decide) (by decide) (fun h1 T1 X1 E1 A1 => ?_)
  have n_a : n0 ≤ h0.size := X0.2.1
  have A1 : own_I Z h1 h0.size .boolean ln.toInt.toNat (fun _ => (0 : Int32)) := A1
  generalize ez_a : h0.size = a at A1 n_a lt_b ⊢
  have A2 := own_I_ext A E1
  have ne_b_a : b ≠ a := Nat.ne_of_lt lt_b
  show own_G p e below (T1.setTop (mkF m 17 #[.val (.ref b), .val (.int ln), .unset] [(.ref a)])) _
  refine own_blk X1 B12_17_23 B12_17_23d (ls' := #[.val (.ref b), .val (.int ln), .val (.ref a)]) (st' := [(.ref b), (.int (0 : Int32)), (.ref a), (.int (0 : Int32)), (.ref b)]) rfl ?_
  refine own_len X1 A2 d12_23 ?_
  refine own_blk X1 B12_24_25 B12_24_25d (ls' := #[.val (.ref b), .val (.int ln), .val (.ref a)]) (st' := [(.int ln), (.int (Int32.ofNat n)), (.int (0 : Int32)), (.ref a), (.int (0 : Int32)), (.ref b)]) rfl ?_
  refine own_callP X1 (hw _ (List.mem_of_getElem? (i := 71) rfl)) (hw _ (List.mem_of_getElem? (i := 72) rfl)) (hw _ (List.mem_of_getElem? (i := 59) rfl)) (hw _ (List.mem_of_getElem? (i := 73) rfl)) (by decide) (c_minI l Z a0 hw (Int32.ofNat n) ln h1 n0 X1.2.1) d12_25 [(.int (Int32.ofNat n)), (.int ln)] [(.int (0 : Int32)), (.ref a), (.int (0 : Int32)), (.ref b)] rfl rfl pd11 rfl rfl (by decide) (Nat.le_of_ble_eq_true rfl) (by decide) (by decide) (fun T3 X3 => ?_)
  show own_G p e below (T3.setTop (mkF m 28 #[.val (.ref b), .val (.int ln), .val (.ref a)] [(.int (own_minI (Int32.ofNat n) ln)), (.int (0 : Int32)), (.ref a), (.int (0 : Int32)), (.ref b)])) _
  rw [show (own_minI (Int32.ofNat n) ln) = (Int32.ofNat n) from by rw [own_minI, if_neg (by omega)]]
  refine own_acopy X3 (hw _ (List.mem_of_getElem? (i := 74) rfl)) (hw _ (List.mem_of_getElem? (i := 77) rfl)) (hw _ (List.mem_of_getElem? (i := 75) rfl)) (hw _ (List.mem_of_getElem? (i := 76) rfl)) (ty := .boolean) A2 A1 rfl (fun j q0 q1 => own_fitZ (hv01 j q0 q1)) (fun _ _ _ => rfl) (by decide) (by decide) (by omega) (by show (0 : Int) + _ ≤ _; omega) (by show (0 : Int) + _ ≤ _; omega) n_a d12_28 rfl (by decide) (Nat.le_of_ble_eq_true rfl) (fun h4 T4 X4 K4 A4 => ?_)
  have B4 : own_I Z h4 a .boolean ln.toInt.toNat (fun j => if j < (n : Int) then hv j else 0) := by
    refine own_A_eq A4 (fun j q0 q1 => ?_)
    show Value.int (if j < (n : Int) then hv j else 0) = if (0 : Int) ≤ j ∧ j < (0 : Int) + (Int32.ofNat n).toInt then Value.int (hv ((0 : Int) + (j - 0))) else Value.int 0
    by_cases q2 : j < (n : Int)
    · rw [if_pos q2, if_pos (by omega)]; congr 2; omega
    · rw [if_neg q2, if_neg (by omega)]
  have KK : Keep h0 h4 [a] := ((Keep.refl h0 [a]).ext E1).trans K4 (fun x hx => Or.inl hx)
  show own_G p e below (T4.setTop (mkF m 31 #[.val (.ref b), .val (.int ln), .val (.ref a)] [])) _
  refine own_blk X4 B12_31_32 B12_31_32d (ls' := #[.val (.ref b), .val (.int ln), .val (.ref a)]) (st' := [(.ref a)]) rfl ?_
  exact own_retA X4 rfl d12_32 (by decide) (by decide) (⟨a, rfl, KK, Nat.le_refl _, B4⟩)
set_option maxRecDepth 65536 in
set_option maxHeartbeats 40000000 in
theorem c_cz128 (l : Launch) (Z : State) (a0 : Array Value) (hw : ∀ d ∈ tables_1, d.before a0 Z = true) (b : Addr) (ln : Int32) (n : Nat) (hv : Int → Int32) (h0 : Heap) (n0 : Nat) (Z0 : n0 ≤ h0.size) (A : own_I Z h0 b .boolean n hv) (hv01 : ∀ j : Int, 0 ≤ j → j < n → hv j = 0 ∨ hv j = 1) (hl : (n : Int) < ln.toInt ∧ ln.toInt ≤ 128) :
    own_C l Z own_y12 jdk_65_method_128_code 3 (some (.array .boolean)) ({ frames := 1, cells := 1, slots := 128, locals := 20 } : Room) #[(.ref b), (.int ln)] h0 n0 (fun v h => ∃ a : Addr, v = some (.ref a) ∧ Keep h0 h [a] ∧ h0.size ≤ a ∧ own_I Z h a .boolean ln.toInt.toNat (fun j => if j < (n : Int) then hv j else 0)) := by
  refine own_body pl12 Z0 (ls := #[.val (.ref b), .val (.int ln), .unset]) (fun m => by first | (simp [entryFrame, mkF, argsToLocals, Value.category]; done) | rfl) ?_
  intro p e s m below meth c T0 X0
  have hn2 := A.1
  have hN : (Int32.ofNat n).toInt = (n : Int) := own_ofNat A.1
  refine own_blk X0 B12_0_2 B12_0_2d (ls' := #[.val (.ref b), .val (.int ln), .unset]) (st' := [(.ref b), (.int ln)]) rfl ?_
  refine own_len X0 A d12_2 ?_
  refine own_icmp X0 d12_3 (pc' := 14) (by decide) (fun c3 => ?_) (fun (c3 : ¬ (¬ ln.toInt = (Int32.ofNat n).toInt)) => by exfalso; omega)
  have c3 : ¬ ln.toInt = (Int32.ofNat n).toInt := c3
  refine own_blk X0 B12_14_15 B12_14_15d (ls' := #[.val (.ref b), .val (.int ln), .unset]) (st' := [(.int ln)]) rfl ?_
  have lt_b := own_A_lt A
  refine own_newI X0 (hw _ (List.mem_of_getElem? (i := 18) rfl)) rfl d12_15 (by omega) 128 (by omega) (by decide) (by decide) (by decide) (fun h1 T1 X1 E1 A1 => ?_)
  have n_a : n0 ≤ h0.size := X0.2.1
  have A1 : own_I Z h1 h0.size .boolean ln.toInt.toNat (fun _ => (0 : Int32)) := A1
  generalize ez_a : h0.size = a at A1 n_a lt_b ⊢
  have A2 := own_I_ext A E1
  have ne_b_a : b ≠ a := Nat.ne_of_lt lt_b
  show own_G p e below (T1.setTop (mkF m 17 #[.val (.ref b), .val (.int ln), .unset] [(.ref a)])) _
  refine own_blk X1 B12_17_23 B12_17_23d (ls' := #[.val (.ref b), .val (.int ln), .val (.ref a)]) (st' := [(.ref b), (.int (0 : Int32)), (.ref a), (.int (0 : Int32)), (.ref b)]) rfl ?_
  refine own_len X1 A2 d12_23 ?_
  refine own_blk X1 B12_24_25 B12_24_25d (ls' := #[.val (.ref b), .val (.int ln), .val (.ref a)]) (st' := [(.int ln), (.int (Int32.ofNat n)), (.int (0 : Int32)), (.ref a), (.int (0 : Int32)), (.ref b)]) rfl ?_
  refine own_callP X1 (hw _ (List.mem_of_getElem? (i := 71) rfl)) (hw _ (List.mem_of_getElem? (i := 72) rfl)) (hw _ (List.mem_of_getElem? (i := 59) rfl)) (hw _ (List.mem_of_getElem? (i := 73) rfl)) (by decide) (c_minI l Z a0 hw (Int32.ofNat n) ln h1 n0 X1.2.1) d12_25 [(.int (Int32.ofNat n)), (.int ln)] [(.int (0 : Int32)), (.ref a), (.int (0 : Int32)), (.ref b)] rfl rfl pd11 rfl rfl (by decide) (Nat.le_of_ble_eq_true rfl) (by decide) (by decide) (fun T3 X3 => ?_)
  show own_G p e below (T3.setTop (mkF m 28 #[.val (.ref b), .val (.int ln), .val (.ref a)] [(.int (own_minI (Int32.ofNat n) ln)), (.int (0 : Int32)), (.ref a), (.int (0 : Int32)), (.ref b)])) _
  rw [show (own_minI (Int32.ofNat n) ln) = (Int32.ofNat n) from by rw [own_minI, if_neg (by omega)]]
  refine own_acopy X3 (hw _ (List.mem_of_getElem? (i := 74) rfl)) (hw _ (List.mem_of_getElem? (i := 77) rfl)) (hw _ (List.mem_of_getElem? (i := 75) rfl)) (hw _ (List.mem_of_getElem? (i := 76) rfl)) (ty := .boolean) A2 A1 rfl (fun j q0 q1 => own_fitZ (hv01 j q0 q1)) (fun _ _ _ => rfl) (by decide) (by decide) (by omega) (by show (0 : Int) + _ ≤ _; omega) (by show (0 : Int) + _ ≤ _; omega) n_a d12_28 rfl (by decide) (Nat.le_of_ble_eq_true rfl) (fun h4 T4 X4 K4 A4 => ?_)
  have B4 : own_I Z h4 a .boolean ln.toInt.toNat (fun j => if j < (n : Int) then hv j else 0) := by
    refine own_A_eq A4 (fun j q0 q1 => ?_)
    show Value.int (if j < (n : Int) then hv j else 0) = if (0 : Int) ≤ j ∧ j < (0 : Int) + (Int32.ofNat n).toInt then Value.int (hv ((0 : Int) + (j - 0))) else Value.int 0
    by_cases q2 : j < (n : Int)
    · rw [if_pos q2, if_pos (by omega)]; congr 2; omega
    · rw [if_neg q2, if_neg (by omega)]
  have KK : Keep h0 h4 [a] := ((Keep.refl h0 [a]).ext E1).trans K4 (fun x hx => Or.inl hx)
  show own_G p e below (T4.setTop (mkF m 31 #[.val (.ref b), .val (.int ln), .val (.ref a)] [])) _
  refine own_blk X4 B12_31_32 B12_31_32d (ls' := #[.val (.ref b), .val (.int ln), .val (.ref a)]) (st' := [(.ref a)]) rfl ?_
  exact own_retA X4 rfl d12_32 (by decide) (by decide) (⟨a, rfl, KK, Nat.le_refl _, B4⟩)
set_option maxRecDepth 65536 in
set_option maxHeartbeats 40000000 in
theorem c_cz382 (l : Launch) (Z : State) (a0 : Array Value) (hw : ∀ d ∈ tables_1, d.before a0 Z = true) (b : Addr) (ln : Int32) (n : Nat) (hv : Int → Int32) (h0 : Heap) (n0 : Nat) (Z0 : n0 ≤ h0.size) (A : own_I Z h0 b .boolean n hv) (hv01 : ∀ j : Int, 0 ≤ j → j < n → hv j = 0 ∨ hv j = 1) (hl : (n : Int) < ln.toInt ∧ ln.toInt ≤ 382) :
    own_C l Z own_y12 jdk_65_method_128_code 3 (some (.array .boolean)) ({ frames := 1, cells := 1, slots := 382, locals := 20 } : Room) #[(.ref b), (.int ln)] h0 n0 (fun v h => ∃ a : Addr, v = some (.ref a) ∧ Keep h0 h [a] ∧ h0.size ≤ a ∧ own_I Z h a .boolean ln.toInt.toNat (fun j => if j < (n : Int) then hv j else 0)) := by
  refine own_body pl12 Z0 (ls := #[.val (.ref b), .val (.int ln), .unset]) (fun m => by first | (simp [entryFrame, mkF, argsToLocals, Value.category]; done) | rfl) ?_
  intro p e s m below meth c T0 X0
  have hn2 := A.1
  have hN : (Int32.ofNat n).toInt = (n : Int) := own_ofNat A.1
  refine own_blk X0 B12_0_2 B12_0_2d (ls' := #[.val (.ref b), .val (.int ln), .unset]) (st' := [(.ref b), (.int ln)]) rfl ?_
  refine own_len X0 A d12_2 ?_
  refine own_icmp X0 d12_3 (pc' := 14) (by decide) (fun c3 => ?_) (fun (c3 : ¬ (¬ ln.toInt = (Int32.ofNat n).toInt)) => by exfalso; omega)
  have c3 : ¬ ln.toInt = (Int32.ofNat n).toInt := c3
  refine own_blk X0 B12_14_15 B12_14_15d (ls' := #[.val (.ref b), .val (.int ln), .unset]) (st' := [(.int ln)]) rfl ?_
  have lt_b := own_A_lt A
  refine own_newI X0 (hw _ (List.mem_of_getElem? (i := 18) rfl)) rfl d12_15 (by omega) 382 (by omega) (by decide) (by decide) (by decide) (fun h1 T1 X1 E1 A1 => ?_)
  have n_a : n0 ≤ h0.size := X0.2.1
  have A1 : own_I Z h1 h0.size .boolean ln.toInt.toNat (fun _ => (0 : Int32)) := A1
  generalize ez_a : h0.size = a at A1 n_a lt_b ⊢
  have A2 := own_I_ext A E1
  have ne_b_a : b ≠ a := Nat.ne_of_lt lt_b
  show own_G p e below (T1.setTop (mkF m 17 #[.val (.ref b), .val (.int ln), .unset] [(.ref a)])) _
  refine own_blk X1 B12_17_23 B12_17_23d (ls' := #[.val (.ref b), .val (.int ln), .val (.ref a)]) (st' := [(.ref b), (.int (0 : Int32)), (.ref a), (.int (0 : Int32)), (.ref b)]) rfl ?_
  refine own_len X1 A2 d12_23 ?_
  refine own_blk X1 B12_24_25 B12_24_25d (ls' := #[.val (.ref b), .val (.int ln), .val (.ref a)]) (st' := [(.int ln), (.int (Int32.ofNat n)), (.int (0 : Int32)), (.ref a), (.int (0 : Int32)), (.ref b)]) rfl ?_
  refine own_callP X1 (hw _ (List.mem_of_getElem? (i := 71) rfl)) (hw _ (List.mem_of_getElem? (i := 72) rfl)) (hw _ (List.mem_of_getElem? (i := 59) rfl)) (hw _ (List.mem_of_getElem? (i := 73) rfl)) (by decide) (c_minI l Z a0 hw (Int32.ofNat n) ln h1 n0 X1.2.1) d12_25 [(.int (Int32.ofNat n)), (.int ln)] [(.int (0 : Int32)), (.ref a), (.int (0 : Int32)), (.ref b)] rfl rfl pd11 rfl rfl (by decide) (Nat.le_of_ble_eq_true rfl) (by decide) (by decide) (fun T3 X3 => ?_)
  show own_G p e below (T3.setTop (mkF m 28 #[.val (.ref b), .val (.int ln), .val (.ref a)] [(.int (own_minI (Int32.ofNat n) ln)), (.int (0 : Int32)), (.ref a), (.int (0 : Int32)), (.ref b)])) _
  rw [show (own_minI (Int32.ofNat n) ln) = (Int32.ofNat n) from by rw [own_minI, if_neg (by omega)]]
  refine own_acopy X3 (hw _ (List.mem_of_getElem? (i := 74) rfl)) (hw _ (List.mem_of_getElem? (i := 77) rfl)) (hw _ (List.mem_of_getElem? (i := 75) rfl)) (hw _ (List.mem_of_getElem? (i := 76) rfl)) (ty := .boolean) A2 A1 rfl (fun j q0 q1 => own_fitZ (hv01 j q0 q1)) (fun _ _ _ => rfl) (by decide) (by decide) (by omega) (by show (0 : Int) + _ ≤ _; omega) (by show (0 : Int) + _ ≤ _; omega) n_a d12_28 rfl (by decide) (Nat.le_of_ble_eq_true rfl) (fun h4 T4 X4 K4 A4 => ?_)
  have B4 : own_I Z h4 a .boolean ln.toInt.toNat (fun j => if j < (n : Int) then hv j else 0) := by
    refine own_A_eq A4 (fun j q0 q1 => ?_)
    show Value.int (if j < (n : Int) then hv j else 0) = if (0 : Int) ≤ j ∧ j < (0 : Int) + (Int32.ofNat n).toInt then Value.int (hv ((0 : Int) + (j - 0))) else Value.int 0
    by_cases q2 : j < (n : Int)
    · rw [if_pos q2, if_pos (by omega)]; congr 2; omega
    · rw [if_neg q2, if_neg (by omega)]
  have KK : Keep h0 h4 [a] := ((Keep.refl h0 [a]).ext E1).trans K4 (fun x hx => Or.inl hx)
  show own_G p e below (T4.setTop (mkF m 31 #[.val (.ref b), .val (.int ln), .val (.ref a)] [])) _
  refine own_blk X4 B12_31_32 B12_31_32d (ls' := #[.val (.ref b), .val (.int ln), .val (.ref a)]) (st' := [(.ref a)]) rfl ?_
  exact own_retA X4 rfl d12_32 (by decide) (by decide) (⟨a, rfl, KK, Nat.le_refl _, B4⟩)
abbrev own_y15 : MethodName := ⟨"java/util/Arrays", "copyOfRangeLong", "([JII)[J"⟩
theorem pl15 : plainFor own_y15 = true := plainFor_of_name (by first | (simp [plainName, overriddenIn]; done) | decide +kernel)
def B15_0_2 : List (Instr × Nat) := [(.iload_n 1, 1), (.iload_n 2, 1)]
theorem B15_0_2d : own_d jdk_65_method_139_code 0 B15_0_2 2 = true := by decide +kernel
theorem d15_2 : decode jdk_65_method_139_code 2 = .ok (.invokestatic 343, 3) := by decide +kernel
theorem pd16 : parseMethodDescriptor "(II)V" = some ⟨[.int, .int], none⟩ := by decide +kernel
def B15_5_10 : List (Instr × Nat) := [(.iload_n 2, 1), (.iload_n 1, 1), (.isub, 1), (.istore_n 3, 1), (.iload_n 3, 1)]
theorem B15_5_10d : own_d jdk_65_method_139_code 5 B15_5_10 10 = true := by decide +kernel
theorem d15_10 : decode jdk_65_method_139_code 10 = .ok (.newarray .long, 2) := by decide +kernel
def B15_12_20 : List (Instr × Nat) := [(.astore 4, 2), (.aload_n 0, 1), (.iload_n 1, 1), (.aload 4, 2), (.iconst 0, 1), (.aload_n 0, 1)]
theorem B15_12_20d : own_d jdk_65_method_139_code 12 B15_12_20 20 = true := by decide +kernel
theorem d15_20 : decode jdk_65_method_139_code 20 = .ok (.arraylength, 1) := by decide +kernel
def B15_21_24 : List (Instr × Nat) := [(.iload_n 1, 1), (.isub, 1), (.iload_n 3, 1)]
theorem B15_21_24d : own_d jdk_65_method_139_code 21 B15_21_24 24 = true := by decide +kernel
theorem d15_24 : decode jdk_65_method_139_code 24 = .ok (.invokestatic 304, 3) := by decide +kernel
theorem d15_27 : decode jdk_65_method_139_code 27 = .ok (.invokestatic 150, 3) := by decide +kernel
def B15_30_32 : List (Instr × Nat) := [(.aload 4, 2)]
theorem B15_30_32d : own_d jdk_65_method_139_code 30 B15_30_32 32 = true := by decide +kernel
theorem d15_32 : decode jdk_65_method_139_code 32 = .ok (.areturn, 1) := by decide +kernel
set_option maxRecDepth 65536 in
set_option maxHeartbeats 40000000 in
theorem c_rj128 (l : Launch) (Z : State) (a0 : Array Value) (hw : ∀ d ∈ tables_1, d.before a0 Z = true) (b : Addr) (f t : Int32) (n : Nat) (fv : Int → Int64) (h0 : Heap) (n0 : Nat) (Z0 : n0 ≤ h0.size) (A : own_A Z h0 b .long n (fun j => .long (fv j))) (hl : 0 < f.toInt ∧ f.toInt ≤ n ∧ (n : Int) ≤ t.toInt ∧ t.toInt - f.toInt ≤ 128) :
    own_C l Z own_y15 jdk_65_method_139_code 5 (some (.array .long)) ({ frames := 1, cells := 1, slots := 128, locals := 20 } : Room) #[(.ref b), (.int f), (.int t)] h0 n0 (fun v h => ∃ a : Addr, v = some (.ref a) ∧ Keep h0 h [a] ∧ h0.size ≤ a ∧ ∃ fv' : Int → Int64, own_A Z h a .long (t.toInt - f.toInt).toNat (fun j => .long (fv' j))) := by
  refine own_body pl15 Z0 (ls := #[.val (.ref b), .val (.int f), .val (.int t), .unset, .unset]) (fun m => by first | (simp [entryFrame, mkF, argsToLocals, Value.category]; done) | rfl) ?_
  intro p e s m below meth c T0 X0
  have hn2 := A.1
  have hN : (Int32.ofNat n).toInt = (n : Int) := own_ofNat A.1
  have hL : (t - f).toInt = t.toInt - f.toInt := Jvm.Kit.i32_sub (by omega) (by omega)
  have hM : ((Int32.ofNat n) - f).toInt = (n : Int) - f.toInt := by rw [Jvm.Kit.i32_sub (by omega) (by omega), hN]
  refine own_blk X0 B15_0_2 B15_0_2d (ls' := #[.val (.ref b), .val (.int f), .val (.int t), .unset, .unset]) (st' := [(.int t), (.int f)]) rfl ?_
  refine own_callP X0 (hw _ (List.mem_of_getElem? (i := 90) rfl)) (hw _ (List.mem_of_getElem? (i := 91) rfl)) (hw _ (List.mem_of_getElem? (i := 69) rfl)) (hw _ (List.mem_of_getElem? (i := 92) rfl)) (by decide) (c_chk l Z a0 hw f t h0 n0 X0.2.1 (by omega)) d15_2 [(.int f), (.int t)] [] rfl rfl pd16 rfl rfl (by decide) (Nat.le_of_ble_eq_true rfl) (by decide) (by decide) (fun T1 X1 => ?_)
  show own_G p e below (T1.setTop (mkF m 5 #[.val (.ref b), .val (.int f), .val (.int t), .unset, .unset] [])) _
  refine own_blk X1 B15_5_10 B15_5_10d (ls' := #[.val (.ref b), .val (.int f), .val (.int t), .val (.int (t - f)), .unset]) (st' := [(.int (t - f))]) rfl ?_
  have lt_b := own_A_lt A
  refine own_newP X1 (hw _ (List.mem_of_getElem? (i := 15) rfl)) d15_10 (by omega) 128 (by omega) (by decide) (by decide) (by decide) (fun h2 T2 X2 E2 A2 => ?_)
  have n_a : n0 ≤ h0.size := X1.2.1
  have A2 : own_A Z h2 h0.size .long (t - f).toInt.toNat (fun j => .long ((fun _ => (0 : Int64)) j)) := A2
  generalize ez_a : h0.size = a at A2 n_a lt_b ⊢
  have A3 := own_A_ext A E2
  have ne_b_a : b ≠ a := Nat.ne_of_lt lt_b
  show own_G p e below (T2.setTop (mkF m 12 #[.val (.ref b), .val (.int f), .val (.int t), .val (.int (t - f)), .unset] [(.ref a)])) _
  refine own_blk X2 B15_12_20 B15_12_20d (ls' := #[.val (.ref b), .val (.int f), .val (.int t), .val (.int (t - f)), .val (.ref a)]) (st' := [(.ref b), (.int (0 : Int32)), (.ref a), (.int f), (.ref b)]) rfl ?_
  refine own_len X2 A3 d15_20 ?_
  refine own_blk X2 B15_21_24 B15_21_24d (ls' := #[.val (.ref b), .val (.int f), .val (.int t), .val (.int (t - f)), .val (.ref a)]) (st' := [(.int (t - f)), (.int ((Int32.ofNat n) - f)), (.int (0 : Int32)), (.ref a), (.int f), (.ref b)]) rfl ?_
  refine own_callP X2 (hw _ (List.mem_of_getElem? (i := 71) rfl)) (hw _ (List.mem_of_getElem? (i := 72) rfl)) (hw _ (List.mem_of_getElem? (i := 59) rfl)) (hw _ (List.mem_of_getElem? (i := 73) rfl)) (by decide) (c_minI l Z a0 hw ((Int32.ofNat n) - f) (t - f) h2 n0 X2.2.1) d15_24 [(.int ((Int32.ofNat n) - f)), (.int (t - f))] [(.int (0 : Int32)), (.ref a), (.int f), (.ref b)] rfl rfl pd11 rfl rfl (by decide) (Nat.le_of_ble_eq_true rfl) (by decide) (by decide) (fun T4 X4 => ?_)
  show own_G p e below (T4.setTop (mkF m 27 #[.val (.ref b), .val (.int f), .val (.int t), .val (.int (t - f)), .val (.ref a)] [(.int (own_minI ((Int32.ofNat n) - f) (t - f))), (.int (0 : Int32)), (.ref a), (.int f), (.ref b)])) _
  rw [show (own_minI ((Int32.ofNat n) - f) (t - f)) = ((Int32.ofNat n) - f) from by rw [own_minI, if_neg (by omega)]]
  refine own_acopy X4 (hw _ (List.mem_of_getElem? (i := 74) rfl)) (hw _ (List.mem_of_getElem? (i := 77) rfl)) (hw _ (List.mem_of_getElem? (i := 75) rfl)) (hw _ (List.mem_of_getElem? (i := 76) rfl)) (ty := .long) A3 A2 rfl (fun _ _ _ => rfl) (fun _ _ _ => rfl) (by omega) (by decide) (by omega) (by omega) (by show (0 : Int) + _ ≤ _; omega) n_a d15_27 rfl (by decide) (Nat.le_of_ble_eq_true rfl) (fun h5 T5 X5 K5 A5 => ?_)
  have B5 : ∃ fv' : Int → Int64, own_A Z h5 a .long (t.toInt - f.toInt).toNat (fun j => .long (fv' j)) := by
    rw [← hL]
    refine ⟨fun j => if (0 : Int) ≤ j ∧ j < (0 : Int) + ((Int32.ofNat n) - f).toInt then fv (f.toInt + (j - 0)) else 0, own_A_eq A5 (fun j q0 q1 => ?_)⟩
    show Value.long (if (0 : Int) ≤ j ∧ j < (0 : Int) + ((Int32.ofNat n) - f).toInt then fv (f.toInt + (j - 0)) else 0) = if (0 : Int) ≤ j ∧ j < (0 : Int) + ((Int32.ofNat n) - f).toInt then Value.long (fv (f.toInt + (j - 0))) else Value.long 0
    split <;> rfl
  have KK : Keep h0 h5 [a] := ((Keep.refl h0 [a]).ext E2).trans K5 (fun x hx => Or.inl hx)
  show own_G p e below (T5.setTop (mkF m 30 #[.val (.ref b), .val (.int f), .val (.int t), .val (.int (t - f)), .val (.ref a)] [])) _
  refine own_blk X5 B15_30_32 B15_30_32d (ls' := #[.val (.ref b), .val (.int f), .val (.int t), .val (.int (t - f)), .val (.ref a)]) (st' := [(.ref a)]) rfl ?_
  exact own_retA X5 rfl d15_32 (by decide) (by decide) (⟨a, rfl, KK, Nat.le_refl _, B5⟩)
abbrev own_y18 : MethodName := ⟨"java/util/Arrays", "copyOfRangeBoolean", "([ZII)[Z"⟩
theorem pl18 : plainFor own_y18 = true := plainFor_of_name (by first | (simp [plainName, overriddenIn]; done) | decide +kernel)
def B18_0_2 : List (Instr × Nat) := [(.iload_n 1, 1), (.iload_n 2, 1)]
theorem B18_0_2d : own_d jdk_65_method_147_code 0 B18_0_2 2 = true := by decide +kernel
theorem d18_2 : decode jdk_65_method_147_code 2 = .ok (.invokestatic 343, 3) := by decide +kernel
def B18_5_10 : List (Instr × Nat) := [(.iload_n 2, 1), (.iload_n 1, 1), (.isub, 1), (.istore_n 3, 1), (.iload_n 3, 1)]
theorem B18_5_10d : own_d jdk_65_method_147_code 5 B18_5_10 10 = true := by decide +kernel
theorem d18_10 : decode jdk_65_method_147_code 10 = .ok (.newarray .boolean, 2) := by decide +kernel
def B18_12_20 : List (Instr × Nat) := [(.astore 4, 2), (.aload_n 0, 1), (.iload_n 1, 1), (.aload 4, 2), (.iconst 0, 1), (.aload_n 0, 1)]
theorem B18_12_20d : own_d jdk_65_method_147_code 12 B18_12_20 20 = true := by decide +kernel
theorem d18_20 : decode jdk_65_method_147_code 20 = .ok (.arraylength, 1) := by decide +kernel
def B18_21_24 : List (Instr × Nat) := [(.iload_n 1, 1), (.isub, 1), (.iload_n 3, 1)]
theorem B18_21_24d : own_d jdk_65_method_147_code 21 B18_21_24 24 = true := by decide +kernel
theorem d18_24 : decode jdk_65_method_147_code 24 = .ok (.invokestatic 304, 3) := by decide +kernel
theorem d18_27 : decode jdk_65_method_147_code 27 = .ok (.invokestatic 150, 3) := by decide +kernel
def B18_30_32 : List (Instr × Nat) := [(.aload 4, 2)]
theorem B18_30_32d : own_d jdk_65_method_147_code 30 B18_30_32 32 = true := by decide +kernel
theorem d18_32 : decode jdk_65_method_147_code 32 = .ok (.areturn, 1) := by decide +kernel
set_option maxRecDepth 65536 in
set_option maxHeartbeats 40000000 in
theorem c_rz128 (l : Launch) (Z : State) (a0 : Array Value) (hw : ∀ d ∈ tables_1, d.before a0 Z = true) (b : Addr) (f t : Int32) (n : Nat) (hv : Int → Int32) (h0 : Heap) (n0 : Nat) (Z0 : n0 ≤ h0.size) (A : own_I Z h0 b .boolean n hv) (hv01 : ∀ j : Int, 0 ≤ j → j < n → hv j = 0 ∨ hv j = 1) (hl : 0 < f.toInt ∧ f.toInt ≤ n ∧ (n : Int) ≤ t.toInt ∧ t.toInt - f.toInt ≤ 128) :
    own_C l Z own_y18 jdk_65_method_147_code 5 (some (.array .boolean)) ({ frames := 1, cells := 1, slots := 128, locals := 20 } : Room) #[(.ref b), (.int f), (.int t)] h0 n0 (fun v h => ∃ a : Addr, v = some (.ref a) ∧ Keep h0 h [a] ∧ h0.size ≤ a ∧ own_I Z h a .boolean (t.toInt - f.toInt).toNat (fun j => if j < (n : Int) - f.toInt then hv (f.toInt + j) else 0)) := by
  refine own_body pl18 Z0 (ls := #[.val (.ref b), .val (.int f), .val (.int t), .unset, .unset]) (fun m => by first | (simp [entryFrame, mkF, argsToLocals, Value.category]; done) | rfl) ?_
  intro p e s m below meth c T0 X0
  have hn2 := A.1
  have hN : (Int32.ofNat n).toInt = (n : Int) := own_ofNat A.1
  have hL : (t - f).toInt = t.toInt - f.toInt := Jvm.Kit.i32_sub (by omega) (by omega)
  have hM : ((Int32.ofNat n) - f).toInt = (n : Int) - f.toInt := by rw [Jvm.Kit.i32_sub (by omega) (by omega), hN]
  refine own_blk X0 B18_0_2 B18_0_2d (ls' := #[.val (.ref b), .val (.int f), .val (.int t), .unset, .unset]) (st' := [(.int t), (.int f)]) rfl ?_
  refine own_callP X0 (hw _ (List.mem_of_getElem? (i := 90) rfl)) (hw _ (List.mem_of_getElem? (i := 91) rfl)) (hw _ (List.mem_of_getElem? (i := 69) rfl)) (hw _ (List.mem_of_getElem? (i := 92) rfl)) (by decide) (c_chk l Z a0 hw f t h0 n0 X0.2.1 (by omega)) d18_2 [(.int f), (.int t)] [] rfl rfl pd16 rfl rfl (by decide) (Nat.le_of_ble_eq_true rfl) (by decide) (by decide) (fun T1 X1 => ?_)
  show own_G p e below (T1.setTop (mkF m 5 #[.val (.ref b), .val (.int f), .val (.int t), .unset, .unset] [])) _
  refine own_blk X1 B18_5_10 B18_5_10d (ls' := #[.val (.ref b), .val (.int f), .val (.int t), .val (.int (t - f)), .unset]) (st' := [(.int (t - f))]) rfl ?_
  have lt_b := own_A_lt A
  refine own_newI X1 (hw _ (List.mem_of_getElem? (i := 18) rfl)) rfl d18_10 (by omega) 128 (by omega) (by decide) (by decide) (by decide) (fun h2 T2 X2 E2 A2 => ?_)
  have n_a : n0 ≤ h0.size := X1.2.1
  have A2 : own_I Z h2 h0.size .boolean (t - f).toInt.toNat (fun _ => (0 : Int32)) := A2
  generalize ez_a : h0.size = a at A2 n_a lt_b ⊢
  have A3 := own_I_ext A E2
  have ne_b_a : b ≠ a := Nat.ne_of_lt lt_b
  show own_G p e below (T2.setTop (mkF m 12 #[.val (.ref b), .val (.int f), .val (.int t), .val (.int (t - f)), .unset] [(.ref a)])) _
  refine own_blk X2 B18_12_20 B18_12_20d (ls' := #[.val (.ref b), .val (.int f), .val (.int t), .val (.int (t - f)), .val (.ref a)]) (st' := [(.ref b), (.int (0 : Int32)), (.ref a), (.int f), (.ref b)]) rfl ?_
  refine own_len X2 A3 d18_20 ?_
  refine own_blk X2 B18_21_24 B18_21_24d (ls' := #[.val (.ref b), .val (.int f), .val (.int t), .val (.int (t - f)), .val (.ref a)]) (st' := [(.int (t - f)), (.int ((Int32.ofNat n) - f)), (.int (0 : Int32)), (.ref a), (.int f), (.ref b)]) rfl ?_
  refine own_callP X2 (hw _ (List.mem_of_getElem? (i := 71) rfl)) (hw _ (List.mem_of_getElem? (i := 72) rfl)) (hw _ (List.mem_of_getElem? (i := 59) rfl)) (hw _ (List.mem_of_getElem? (i := 73) rfl)) (by decide) (c_minI l Z a0 hw ((Int32.ofNat n) - f) (t - f) h2 n0 X2.2.1) d18_24 [(.int ((Int32.ofNat n) - f)), (.int (t - f))] [(.int (0 : Int32)), (.ref a), (.int f), (.ref b)] rfl rfl pd11 rfl rfl (by decide) (Nat.le_of_ble_eq_true rfl) (by decide) (by decide) (fun T4 X4 => ?_)
  show own_G p e below (T4.setTop (mkF m 27 #[.val (.ref b), .val (.int f), .val (.int t), .val (.int (t - f)), .val (.ref a)] [(.int (own_minI ((Int32.ofNat n) - f) (t - f))), (.int (0 : Int32)), (.ref a), (.int f), (.ref b)])) _
  rw [show (own_minI ((Int32.ofNat n) - f) (t - f)) = ((Int32.ofNat n) - f) from by rw [own_minI, if_neg (by omega)]]
  refine own_acopy X4 (hw _ (List.mem_of_getElem? (i := 74) rfl)) (hw _ (List.mem_of_getElem? (i := 77) rfl)) (hw _ (List.mem_of_getElem? (i := 75) rfl)) (hw _ (List.mem_of_getElem? (i := 76) rfl)) (ty := .boolean) A3 A2 rfl (fun j q0 q1 => own_fitZ (hv01 j q0 q1)) (fun _ _ _ => rfl) (by omega) (by decide) (by omega) (by omega) (by show (0 : Int) + _ ≤ _; omega) n_a d18_27 rfl (by decide) (Nat.le_of_ble_eq_true rfl) (fun h5 T5 X5 K5 A5 => ?_)
  have B5 : own_I Z h5 a .boolean (t.toInt - f.toInt).toNat (fun j => if j < (n : Int) - f.toInt then hv (f.toInt + j) else 0) := by
    rw [← hL]
    refine own_A_eq A5 (fun j q0 q1 => ?_)
    show Value.int (if j < (n : Int) - f.toInt then hv (f.toInt + j) else 0) = if (0 : Int) ≤ j ∧ j < (0 : Int) + ((Int32.ofNat n) - f).toInt then Value.int (hv (f.toInt + (j - 0))) else Value.int 0
    by_cases q2 : j < (n : Int) - f.toInt
    · rw [if_pos q2, if_pos (by omega)]; congr 2; omega
    · rw [if_neg q2, if_neg (by omega)]
  have KK : Keep h0 h5 [a] := ((Keep.refl h0 [a]).ext E2).trans K5 (fun x hx => Or.inl hx)
  show own_G p e below (T5.setTop (mkF m 30 #[.val (.ref b), .val (.int f), .val (.int t), .val (.int (t - f)), .val (.ref a)] [])) _
  refine own_blk X5 B18_30_32 B18_30_32d (ls' := #[.val (.ref b), .val (.int f), .val (.int t), .val (.int (t - f)), .val (.ref a)]) (st' := [(.ref a)]) rfl ?_
  exact own_retA X5 rfl d18_32 (by decide) (by decide) (⟨a, rfl, KK, Nat.le_refl _, B5⟩)
abbrev own_y14 : MethodName := ⟨"java/util/Arrays", "copyOfRange", "([JII)[J"⟩
theorem pl14 : plainFor own_y14 = true := plainFor_of_name (by first | (simp [plainName, overriddenIn]; done) | decide +kernel)
def B14_0_1 : List (Instr × Nat) := [(.iload_n 1, 1)]
theorem B14_0_1d : own_d jdk_65_method_138_code 0 B14_0_1 1 = true := by decide +kernel
theorem d14_1 : decode jdk_65_method_138_code 1 = .ok (.ifCond .ne 9, 3) := by decide +kernel
def B14_10_13 : List (Instr × Nat) := [(.aload_n 0, 1), (.iload_n 1, 1), (.iload_n 2, 1)]
theorem B14_10_13d : own_d jdk_65_method_138_code 10 B14_10_13 13 = true := by decide +kernel
theorem d14_13 : decode jdk_65_method_138_code 13 = .ok (.invokestatic 355, 3) := by decide +kernel
theorem pd15 : parseMethodDescriptor "([JII)[J" = some ⟨[(.array .long), .int, .int], some (.array .long)⟩ := by decide +kernel
theorem d14_16 : decode jdk_65_method_138_code 16 = .ok (.areturn, 1) := by decide +kernel
set_option maxRecDepth 65536 in
set_option maxHeartbeats 40000000 in
theorem c_Rj128 (l : Launch) (Z : State) (a0 : Array Value) (hw : ∀ d ∈ tables_1, d.before a0 Z = true) (b : Addr) (f t : Int32) (n : Nat) (fv : Int → Int64) (h0 : Heap) (n0 : Nat) (Z0 : n0 ≤ h0.size) (A : own_A Z h0 b .long n (fun j => .long (fv j))) (hl : 0 < f.toInt ∧ f.toInt ≤ n ∧ (n : Int) ≤ t.toInt ∧ t.toInt - f.toInt ≤ 128) :
    own_C l Z own_y14 jdk_65_method_138_code 3 (some (.array .long)) ({ frames := 2, cells := 1, slots := 128, locals := 40 } : Room) #[(.ref b), (.int f), (.int t)] h0 n0 (fun v h => ∃ a : Addr, v = some (.ref a) ∧ Keep h0 h [a] ∧ h0.size ≤ a ∧ ∃ fv' : Int → Int64, own_A Z h a .long (t.toInt - f.toInt).toNat (fun j => .long (fv' j))) := by
  refine own_body pl14 Z0 (ls := #[.val (.ref b), .val (.int f), .val (.int t)]) (fun m => by first | (simp [entryFrame, mkF, argsToLocals, Value.category]; done) | rfl) ?_
  intro p e s m below meth c T0 X0
  refine own_blk X0 B14_0_1 B14_0_1d (ls' := #[.val (.ref b), .val (.int f), .val (.int t)]) (st' := [(.int f)]) rfl ?_
  refine own_if X0 d14_1 (pc' := 10) (by decide) (fun c1 => ?_) (fun (c1 : ¬ (¬ f.toInt = 0)) => by exfalso; omega)
  have c1 : ¬ f.toInt = 0 := c1
  refine own_blk X0 B14_10_13 B14_10_13d (ls' := #[.val (.ref b), .val (.int f), .val (.int t)]) (st' := [(.int t), (.int f), (.ref b)]) rfl ?_
  refine own_callS X0 (hw _ (List.mem_of_getElem? (i := 87) rfl)) (hw _ (List.mem_of_getElem? (i := 88) rfl)) (hw _ (List.mem_of_getElem? (i := 69) rfl)) (hw _ (List.mem_of_getElem? (i := 89) rfl)) (by decide) (c_rj128 l Z a0 hw b f t n fv h0 n0 X0.2.1 A hl) d14_13 [(.ref b), (.int f), (.int t)] [] rfl rfl pd15 rfl rfl (by decide) (Nat.le_of_ble_eq_true rfl) (by decide) (by decide) (fun _ _ q => by obtain ⟨_, _, q2, _⟩ := q; exact Nat.le_trans X0.2.1 q2.1) (fun v1 h1 T1 X1 q1 => ?_)
  obtain ⟨a, rfl, K1, z1, A1⟩ := q1
  show own_G p e below (T1.setTop (mkF m 16 #[.val (.ref b), .val (.int f), .val (.int t)] [(.ref a)])) _
  exact own_retA X1 rfl d14_16 (by decide) (by decide) (⟨a, rfl, K1, z1, A1⟩)
abbrev own_y17 : MethodName := ⟨"java/util/Arrays", "copyOfRange", "([ZII)[Z"⟩
theorem pl17 : plainFor own_y17 = true := plainFor_of_name (by first | (simp [plainName, overriddenIn]; done) | decide +kernel)
def B17_0_1 : List (Instr × Nat) := [(.iload_n 1, 1)]
theorem B17_0_1d : own_d jdk_65_method_146_code 0 B17_0_1 1 = true := by decide +kernel
theorem d17_1 : decode jdk_65_method_146_code 1 = .ok (.ifCond .ne 9, 3) := by decide +kernel
def B17_10_13 : List (Instr × Nat) := [(.aload_n 0, 1), (.iload_n 1, 1), (.iload_n 2, 1)]
theorem B17_10_13d : own_d jdk_65_method_146_code 10 B17_10_13 13 = true := by decide +kernel
theorem d17_13 : decode jdk_65_method_146_code 13 = .ok (.invokestatic 371, 3) := by decide +kernel
theorem pd18 : parseMethodDescriptor "([ZII)[Z" = some ⟨[(.array .boolean), .int, .int], some (.array .boolean)⟩ := by decide +kernel
theorem d17_16 : decode jdk_65_method_146_code 16 = .ok (.areturn, 1) := by decide +kernel
set_option maxRecDepth 65536 in
set_option maxHeartbeats 40000000 in
theorem c_Rz128 (l : Launch) (Z : State) (a0 : Array Value) (hw : ∀ d ∈ tables_1, d.before a0 Z = true) (b : Addr) (f t : Int32) (n : Nat) (hv : Int → Int32) (h0 : Heap) (n0 : Nat) (Z0 : n0 ≤ h0.size) (A : own_I Z h0 b .boolean n hv) (hv01 : ∀ j : Int, 0 ≤ j → j < n → hv j = 0 ∨ hv j = 1) (hl : 0 < f.toInt ∧ f.toInt ≤ n ∧ (n : Int) ≤ t.toInt ∧ t.toInt - f.toInt ≤ 128) :
    own_C l Z own_y17 jdk_65_method_146_code 3 (some (.array .boolean)) ({ frames := 2, cells := 1, slots := 128, locals := 40 } : Room) #[(.ref b), (.int f), (.int t)] h0 n0 (fun v h => ∃ a : Addr, v = some (.ref a) ∧ Keep h0 h [a] ∧ h0.size ≤ a ∧ own_I Z h a .boolean (t.toInt - f.toInt).toNat (fun j => if j < (n : Int) - f.toInt then hv (f.toInt + j) else 0)) := by
  refine own_body pl17 Z0 (ls := #[.val (.ref b), .val (.int f), .val (.int t)]) (fun m => by first | (simp [entryFrame, mkF, argsToLocals, Value.category]; done) | rfl) ?_
  intro p e s m below meth c T0 X0
  refine own_blk X0 B17_0_1 B17_0_1d (ls' := #[.val (.ref b), .val (.int f), .val (.int t)]) (st' := [(.int f)]) rfl ?_
  refine own_if X0 d17_1 (pc' := 10) (by decide) (fun c1 => ?_) (fun (c1 : ¬ (¬ f.toInt = 0)) => by exfalso; omega)
  have c1 : ¬ f.toInt = 0 := c1
  refine own_blk X0 B17_10_13 B17_10_13d (ls' := #[.val (.ref b), .val (.int f), .val (.int t)]) (st' := [(.int t), (.int f), (.ref b)]) rfl ?_
  refine own_callS X0 (hw _ (List.mem_of_getElem? (i := 96) rfl)) (hw _ (List.mem_of_getElem? (i := 97) rfl)) (hw _ (List.mem_of_getElem? (i := 69) rfl)) (hw _ (List.mem_of_getElem? (i := 98) rfl)) (by decide) (c_rz128 l Z a0 hw b f t n hv h0 n0 X0.2.1 A hv01 hl) d17_13 [(.ref b), (.int f), (.int t)] [] rfl rfl pd18 rfl rfl (by decide) (Nat.le_of_ble_eq_true rfl) (by decide) (by decide) (fun _ _ q => by obtain ⟨_, _, q2, _⟩ := q; exact Nat.le_trans X0.2.1 q2.1) (fun v1 h1 T1 X1 q1 => ?_)
  obtain ⟨a, rfl, K1, z1, A1⟩ := q1
  show own_G p e below (T1.setTop (mkF m 16 #[.val (.ref b), .val (.int f), .val (.int t)] [(.ref a)])) _
  exact own_retA X1 rfl d17_16 (by decide) (by decide) (⟨a, rfl, K1, z1, A1⟩)
theorem own_put_mem {hv hvG : Int → Int32} {B K x : Int} {n n' : Nat} {mem : Int → Prop} (hBK : B ≤ K) (hKx : K ≤ x) (h01 : ∀ j : Int, 0 ≤ j → j < n → hv j = 0 ∨ hv j = 1) (hm : ∀ k : Int, K ≤ k → (mem k ↔ (k - B < n ∧ hv (k - B) = 1))) (hnn : n ≤ n') (hxn : x - B < n') (hG : ∀ j : Int, 0 ≤ j → j < n' → hvG j = if j < n then hv j else 0) :
    (∀ j : Int, 0 ≤ j → j < n' → own_u hvG (x - B) 1 j = 0 ∨ own_u hvG (x - B) 1 j = 1) ∧ ∀ k : Int, K ≤ k → ((mem k ∨ k = x) ↔ (k - B < n' ∧ own_u hvG (x - B) 1 (k - B) = 1)) := by
  refine ⟨fun j q0 q1 => ?_, fun k hk => ?_⟩
  · by_cases e : j = x - B
    · exact Or.inr (own_u_eq e)
    · rw [own_u_ne e, hG j q0 q1]
      split
      · exact h01 j q0 (by assumption)
      · exact Or.inl rfl
  · by_cases e : k = x
    · subst e
      exact ⟨fun _ => ⟨hxn, own_u_eq rfl⟩, fun _ => Or.inr rfl⟩
    · have e2 : k - B ≠ x - B := by omega
      rw [own_u_ne e2, hm k hk]
      constructor
      · rintro (⟨q1, q2⟩ | q)
        · exact ⟨by omega, by rw [hG _ (by omega) (by omega), if_pos q1]; exact q2⟩
        · exact absurd q e
      · rintro ⟨q1, q2⟩
        rw [hG _ (by omega) q1] at q2
        split at q2
        · rename_i q3; exact Or.inl ⟨q3, q2⟩
        · exact absurd q2 (by decide)
theorem own_grow {B : Int64} {a : Int32} {n cap : Nat} (hB : 1 ≤ B.toInt) (hB2 : B.toInt ≤ 1000) (ha : (n : Int) ≤ a.toInt) (ha2 : a.toInt < cap) (hn : 2 * n ≤ cap) (hc : cap ≤ 1000) :
    (n : Int) < ((own_minJ (((2147483639 : Int64) - B) + 1) (own_maxJ (a.toInt64 + 1) (2 * (Int32.ofNat n).toInt64))).toInt32).toInt ∧ ((own_minJ (((2147483639 : Int64) - B) + 1) (own_maxJ (a.toInt64 + 1) (2 * (Int32.ofNat n).toInt64))).toInt32).toInt ≤ cap ∧ a.toInt < ((own_minJ (((2147483639 : Int64) - B) + 1) (own_maxJ (a.toInt64 + 1) (2 * (Int32.ofNat n).toInt64))).toInt32).toInt := by
  have e1 : ((2147483639 : Int64) - B).toInt = 2147483639 - B.toInt := Jvm.Kit.i64_sub (by show _ ≤ (2147483639 : Int) - _; omega) (by show (2147483639 : Int) - _ < _; omega)
  have e2 : (((2147483639 : Int64) - B) + 1).toInt = 2147483640 - B.toInt := by rw [Jvm.Kit.i64_add (by rw [e1]; show _ ≤ _ + (1 : Int); omega) (by rw [e1]; show _ + (1 : Int) < _; omega), e1]; show _ + (1 : Int) = _; omega
  have e3 := Jvm.Kit.i64_of_i32 a
  have e4 : (a.toInt64 + 1).toInt = a.toInt + 1 := by rw [Jvm.Kit.i64_add (by rw [e3]; show _ ≤ _ + (1 : Int); omega) (by rw [e3]; show _ + (1 : Int) < _; omega), e3]; rfl
  have e5 : (Int32.ofNat n).toInt64.toInt = (n : Int) := by rw [Jvm.Kit.i64_of_i32, own_ofNat (by omega)]
  have e6 : (2 * (Int32.ofNat n).toInt64).toInt = 2 * (n : Int) := by rw [Jvm.Kit.i64_mul (by rw [e5]; show _ ≤ (2 : Int) * _; omega) (by rw [e5]; show (2 : Int) * _ < _; omega), e5]; rfl
  have e7 : (own_maxJ (a.toInt64 + 1) (2 * (Int32.ofNat n).toInt64)).toInt = if a.toInt + 1 < 2 * (n : Int) then 2 * (n : Int) else a.toInt + 1 := by unfold own_maxJ; rw [e4, e6]; split <;> assumption
  have e8 : (own_minJ (((2147483639 : Int64) - B) + 1) (own_maxJ (a.toInt64 + 1) (2 * (Int32.ofNat n).toInt64))).toInt = if a.toInt + 1 < 2 * (n : Int) then 2 * (n : Int) else a.toInt + 1 := by
    unfold own_minJ
    rw [e7, e2, if_pos (by split <;> omega), e7]
  rw [Jvm.Kit.i32_of_i64 (by rw [e8]; split <;> omega) (by rw [e8]; split <;> omega), e8]
  split <;> omega
abbrev own_y5 : MethodName := ⟨"lonewatch/model/InstanceValues", "put", "(JJ)V"⟩
theorem pl5 : plainFor own_y5 = true := plainFor_of_name (by first | (simp [plainName, overriddenIn]; done) | decide +kernel)
def B5_0_2 : List (Instr × Nat) := [(.lload_n 1, 1), (.aload_n 0, 1)]
theorem B5_0_2d : own_d prog_110_method_4_code 0 B5_0_2 2 = true := by decide +kernel
theorem d5_2 : decode prog_110_method_4_code 2 = .ok (.getfield 15, 3) := by decide +kernel
theorem d5_5 : decode prog_110_method_4_code 5 = .ok (.lcmp, 1) := by decide +kernel
theorem d5_6 : decode prog_110_method_4_code 6 = .ok (.ifCond .lt 11, 3) := by decide +kernel
def B5_9_10 : List (Instr × Nat) := [(.lload_n 1, 1)]
theorem B5_9_10d : own_d prog_110_method_4_code 9 B5_9_10 10 = true := by decide +kernel
theorem d5_10 : decode prog_110_method_4_code 10 = .ok (.ldc2_w 49, 3) := by decide +kernel
theorem d5_13 : decode prog_110_method_4_code 13 = .ok (.lcmp, 1) := by decide +kernel
theorem d5_14 : decode prog_110_method_4_code 14 = .ok (.ifCond .le 21, 3) := by decide +kernel
def B5_35_37 : List (Instr × Nat) := [(.lload_n 1, 1), (.aload_n 0, 1)]
theorem B5_35_37d : own_d prog_110_method_4_code 35 B5_35_37 37 = true := by decide +kernel
theorem d5_37 : decode prog_110_method_4_code 37 = .ok (.getfield 9, 3) := by decide +kernel
def B5_40_44 : List (Instr × Nat) := [(.lsub, 1), (.l2i, 1), (.istore 5, 2)]
theorem B5_40_44d : own_d prog_110_method_4_code 40 B5_40_44 44 = true := by decide +kernel
def B5_44_47 : List (Instr × Nat) := [(.iload 5, 2), (.aload_n 0, 1)]
theorem B5_44_47d : own_d prog_110_method_4_code 44 B5_44_47 47 = true := by decide +kernel
theorem d5_47 : decode prog_110_method_4_code 47 = .ok (.getfield 18, 3) := by decide +kernel
theorem d5_50 : decode prog_110_method_4_code 50 = .ok (.arraylength, 1) := by decide +kernel
theorem d5_51 : decode prog_110_method_4_code 51 = .ok (.if_icmp .lt 63, 3) := by decide +kernel
def B5_114_115 : List (Instr × Nat) := [(.aload_n 0, 1)]
theorem B5_114_115d : own_d prog_110_method_4_code 114 B5_114_115 115 = true := by decide +kernel
theorem d5_115 : decode prog_110_method_4_code 115 = .ok (.getfield 22, 3) := by decide +kernel
def B5_118_120 : List (Instr × Nat) := [(.iload 5, 2)]
theorem B5_118_120d : own_d prog_110_method_4_code 118 B5_118_120 120 = true := by decide +kernel
theorem d5_120 : decode prog_110_method_4_code 120 = .ok (.baload, 1) := by decide +kernel
theorem d5_121 : decode prog_110_method_4_code 121 = .ok (.ifCond .ne 13, 3) := by decide +kernel
def B5_134_135 : List (Instr × Nat) := [(.aload_n 0, 1)]
theorem B5_134_135d : own_d prog_110_method_4_code 134 B5_134_135 135 = true := by decide +kernel
theorem d5_135 : decode prog_110_method_4_code 135 = .ok (.getfield 18, 3) := by decide +kernel
def B5_138_141 : List (Instr × Nat) := [(.iload 5, 2), (.lload_n 3, 1)]
theorem B5_138_141d : own_d prog_110_method_4_code 138 B5_138_141 141 = true := by decide +kernel
theorem d5_141 : decode prog_110_method_4_code 141 = .ok (.lastore, 1) := by decide +kernel
def B5_142_143 : List (Instr × Nat) := [(.aload_n 0, 1)]
theorem B5_142_143d : own_d prog_110_method_4_code 142 B5_142_143 143 = true := by decide +kernel
theorem d5_143 : decode prog_110_method_4_code 143 = .ok (.getfield 22, 3) := by decide +kernel
def B5_146_149 : List (Instr × Nat) := [(.iload 5, 2), (.iconst 1, 1)]
theorem B5_146_149d : own_d prog_110_method_4_code 146 B5_146_149 149 = true := by decide +kernel
theorem d5_149 : decode prog_110_method_4_code 149 = .ok (.bastore, 1) := by decide +kernel
theorem d5_150 : decode prog_110_method_4_code 150 = .ok (.return_, 1) := by decide +kernel
def B5_124_126 : List (Instr × Nat) := [(.aload_n 0, 1), (.dup, 1)]
theorem B5_124_126d : own_d prog_110_method_4_code 124 B5_124_126 126 = true := by decide +kernel
theorem d5_126 : decode prog_110_method_4_code 126 = .ok (.getfield 80, 3) := by decide +kernel
def B5_129_131 : List (Instr × Nat) := [(.iconst 1, 1), (.iadd, 1)]
theorem B5_129_131d : own_d prog_110_method_4_code 129 B5_129_131 131 = true := by decide +kernel
theorem d5_131 : decode prog_110_method_4_code 131 = .ok (.putfield 80, 3) := by decide +kernel
theorem d5_54 : decode prog_110_method_4_code 54 = .ok (.ldc2_w 49, 3) := by decide +kernel
def B5_57_58 : List (Instr × Nat) := [(.aload_n 0, 1)]
theorem B5_57_58d : own_d prog_110_method_4_code 57 B5_57_58 58 = true := by decide +kernel
theorem d5_58 : decode prog_110_method_4_code 58 = .ok (.getfield 9, 3) := by decide +kernel
def B5_61_69 : List (Instr × Nat) := [(.lsub, 1), (.lconst 1, 1), (.ladd, 1), (.iload 5, 2), (.i2l, 1), (.lconst 1, 1), (.ladd, 1)]
theorem B5_61_69d : own_d prog_110_method_4_code 61 B5_61_69 69 = true := by decide +kernel
theorem d5_69 : decode prog_110_method_4_code 69 = .ok (.ldc2_w 60, 3) := by decide +kernel
def B5_72_73 : List (Instr × Nat) := [(.aload_n 0, 1)]
theorem B5_72_73d : own_d prog_110_method_4_code 72 B5_72_73 73 = true := by decide +kernel
theorem d5_73 : decode prog_110_method_4_code 73 = .ok (.getfield 18, 3) := by decide +kernel
theorem d5_76 : decode prog_110_method_4_code 76 = .ok (.arraylength, 1) := by decide +kernel
def B5_77_79 : List (Instr × Nat) := [(.i2l, 1), (.lmul, 1)]
theorem B5_77_79d : own_d prog_110_method_4_code 77 B5_77_79 79 = true := by decide +kernel
theorem d5_79 : decode prog_110_method_4_code 79 = .ok (.invokestatic 62, 3) := by decide +kernel
theorem pd9 : parseMethodDescriptor "(JJ)J" = some ⟨[.long, .long], some .long⟩ := by decide +kernel
theorem d5_82 : decode prog_110_method_4_code 82 = .ok (.invokestatic 68, 3) := by decide +kernel
theorem pd8 : parseMethodDescriptor "(JJ)J" = some ⟨[.long, .long], some .long⟩ := by decide +kernel
def B5_85_88 : List (Instr × Nat) := [(.l2i, 1), (.istore 6, 2)]
theorem B5_85_88d : own_d prog_110_method_4_code 85 B5_85_88 88 = true := by decide +kernel
def B5_88_90 : List (Instr × Nat) := [(.aload_n 0, 1), (.aload_n 0, 1)]
theorem B5_88_90d : own_d prog_110_method_4_code 88 B5_88_90 90 = true := by decide +kernel
theorem d5_90 : decode prog_110_method_4_code 90 = .ok (.getfield 18, 3) := by decide +kernel
def B5_93_95 : List (Instr × Nat) := [(.iload 6, 2)]
theorem B5_93_95d : own_d prog_110_method_4_code 93 B5_93_95 95 = true := by decide +kernel
theorem d5_95 : decode prog_110_method_4_code 95 = .ok (.invokestatic 71, 3) := by decide +kernel
theorem pd10 : parseMethodDescriptor "([JI)[J" = some ⟨[(.array .long), .int], some (.array .long)⟩ := by decide +kernel
theorem d5_98 : decode prog_110_method_4_code 98 = .ok (.putfield 18, 3) := by decide +kernel
def B5_101_103 : List (Instr × Nat) := [(.aload_n 0, 1), (.aload_n 0, 1)]
theorem B5_101_103d : own_d prog_110_method_4_code 101 B5_101_103 103 = true := by decide +kernel
theorem d5_103 : decode prog_110_method_4_code 103 = .ok (.getfield 22, 3) := by decide +kernel
def B5_106_108 : List (Instr × Nat) := [(.iload 6, 2)]
theorem B5_106_108d : own_d prog_110_method_4_code 106 B5_106_108 108 = true := by decide +kernel
theorem d5_108 : decode prog_110_method_4_code 108 = .ok (.invokestatic 77, 3) := by decide +kernel
theorem pd12 : parseMethodDescriptor "([ZI)[Z" = some ⟨[(.array .boolean), .int], some (.array .boolean)⟩ := by decide +kernel
theorem d5_111 : decode prog_110_method_4_code 111 = .ok (.putfield 22, 3) := by decide +kernel
set_option maxRecDepth 65536 in
set_option maxHeartbeats 40000000 in
theorem c_put64 (l : Launch) (Z : State) (a0 : Array Value) (hw : ∀ d ∈ tables_1, d.before a0 Z = true) (v : Addr) (xx vv B K : Int64) (n : Nat) (mem : Int → Prop) (h0 : Heap) (n0 : Nat) (Z0 : n0 ≤ h0.size) (HS : own_S Z h0 n0 v B K n mem) (hB : 1 ≤ B.toInt) (hBK : B.toInt ≤ K.toInt) (hK : K.toInt ≤ xx.toInt) (hx : xx.toInt - B.toInt < 64) (hx2 : xx.toInt ≤ 1000) (hn : 2 * n ≤ 64) (hn16 : 16 ≤ n) :
    own_C l Z own_y5 prog_110_method_4_code 7 none ({ frames := 2, cells := 2, slots := 128, locals := 44 } : Room) #[(.ref v), (.long xx), (.long vv)] h0 n0 (fun v' h => v' = none ∧ n0 ≤ h.size ∧ ∃ n' : Nat, 16 ≤ n' ∧ n' ≤ 64 ∧ own_S Z h n0 v B K n' (fun k => mem k ∨ k = xx.toInt)) := by
  refine own_body pl5 Z0 (ls := #[.val (.ref v), .val (.long xx), .second, .val (.long vv), .second, .unset, .unset]) (fun m => by first | (simp [entryFrame, mkF, argsToLocals, Value.category]; done) | rfl) ?_
  intro p e s m below meth c T0 X0
  obtain ⟨va, ha, sz, fv, hv, ⟨E, Pb, Pk, Pv, Ph, Ps, Av, Ah, n_v, n_va, n_ha, ne_v_va, ne_v_ha, ne_va_ha⟩, hv01, hmem⟩ := HS
  have hn2 := Av.1
  have hN : (Int32.ofNat n).toInt = (n : Int) := own_ofNat Av.1
  refine own_blk X0 B5_0_2 B5_0_2d (ls' := #[.val (.ref v), .val (.long xx), .second, .val (.long vv), .second, .unset, .unset]) (st' := [(.ref v), (.long xx)]) rfl ?_
  refine own_getF X0 (hw _ (List.mem_of_getElem? (i := 13) rfl)) Pk d5_2 (fun T1 X1 => ?_)
  refine own_lif X1 d5_5 d5_6 (pc' := 17) (by decide) (fun (c5 : xx.toInt < K.toInt) => by exfalso; omega) (fun c5 => ?_)
  have c5 : ¬ (xx.toInt < K.toInt) := c5
  refine own_blk X1 B5_9_10 B5_9_10d (ls' := #[.val (.ref v), .val (.long xx), .second, .val (.long vv), .second, .unset, .unset]) (st' := [(.long xx)]) rfl ?_
  refine own_ldc2 X1 (hw _ (List.mem_of_getElem? (i := 43) rfl)) d5_10 ?_
  refine own_lif X1 d5_13 d5_14 (pc' := 35) (by decide) (fun c13 => ?_) (fun (c13 : ¬ (xx.toInt ≤ 2147483639)) => by exfalso; omega)
  have c13 : xx.toInt ≤ 2147483639 := c13
  refine own_blk X1 B5_35_37 B5_35_37d (ls' := #[.val (.ref v), .val (.long xx), .second, .val (.long vv), .second, .unset, .unset]) (st' := [(.ref v), (.long xx)]) rfl ?_
  refine own_getF X1 (hw _ (List.mem_of_getElem? (i := 11) rfl)) Pb d5_37 (fun T2 X2 => ?_)
  refine own_blk X2 B5_40_44 B5_40_44d (ls' := #[.val (.ref v), .val (.long xx), .second, .val (.long vv), .second, .val (.int ((xx - B).toInt32)), .unset]) (st' := []) rfl ?_
  generalize eat1 : ((xx - B).toInt32) = at1
  have hat : at1.toInt = xx.toInt - B.toInt := by
    have e1 : (xx - B).toInt = xx.toInt - B.toInt := Jvm.Kit.i64_sub (by omega) (by omega)
    rw [← eat1, Jvm.Kit.i32_of_i64 (by omega) (by omega), e1]
  refine own_blk X2 B5_44_47 B5_44_47d (ls' := #[.val (.ref v), .val (.long xx), .second, .val (.long vv), .second, .val (.int at1), .unset]) (st' := [(.ref v), (.int at1)]) rfl ?_
  refine own_getF X2 (hw _ (List.mem_of_getElem? (i := 16) rfl)) Pv d5_47 (fun T3 X3 => ?_)
  refine own_len X3 Av d5_50 ?_
  refine own_icmp X3 d5_51 (pc' := 114) (by decide) (fun c51 => ?_) (fun c51 => ?_)
  · have c51 : at1.toInt < (Int32.ofNat n).toInt := c51
    refine own_blk X3 B5_114_115 B5_114_115d (ls' := #[.val (.ref v), .val (.long xx), .second, .val (.long vv), .second, .val (.int at1), .unset]) (st' := [(.ref v)]) rfl ?_
    refine own_getF X3 (hw _ (List.mem_of_getElem? (i := 19) rfl)) Ph d5_115 (fun T4 X4 => ?_)
    refine own_blk X4 B5_118_120 B5_118_120d (ls' := #[.val (.ref v), .val (.long xx), .second, .val (.long vv), .second, .val (.int at1), .unset]) (st' := [(.int at1), (.ref ha)]) rfl ?_
    refine own_zald X4 Ah d5_120 (by omega) (by omega) ?_
    show own_G p e below (T4.setTop (mkF m 121 #[.val (.ref v), .val (.long xx), .second, .val (.long vv), .second, .val (.int at1), .unset] [(.int (hv at1.toInt))])) _
    refine own_if X4 d5_121 (pc' := 134) (by decide) (fun c121 => ?_) (fun c121 => ?_)
    · have c121 : ¬ (hv at1.toInt).toInt = 0 := c121
      refine own_blk X4 B5_134_135 B5_134_135d (ls' := #[.val (.ref v), .val (.long xx), .second, .val (.long vv), .second, .val (.int at1), .unset]) (st' := [(.ref v)]) rfl ?_
      refine own_getF X4 (hw _ (List.mem_of_getElem? (i := 16) rfl)) Pv d5_135 (fun T5 X5 => ?_)
      refine own_blk X5 B5_138_141 B5_138_141d (ls' := #[.val (.ref v), .val (.long xx), .second, .val (.long vv), .second, .val (.int at1), .unset]) (st' := [(.long vv), (.int at1), (.ref va)]) rfl ?_
      refine own_jast X5 Av n_va d5_141 (by omega) (by omega) (fun h6 T6 X6 A6 W6 => ?_)
      have A6 : own_A Z h6 va .long n (fun j => .long (own_u fv at1.toInt vv j)) := own_A_eq A6 (fun j _ _ => by simp only [own_u]; split <;> rfl)
      have A6_ha := own_I_other Ah W6 (by first | exact ne_ha_va | exact fun q => ne_va_ha q.symm)
      have F6_v_base := Fld.other W6 Pb (Or.inl (by first | exact ne_v_va | exact fun q => ne_va_v q.symm))
      have F6_v_kept := Fld.other W6 Pk (Or.inl (by first | exact ne_v_va | exact fun q => ne_va_v q.symm))
      have F6_v_values := Fld.other W6 Pv (Or.inl (by first | exact ne_v_va | exact fun q => ne_va_v q.symm))
      have F6_v_held := Fld.other W6 Ph (Or.inl (by first | exact ne_v_va | exact fun q => ne_va_v q.symm))
      have F6_v_size := Fld.other W6 Ps (Or.inl (by first | exact ne_v_va | exact fun q => ne_va_v q.symm))
      have Q6_v := Exa.wr W6 E
      refine own_blk X6 B5_142_143 B5_142_143d (ls' := #[.val (.ref v), .val (.long xx), .second, .val (.long vv), .second, .val (.int at1), .unset]) (st' := [(.ref v)]) rfl ?_
      refine own_getF X6 (hw _ (List.mem_of_getElem? (i := 19) rfl)) F6_v_held d5_143 (fun T7 X7 => ?_)
      refine own_blk X7 B5_146_149 B5_146_149d (ls' := #[.val (.ref v), .val (.long xx), .second, .val (.long vv), .second, .val (.int at1), .unset]) (st' := [(.int (1 : Int32)), (.int at1), (.ref ha)]) rfl ?_
      refine own_zast X7 A6_ha n_ha d5_149 (by omega) (by omega) (by decide) (fun h8 T8 X8 A8 W8 => ?_)
      have A8 : own_I Z h8 ha .boolean n (own_u hv (xx.toInt - B.toInt) (1 : Int32)) := by rw [← hat]; exact A8
      generalize eg8 : own_u hv (xx.toInt - B.toInt) (1 : Int32) = g8 at A8
      have A8_va := own_A_other A6 W8 (by first | exact ne_va_ha | exact fun q => ne_ha_va q.symm)
      have F8_v_base := Fld.other W8 F6_v_base (Or.inl (by first | exact ne_v_ha | exact fun q => ne_ha_v q.symm))
      have F8_v_kept := Fld.other W8 F6_v_kept (Or.inl (by first | exact ne_v_ha | exact fun q => ne_ha_v q.symm))
      have F8_v_values := Fld.other W8 F6_v_values (Or.inl (by first | exact ne_v_ha | exact fun q => ne_ha_v q.symm))
      have F8_v_held := Fld.other W8 F6_v_held (Or.inl (by first | exact ne_v_ha | exact fun q => ne_ha_v q.symm))
      have F8_v_size := Fld.other W8 F6_v_size (Or.inl (by first | exact ne_v_ha | exact fun q => ne_ha_v q.symm))
      have Q8_v := Exa.wr W8 Q6_v
      exact own_retV X8 d5_150 (by decide) (by decide) (⟨rfl, X8.2.1, n, by omega, by omega, va, ha, _, _, g8, ⟨Q8_v, F8_v_base, F8_v_kept, F8_v_values, F8_v_held, F8_v_size, A8_va, A8, n_v, n_va, n_ha, (by first | exact ne_v_va | exact fun q => ne_va_v q.symm), (by first | exact ne_v_ha | exact fun q => ne_ha_v q.symm), (by first | exact ne_va_ha | exact fun q => ne_ha_va q.symm)⟩, by rw [← eg8]; exact (own_put_mem hBK hK hv01 hmem (by omega) (by omega) (hvG := hv) (n' := n) (fun j q0 q1 => (if_pos q1).symm)).1, by rw [← eg8]; exact (own_put_mem hBK hK hv01 hmem (by omega) (by omega) (hvG := hv) (n' := n) (fun j q0 q1 => (if_pos q1).symm)).2⟩)
    · have c121 : ¬ (¬ (hv at1.toInt).toInt = 0) := c121
      refine own_blk X4 B5_124_126 B5_124_126d (ls' := #[.val (.ref v), .val (.long xx), .second, .val (.long vv), .second, .val (.int at1), .unset]) (st' := [(.ref v), (.ref v)]) rfl ?_
      refine own_getF X4 (hw _ (List.mem_of_getElem? (i := 44) rfl)) Ps d5_126 (fun T9 X9 => ?_)
      refine own_blk X9 B5_129_131 B5_129_131d (ls' := #[.val (.ref v), .val (.long xx), .second, .val (.long vv), .second, .val (.int at1), .unset]) (st' := [(.int (sz + (1 : Int32))), (.ref v)]) rfl ?_
      refine own_putF X9 (hw _ (List.mem_of_getElem? (i := 44) rfl)) Ps E (Or.inl (hw _ (List.mem_of_getElem? (i := 45) rfl))) (hw _ (List.mem_of_getElem? (i := 3) rfl)) (ty := .int) (by decide) rfl rfl n_v d5_131 (fun h10 T10 X10 W10 => ?_)
      have G10_v_base := Fld.other W10 Pb (Or.inr (slot_ne (Or.inl (hw _ (List.mem_of_getElem? (i := 12) rfl))) (Or.inl (hw _ (List.mem_of_getElem? (i := 45) rfl))) (by decide) (t := .long) (t' := .int) (by decide) (by decide)))
      have G10_v_kept := Fld.other W10 Pk (Or.inr (slot_ne (Or.inl (hw _ (List.mem_of_getElem? (i := 14) rfl))) (Or.inl (hw _ (List.mem_of_getElem? (i := 45) rfl))) (by decide) (t := .long) (t' := .int) (by decide) (by decide)))
      have G10_v_values := Fld.other W10 Pv (Or.inr (slot_ne (Or.inl (hw _ (List.mem_of_getElem? (i := 17) rfl))) (Or.inl (hw _ (List.mem_of_getElem? (i := 45) rfl))) (by decide) (t := (.array .long)) (t' := .int) (by decide) (by decide)))
      have G10_v_held := Fld.other W10 Ph (Or.inr (slot_ne (Or.inl (hw _ (List.mem_of_getElem? (i := 20) rfl))) (Or.inl (hw _ (List.mem_of_getElem? (i := 45) rfl))) (by decide) (t := (.array .boolean)) (t' := .int) (by decide) (by decide)))
      have G10_v_size := Fld.same W10 Ps
      have Q10_v := Exa.wr W10 E
      have A10_va := own_A_other Av W10 (by first | exact ne_va_v | exact fun q => ne_v_va q.symm)
      have A10_ha := own_I_other Ah W10 (by first | exact ne_ha_v | exact fun q => ne_v_ha q.symm)
      show own_G p e below (T10.setTop (mkF m 134 #[.val (.ref v), .val (.long xx), .second, .val (.long vv), .second, .val (.int at1), .unset] [])) _
      refine own_blk X10 B5_134_135 B5_134_135d (ls' := #[.val (.ref v), .val (.long xx), .second, .val (.long vv), .second, .val (.int at1), .unset]) (st' := [(.ref v)]) rfl ?_
      refine own_getF X10 (hw _ (List.mem_of_getElem? (i := 16) rfl)) G10_v_values d5_135 (fun T11 X11 => ?_)
      refine own_blk X11 B5_138_141 B5_138_141d (ls' := #[.val (.ref v), .val (.long xx), .second, .val (.long vv), .second, .val (.int at1), .unset]) (st' := [(.long vv), (.int at1), (.ref va)]) rfl ?_
      refine own_jast X11 A10_va n_va d5_141 (by omega) (by omega) (fun h12 T12 X12 A12 W12 => ?_)
      have A12 : own_A Z h12 va .long n (fun j => .long (own_u fv at1.toInt vv j)) := own_A_eq A12 (fun j _ _ => by simp only [own_u]; split <;> rfl)
      have A12_ha := own_I_other A10_ha W12 (by first | exact ne_ha_va | exact fun q => ne_va_ha q.symm)
      have F12_v_base := Fld.other W12 G10_v_base (Or.inl (by first | exact ne_v_va | exact fun q => ne_va_v q.symm))
      have F12_v_kept := Fld.other W12 G10_v_kept (Or.inl (by first | exact ne_v_va | exact fun q => ne_va_v q.symm))
      have F12_v_values := Fld.other W12 G10_v_values (Or.inl (by first | exact ne_v_va | exact fun q => ne_va_v q.symm))
      have F12_v_held := Fld.other W12 G10_v_held (Or.inl (by first | exact ne_v_va | exact fun q => ne_va_v q.symm))
      have F12_v_size := Fld.other W12 G10_v_size (Or.inl (by first | exact ne_v_va | exact fun q => ne_va_v q.symm))
      have Q12_v := Exa.wr W12 Q10_v
      refine own_blk X12 B5_142_143 B5_142_143d (ls' := #[.val (.ref v), .val (.long xx), .second, .val (.long vv), .second, .val (.int at1), .unset]) (st' := [(.ref v)]) rfl ?_
      refine own_getF X12 (hw _ (List.mem_of_getElem? (i := 19) rfl)) F12_v_held d5_143 (fun T13 X13 => ?_)
      refine own_blk X13 B5_146_149 B5_146_149d (ls' := #[.val (.ref v), .val (.long xx), .second, .val (.long vv), .second, .val (.int at1), .unset]) (st' := [(.int (1 : Int32)), (.int at1), (.ref ha)]) rfl ?_
      refine own_zast X13 A12_ha n_ha d5_149 (by omega) (by omega) (by decide) (fun h14 T14 X14 A14 W14 => ?_)
      have A14 : own_I Z h14 ha .boolean n (own_u hv (xx.toInt - B.toInt) (1 : Int32)) := by rw [← hat]; exact A14
      generalize eg14 : own_u hv (xx.toInt - B.toInt) (1 : Int32) = g14 at A14
      have A14_va := own_A_other A12 W14 (by first | exact ne_va_ha | exact fun q => ne_ha_va q.symm)
      have F14_v_base := Fld.other W14 F12_v_base (Or.inl (by first | exact ne_v_ha | exact fun q => ne_ha_v q.symm))
      have F14_v_kept := Fld.other W14 F12_v_kept (Or.inl (by first | exact ne_v_ha | exact fun q => ne_ha_v q.symm))
      have F14_v_values := Fld.other W14 F12_v_values (Or.inl (by first | exact ne_v_ha | exact fun q => ne_ha_v q.symm))
      have F14_v_held := Fld.other W14 F12_v_held (Or.inl (by first | exact ne_v_ha | exact fun q => ne_ha_v q.symm))
      have F14_v_size := Fld.other W14 F12_v_size (Or.inl (by first | exact ne_v_ha | exact fun q => ne_ha_v q.symm))
      have Q14_v := Exa.wr W14 Q12_v
      exact own_retV X14 d5_150 (by decide) (by decide) (⟨rfl, X14.2.1, n, by omega, by omega, va, ha, _, _, g14, ⟨Q14_v, F14_v_base, F14_v_kept, F14_v_values, F14_v_held, F14_v_size, A14_va, A14, n_v, n_va, n_ha, (by first | exact ne_v_va | exact fun q => ne_va_v q.symm), (by first | exact ne_v_ha | exact fun q => ne_ha_v q.symm), (by first | exact ne_va_ha | exact fun q => ne_ha_va q.symm)⟩, by rw [← eg14]; exact (own_put_mem hBK hK hv01 hmem (by omega) (by omega) (hvG := hv) (n' := n) (fun j q0 q1 => (if_pos q1).symm)).1, by rw [← eg14]; exact (own_put_mem hBK hK hv01 hmem (by omega) (by omega) (hvG := hv) (n' := n) (fun j q0 q1 => (if_pos q1).symm)).2⟩)
  · have c51 : ¬ (at1.toInt < (Int32.ofNat n).toInt) := c51
    refine own_ldc2 X3 (hw _ (List.mem_of_getElem? (i := 43) rfl)) d5_54 ?_
    refine own_blk X3 B5_57_58 B5_57_58d (ls' := #[.val (.ref v), .val (.long xx), .second, .val (.long vv), .second, .val (.int at1), .unset]) (st' := [(.ref v), (.long (2147483639 : Int64))]) rfl ?_
    refine own_getF X3 (hw _ (List.mem_of_getElem? (i := 11) rfl)) Pb d5_58 (fun T15 X15 => ?_)
    refine own_blk X15 B5_61_69 B5_61_69d (ls' := #[.val (.ref v), .val (.long xx), .second, .val (.long vv), .second, .val (.int at1), .unset]) (st' := [(.long ((at1.toInt64) + (1 : Int64))), (.long (((2147483639 : Int64) - B) + (1 : Int64)))]) rfl ?_
    refine own_ldc2 X15 (hw _ (List.mem_of_getElem? (i := 66) rfl)) d5_69 ?_
    refine own_blk X15 B5_72_73 B5_72_73d (ls' := #[.val (.ref v), .val (.long xx), .second, .val (.long vv), .second, .val (.int at1), .unset]) (st' := [(.ref v), (.long (2 : Int64)), (.long ((at1.toInt64) + (1 : Int64))), (.long (((2147483639 : Int64) - B) + (1 : Int64)))]) rfl ?_
    refine own_getF X15 (hw _ (List.mem_of_getElem? (i := 16) rfl)) Pv d5_73 (fun T16 X16 => ?_)
    refine own_len X16 Av d5_76 ?_
    refine own_blk X16 B5_77_79 B5_77_79d (ls' := #[.val (.ref v), .val (.long xx), .second, .val (.long vv), .second, .val (.int at1), .unset]) (st' := [(.long ((2 : Int64) * ((Int32.ofNat n).toInt64))), (.long ((at1.toInt64) + (1 : Int64))), (.long (((2147483639 : Int64) - B) + (1 : Int64)))]) rfl ?_
    refine own_callP X16 (hw _ (List.mem_of_getElem? (i := 61) rfl)) (hw _ (List.mem_of_getElem? (i := 62) rfl)) (hw _ (List.mem_of_getElem? (i := 59) rfl)) (hw _ (List.mem_of_getElem? (i := 63) rfl)) (by decide) (c_maxJ l Z a0 hw ((at1.toInt64) + (1 : Int64)) ((2 : Int64) * ((Int32.ofNat n).toInt64)) h0 n0 X16.2.1) d5_79 [(.long ((at1.toInt64) + (1 : Int64))), (.long ((2 : Int64) * ((Int32.ofNat n).toInt64)))] [(.long (((2147483639 : Int64) - B) + (1 : Int64)))] rfl rfl pd9 rfl rfl (by decide) (Nat.le_of_ble_eq_true rfl) (by decide) (by decide) (fun T17 X17 => ?_)
    show own_G p e below (T17.setTop (mkF m 82 #[.val (.ref v), .val (.long xx), .second, .val (.long vv), .second, .val (.int at1), .unset] [(.long (own_maxJ ((at1.toInt64) + (1 : Int64)) ((2 : Int64) * ((Int32.ofNat n).toInt64)))), (.long (((2147483639 : Int64) - B) + (1 : Int64)))])) _
    refine own_callP X17 (hw _ (List.mem_of_getElem? (i := 57) rfl)) (hw _ (List.mem_of_getElem? (i := 58) rfl)) (hw _ (List.mem_of_getElem? (i := 59) rfl)) (hw _ (List.mem_of_getElem? (i := 60) rfl)) (by decide) (c_minJ l Z a0 hw (((2147483639 : Int64) - B) + (1 : Int64)) (own_maxJ ((at1.toInt64) + (1 : Int64)) ((2 : Int64) * ((Int32.ofNat n).toInt64))) h0 n0 X17.2.1) d5_82 [(.long (((2147483639 : Int64) - B) + (1 : Int64))), (.long (own_maxJ ((at1.toInt64) + (1 : Int64)) ((2 : Int64) * ((Int32.ofNat n).toInt64))))] [] rfl rfl pd8 rfl rfl (by decide) (Nat.le_of_ble_eq_true rfl) (by decide) (by decide) (fun T18 X18 => ?_)
    show own_G p e below (T18.setTop (mkF m 85 #[.val (.ref v), .val (.long xx), .second, .val (.long vv), .second, .val (.int at1), .unset] [(.long (own_minJ (((2147483639 : Int64) - B) + (1 : Int64)) (own_maxJ ((at1.toInt64) + (1 : Int64)) ((2 : Int64) * ((Int32.ofNat n).toInt64)))))])) _
    refine own_blk X18 B5_85_88 B5_85_88d (ls' := #[.val (.ref v), .val (.long xx), .second, .val (.long vv), .second, .val (.int at1), .val (.int ((own_minJ (((2147483639 : Int64) - B) + (1 : Int64)) (own_maxJ ((at1.toInt64) + (1 : Int64)) ((2 : Int64) * ((Int32.ofNat n).toInt64)))).toInt32))]) (st' := []) rfl ?_
    generalize eln : ((own_minJ (((2147483639 : Int64) - B) + (1 : Int64)) (own_maxJ ((at1.toInt64) + (1 : Int64)) ((2 : Int64) * ((Int32.ofNat n).toInt64)))).toInt32) = ln
    have hln := own_grow (B := B) (a := at1) (n := n) (cap := 64) hB (by omega) (by omega) (by omega) hn (by decide)
    rw [eln] at hln
    refine own_blk X18 B5_88_90 B5_88_90d (ls' := #[.val (.ref v), .val (.long xx), .second, .val (.long vv), .second, .val (.int at1), .val (.int ln)]) (st' := [(.ref v), (.ref v)]) rfl ?_
    refine own_getF X18 (hw _ (List.mem_of_getElem? (i := 16) rfl)) Pv d5_90 (fun T19 X19 => ?_)
    refine own_blk X19 B5_93_95 B5_93_95d (ls' := #[.val (.ref v), .val (.long xx), .second, .val (.long vv), .second, .val (.int at1), .val (.int ln)]) (st' := [(.int ln), (.ref va), (.ref v)]) rfl ?_
    have lt_va := own_A_lt Av
    have lt_ha := own_A_lt Ah
    have lt_v := Exa.lt E
    refine own_callS X19 (hw _ (List.mem_of_getElem? (i := 67) rfl)) (hw _ (List.mem_of_getElem? (i := 68) rfl)) (hw _ (List.mem_of_getElem? (i := 69) rfl)) (hw _ (List.mem_of_getElem? (i := 70) rfl)) (by decide) (c_cj64 l Z a0 hw va ln n fv h0 n0 X19.2.1 Av ⟨hln.1, hln.2.1⟩) d5_95 [(.ref va), (.int ln)] [(.ref v)] rfl rfl pd10 rfl rfl (by decide) (Nat.le_of_ble_eq_true rfl) (by decide) (by decide) (fun _ _ q => by obtain ⟨_, _, q2, _⟩ := q; exact Nat.le_trans X19.2.1 q2.1) (fun v20 h20 T20 X20 q20 => ?_)
    obtain ⟨na, rfl, K20, z20, fv20, A20⟩ := q20
    show own_G p e below (T20.setTop (mkF m 98 #[.val (.ref v), .val (.long xx), .second, .val (.long vv), .second, .val (.int at1), .val (.int ln)] [(.ref na), (.ref v)])) _
    have n_na : n0 ≤ na := Nat.le_trans X19.2.1 z20
    have ne_va_na : va ≠ na := Nat.ne_of_lt (Nat.lt_of_lt_of_le lt_va z20)
    have ne_ha_na : ha ≠ na := Nat.ne_of_lt (Nat.lt_of_lt_of_le lt_ha z20)
    have ne_v_na : v ≠ na := Nat.ne_of_lt (Nat.lt_of_lt_of_le lt_v z20)
    have A21 := own_A_keep Av K20 (ninS ne_va_na nin0)
    have A22 := own_I_keep Ah K20 (ninS ne_ha_na nin0)
    have F23 := Fld.keep Pb K20 (ninS ne_v_na nin0)
    have F24 := Fld.keep Pk K20 (ninS ne_v_na nin0)
    have F25 := Fld.keep Pv K20 (ninS ne_v_na nin0)
    have F26 := Fld.keep Ph K20 (ninS ne_v_na nin0)
    have F27 := Fld.keep Ps K20 (ninS ne_v_na nin0)
    have Q28 := Exa.keep E K20
    refine own_putF X20 (hw _ (List.mem_of_getElem? (i := 16) rfl)) F25 Q28 (Or.inl (hw _ (List.mem_of_getElem? (i := 17) rfl))) (hw _ (List.mem_of_getElem? (i := 3) rfl)) (ty := (.array .long)) (by decide) rfl rfl n_v d5_98 (fun h29 T29 X29 W29 => ?_)
    have G29_v_base := Fld.other W29 F23 (Or.inr (slot_ne (Or.inl (hw _ (List.mem_of_getElem? (i := 12) rfl))) (Or.inl (hw _ (List.mem_of_getElem? (i := 17) rfl))) (by decide) (t := .long) (t' := (.array .long)) (by decide) (by decide)))
    have G29_v_kept := Fld.other W29 F24 (Or.inr (slot_ne (Or.inl (hw _ (List.mem_of_getElem? (i := 14) rfl))) (Or.inl (hw _ (List.mem_of_getElem? (i := 17) rfl))) (by decide) (t := .long) (t' := (.array .long)) (by decide) (by decide)))
    have G29_v_values := Fld.same W29 F25
    have G29_v_held := Fld.other W29 F26 (Or.inr (slot_ne (Or.inl (hw _ (List.mem_of_getElem? (i := 20) rfl))) (Or.inl (hw _ (List.mem_of_getElem? (i := 17) rfl))) (by decide) (t := (.array .boolean)) (t' := (.array .long)) (by decide) (by decide)))
    have G29_v_size := Fld.other W29 F27 (Or.inr (slot_ne (Or.inl (hw _ (List.mem_of_getElem? (i := 45) rfl))) (Or.inl (hw _ (List.mem_of_getElem? (i := 17) rfl))) (by decide) (t := .int) (t' := (.array .long)) (by decide) (by decide)))
    have Q29_v := Exa.wr W29 Q28
    have A29_va := own_A_other A21 W29 (by first | exact ne_va_v | exact fun q => ne_v_va q.symm)
    have A29_ha := own_I_other A22 W29 (by first | exact ne_ha_v | exact fun q => ne_v_ha q.symm)
    have A29_na := own_A_other A20 W29 (by first | exact ne_na_v | exact fun q => ne_v_na q.symm)
    show own_G p e below (T29.setTop (mkF m 101 #[.val (.ref v), .val (.long xx), .second, .val (.long vv), .second, .val (.int at1), .val (.int ln)] [])) _
    refine own_blk X29 B5_101_103 B5_101_103d (ls' := #[.val (.ref v), .val (.long xx), .second, .val (.long vv), .second, .val (.int at1), .val (.int ln)]) (st' := [(.ref v), (.ref v)]) rfl ?_
    refine own_getF X29 (hw _ (List.mem_of_getElem? (i := 19) rfl)) G29_v_held d5_103 (fun T30 X30 => ?_)
    refine own_blk X30 B5_106_108 B5_106_108d (ls' := #[.val (.ref v), .val (.long xx), .second, .val (.long vv), .second, .val (.int at1), .val (.int ln)]) (st' := [(.int ln), (.ref ha), (.ref v)]) rfl ?_
    have lt_va := own_A_lt A29_va
    have lt_ha := own_A_lt A29_ha
    have lt_na := own_A_lt A29_na
    have lt_v := Exa.lt Q29_v
    refine own_callS X30 (hw _ (List.mem_of_getElem? (i := 78) rfl)) (hw _ (List.mem_of_getElem? (i := 79) rfl)) (hw _ (List.mem_of_getElem? (i := 69) rfl)) (hw _ (List.mem_of_getElem? (i := 80) rfl)) (by decide) (c_cz64 l Z a0 hw ha ln n hv h29 n0 X30.2.1 A29_ha hv01 ⟨hln.1, hln.2.1⟩) d5_108 [(.ref ha), (.int ln)] [(.ref v)] rfl rfl pd12 rfl rfl (by decide) (Nat.le_of_ble_eq_true rfl) (by decide) (by decide) (fun _ _ q => by obtain ⟨_, _, q2, _⟩ := q; exact Nat.le_trans X30.2.1 q2.1) (fun v31 h31 T31 X31 q31 => ?_)
    obtain ⟨nh, rfl, K31, z31, A31⟩ := q31
    show own_G p e below (T31.setTop (mkF m 111 #[.val (.ref v), .val (.long xx), .second, .val (.long vv), .second, .val (.int at1), .val (.int ln)] [(.ref nh), (.ref v)])) _
    have n_nh : n0 ≤ nh := Nat.le_trans X30.2.1 z31
    have ne_va_nh : va ≠ nh := Nat.ne_of_lt (Nat.lt_of_lt_of_le lt_va z31)
    have ne_ha_nh : ha ≠ nh := Nat.ne_of_lt (Nat.lt_of_lt_of_le lt_ha z31)
    have ne_na_nh : na ≠ nh := Nat.ne_of_lt (Nat.lt_of_lt_of_le lt_na z31)
    have ne_v_nh : v ≠ nh := Nat.ne_of_lt (Nat.lt_of_lt_of_le lt_v z31)
    have A32 := own_A_keep A29_va K31 (ninS ne_va_nh nin0)
    have A33 := own_I_keep A29_ha K31 (ninS ne_ha_nh nin0)
    have A34 := own_A_keep A29_na K31 (ninS ne_na_nh nin0)
    have F35 := Fld.keep G29_v_base K31 (ninS ne_v_nh nin0)
    have F36 := Fld.keep G29_v_kept K31 (ninS ne_v_nh nin0)
    have F37 := Fld.keep G29_v_values K31 (ninS ne_v_nh nin0)
    have F38 := Fld.keep G29_v_held K31 (ninS ne_v_nh nin0)
    have F39 := Fld.keep G29_v_size K31 (ninS ne_v_nh nin0)
    have Q40 := Exa.keep Q29_v K31
    refine own_putF X31 (hw _ (List.mem_of_getElem? (i := 19) rfl)) F38 Q40 (Or.inl (hw _ (List.mem_of_getElem? (i := 20) rfl))) (hw _ (List.mem_of_getElem? (i := 3) rfl)) (ty := (.array .boolean)) (by decide) rfl rfl n_v d5_111 (fun h41 T41 X41 W41 => ?_)
    have G41_v_base := Fld.other W41 F35 (Or.inr (slot_ne (Or.inl (hw _ (List.mem_of_getElem? (i := 12) rfl))) (Or.inl (hw _ (List.mem_of_getElem? (i := 20) rfl))) (by decide) (t := .long) (t' := (.array .boolean)) (by decide) (by decide)))
    have G41_v_kept := Fld.other W41 F36 (Or.inr (slot_ne (Or.inl (hw _ (List.mem_of_getElem? (i := 14) rfl))) (Or.inl (hw _ (List.mem_of_getElem? (i := 20) rfl))) (by decide) (t := .long) (t' := (.array .boolean)) (by decide) (by decide)))
    have G41_v_values := Fld.other W41 F37 (Or.inr (slot_ne (Or.inl (hw _ (List.mem_of_getElem? (i := 17) rfl))) (Or.inl (hw _ (List.mem_of_getElem? (i := 20) rfl))) (by decide) (t := (.array .long)) (t' := (.array .boolean)) (by decide) (by decide)))
    have G41_v_held := Fld.same W41 F38
    have G41_v_size := Fld.other W41 F39 (Or.inr (slot_ne (Or.inl (hw _ (List.mem_of_getElem? (i := 45) rfl))) (Or.inl (hw _ (List.mem_of_getElem? (i := 20) rfl))) (by decide) (t := .int) (t' := (.array .boolean)) (by decide) (by decide)))
    have Q41_v := Exa.wr W41 Q40
    have A41_va := own_A_other A32 W41 (by first | exact ne_va_v | exact fun q => ne_v_va q.symm)
    have A41_ha := own_I_other A33 W41 (by first | exact ne_ha_v | exact fun q => ne_v_ha q.symm)
    have A41_na := own_A_other A34 W41 (by first | exact ne_na_v | exact fun q => ne_v_na q.symm)
    have A41_nh := own_I_other A31 W41 (by first | exact ne_nh_v | exact fun q => ne_v_nh q.symm)
    show own_G p e below (T41.setTop (mkF m 114 #[.val (.ref v), .val (.long xx), .second, .val (.long vv), .second, .val (.int at1), .val (.int ln)] [])) _
    refine own_blk X41 B5_114_115 B5_114_115d (ls' := #[.val (.ref v), .val (.long xx), .second, .val (.long vv), .second, .val (.int at1), .val (.int ln)]) (st' := [(.ref v)]) rfl ?_
    refine own_getF X41 (hw _ (List.mem_of_getElem? (i := 19) rfl)) G41_v_held d5_115 (fun T42 X42 => ?_)
    refine own_blk X42 B5_118_120 B5_118_120d (ls' := #[.val (.ref v), .val (.long xx), .second, .val (.long vv), .second, .val (.int at1), .val (.int ln)]) (st' := [(.int at1), (.ref nh)]) rfl ?_
    refine own_zald X42 A41_nh d5_120 (by omega) (by omega) ?_
    show own_G p e below (T42.setTop (mkF m 121 #[.val (.ref v), .val (.long xx), .second, .val (.long vv), .second, .val (.int at1), .val (.int ln)] [(.int ((fun j => if j < (n : Int) then hv j else 0) at1.toInt))])) _
    refine own_if X42 d5_121 (pc' := 134) (by decide) (fun c121 => ?_) (fun c121 => ?_)
    · have c121 : ¬ ((fun j => if j < (n : Int) then hv j else 0) at1.toInt).toInt = 0 := c121
      refine own_blk X42 B5_134_135 B5_134_135d (ls' := #[.val (.ref v), .val (.long xx), .second, .val (.long vv), .second, .val (.int at1), .val (.int ln)]) (st' := [(.ref v)]) rfl ?_
      refine own_getF X42 (hw _ (List.mem_of_getElem? (i := 16) rfl)) G41_v_values d5_135 (fun T43 X43 => ?_)
      refine own_blk X43 B5_138_141 B5_138_141d (ls' := #[.val (.ref v), .val (.long xx), .second, .val (.long vv), .second, .val (.int at1), .val (.int ln)]) (st' := [(.long vv), (.int at1), (.ref na)]) rfl ?_
      refine own_jast X43 A41_na n_na d5_141 (by omega) (by omega) (fun h44 T44 X44 A44 W44 => ?_)
      have A44 : own_A Z h44 na .long ln.toInt.toNat (fun j => .long (own_u fv20 at1.toInt vv j)) := own_A_eq A44 (fun j _ _ => by simp only [own_u]; split <;> rfl)
      have A44_nh := own_I_other A41_nh W44 (by first | exact ne_nh_na | exact fun q => ne_na_nh q.symm)
      have F44_v_base := Fld.other W44 G41_v_base (Or.inl (by first | exact ne_v_na | exact fun q => ne_na_v q.symm))
      have F44_v_kept := Fld.other W44 G41_v_kept (Or.inl (by first | exact ne_v_na | exact fun q => ne_na_v q.symm))
      have F44_v_values := Fld.other W44 G41_v_values (Or.inl (by first | exact ne_v_na | exact fun q => ne_na_v q.symm))
      have F44_v_held := Fld.other W44 G41_v_held (Or.inl (by first | exact ne_v_na | exact fun q => ne_na_v q.symm))
      have F44_v_size := Fld.other W44 G41_v_size (Or.inl (by first | exact ne_v_na | exact fun q => ne_na_v q.symm))
      have Q44_v := Exa.wr W44 Q41_v
      refine own_blk X44 B5_142_143 B5_142_143d (ls' := #[.val (.ref v), .val (.long xx), .second, .val (.long vv), .second, .val (.int at1), .val (.int ln)]) (st' := [(.ref v)]) rfl ?_
      refine own_getF X44 (hw _ (List.mem_of_getElem? (i := 19) rfl)) F44_v_held d5_143 (fun T45 X45 => ?_)
      refine own_blk X45 B5_146_149 B5_146_149d (ls' := #[.val (.ref v), .val (.long xx), .second, .val (.long vv), .second, .val (.int at1), .val (.int ln)]) (st' := [(.int (1 : Int32)), (.int at1), (.ref nh)]) rfl ?_
      refine own_zast X45 A44_nh n_nh d5_149 (by omega) (by omega) (by decide) (fun h46 T46 X46 A46 W46 => ?_)
      have A46 : own_I Z h46 nh .boolean ln.toInt.toNat (own_u (fun j => if j < (n : Int) then hv j else 0) (xx.toInt - B.toInt) (1 : Int32)) := by rw [← hat]; exact A46
      generalize eg46 : own_u (fun j => if j < (n : Int) then hv j else 0) (xx.toInt - B.toInt) (1 : Int32) = g46 at A46
      have A46_na := own_A_other A44 W46 (by first | exact ne_na_nh | exact fun q => ne_nh_na q.symm)
      have F46_v_base := Fld.other W46 F44_v_base (Or.inl (by first | exact ne_v_nh | exact fun q => ne_nh_v q.symm))
      have F46_v_kept := Fld.other W46 F44_v_kept (Or.inl (by first | exact ne_v_nh | exact fun q => ne_nh_v q.symm))
      have F46_v_values := Fld.other W46 F44_v_values (Or.inl (by first | exact ne_v_nh | exact fun q => ne_nh_v q.symm))
      have F46_v_held := Fld.other W46 F44_v_held (Or.inl (by first | exact ne_v_nh | exact fun q => ne_nh_v q.symm))
      have F46_v_size := Fld.other W46 F44_v_size (Or.inl (by first | exact ne_v_nh | exact fun q => ne_nh_v q.symm))
      have Q46_v := Exa.wr W46 Q44_v
      exact own_retV X46 d5_150 (by decide) (by decide) (⟨rfl, X46.2.1, ln.toInt.toNat, by omega, by omega, na, nh, _, _, g46, ⟨Q46_v, F46_v_base, F46_v_kept, F46_v_values, F46_v_held, F46_v_size, A46_na, A46, n_v, n_na, n_nh, (by first | exact ne_v_na | exact fun q => ne_na_v q.symm), (by first | exact ne_v_nh | exact fun q => ne_nh_v q.symm), (by first | exact ne_na_nh | exact fun q => ne_nh_na q.symm)⟩, by rw [← eg46]; exact (own_put_mem hBK hK hv01 hmem (by omega) (by omega) (hvG := (fun j => if j < (n : Int) then hv j else 0)) (n' := ln.toInt.toNat) (fun j q0 q1 => rfl)).1, by rw [← eg46]; exact (own_put_mem hBK hK hv01 hmem (by omega) (by omega) (hvG := (fun j => if j < (n : Int) then hv j else 0)) (n' := ln.toInt.toNat) (fun j q0 q1 => rfl)).2⟩)
    · have c121 : ¬ (¬ ((fun j => if j < (n : Int) then hv j else 0) at1.toInt).toInt = 0) := c121
      refine own_blk X42 B5_124_126 B5_124_126d (ls' := #[.val (.ref v), .val (.long xx), .second, .val (.long vv), .second, .val (.int at1), .val (.int ln)]) (st' := [(.ref v), (.ref v)]) rfl ?_
      refine own_getF X42 (hw _ (List.mem_of_getElem? (i := 44) rfl)) G41_v_size d5_126 (fun T47 X47 => ?_)
      refine own_blk X47 B5_129_131 B5_129_131d (ls' := #[.val (.ref v), .val (.long xx), .second, .val (.long vv), .second, .val (.int at1), .val (.int ln)]) (st' := [(.int (sz + (1 : Int32))), (.ref v)]) rfl ?_
      refine own_putF X47 (hw _ (List.mem_of_getElem? (i := 44) rfl)) G41_v_size Q41_v (Or.inl (hw _ (List.mem_of_getElem? (i := 45) rfl))) (hw _ (List.mem_of_getElem? (i := 3) rfl)) (ty := .int) (by decide) rfl rfl n_v d5_131 (fun h48 T48 X48 W48 => ?_)
      have G48_v_base := Fld.other W48 G41_v_base (Or.inr (slot_ne (Or.inl (hw _ (List.mem_of_getElem? (i := 12) rfl))) (Or.inl (hw _ (List.mem_of_getElem? (i := 45) rfl))) (by decide) (t := .long) (t' := .int) (by decide) (by decide)))
      have G48_v_kept := Fld.other W48 G41_v_kept (Or.inr (slot_ne (Or.inl (hw _ (List.mem_of_getElem? (i := 14) rfl))) (Or.inl (hw _ (List.mem_of_getElem? (i := 45) rfl))) (by decide) (t := .long) (t' := .int) (by decide) (by decide)))
      have G48_v_values := Fld.other W48 G41_v_values (Or.inr (slot_ne (Or.inl (hw _ (List.mem_of_getElem? (i := 17) rfl))) (Or.inl (hw _ (List.mem_of_getElem? (i := 45) rfl))) (by decide) (t := (.array .long)) (t' := .int) (by decide) (by decide)))
      have G48_v_held := Fld.other W48 G41_v_held (Or.inr (slot_ne (Or.inl (hw _ (List.mem_of_getElem? (i := 20) rfl))) (Or.inl (hw _ (List.mem_of_getElem? (i := 45) rfl))) (by decide) (t := (.array .boolean)) (t' := .int) (by decide) (by decide)))
      have G48_v_size := Fld.same W48 G41_v_size
      have Q48_v := Exa.wr W48 Q41_v
      have A48_na := own_A_other A41_na W48 (by first | exact ne_na_v | exact fun q => ne_v_na q.symm)
      have A48_nh := own_I_other A41_nh W48 (by first | exact ne_nh_v | exact fun q => ne_v_nh q.symm)
      show own_G p e below (T48.setTop (mkF m 134 #[.val (.ref v), .val (.long xx), .second, .val (.long vv), .second, .val (.int at1), .val (.int ln)] [])) _
      refine own_blk X48 B5_134_135 B5_134_135d (ls' := #[.val (.ref v), .val (.long xx), .second, .val (.long vv), .second, .val (.int at1), .val (.int ln)]) (st' := [(.ref v)]) rfl ?_
      refine own_getF X48 (hw _ (List.mem_of_getElem? (i := 16) rfl)) G48_v_values d5_135 (fun T49 X49 => ?_)
      refine own_blk X49 B5_138_141 B5_138_141d (ls' := #[.val (.ref v), .val (.long xx), .second, .val (.long vv), .second, .val (.int at1), .val (.int ln)]) (st' := [(.long vv), (.int at1), (.ref na)]) rfl ?_
      refine own_jast X49 A48_na n_na d5_141 (by omega) (by omega) (fun h50 T50 X50 A50 W50 => ?_)
      have A50 : own_A Z h50 na .long ln.toInt.toNat (fun j => .long (own_u fv20 at1.toInt vv j)) := own_A_eq A50 (fun j _ _ => by simp only [own_u]; split <;> rfl)
      have A50_nh := own_I_other A48_nh W50 (by first | exact ne_nh_na | exact fun q => ne_na_nh q.symm)
      have F50_v_base := Fld.other W50 G48_v_base (Or.inl (by first | exact ne_v_na | exact fun q => ne_na_v q.symm))
      have F50_v_kept := Fld.other W50 G48_v_kept (Or.inl (by first | exact ne_v_na | exact fun q => ne_na_v q.symm))
      have F50_v_values := Fld.other W50 G48_v_values (Or.inl (by first | exact ne_v_na | exact fun q => ne_na_v q.symm))
      have F50_v_held := Fld.other W50 G48_v_held (Or.inl (by first | exact ne_v_na | exact fun q => ne_na_v q.symm))
      have F50_v_size := Fld.other W50 G48_v_size (Or.inl (by first | exact ne_v_na | exact fun q => ne_na_v q.symm))
      have Q50_v := Exa.wr W50 Q48_v
      refine own_blk X50 B5_142_143 B5_142_143d (ls' := #[.val (.ref v), .val (.long xx), .second, .val (.long vv), .second, .val (.int at1), .val (.int ln)]) (st' := [(.ref v)]) rfl ?_
      refine own_getF X50 (hw _ (List.mem_of_getElem? (i := 19) rfl)) F50_v_held d5_143 (fun T51 X51 => ?_)
      refine own_blk X51 B5_146_149 B5_146_149d (ls' := #[.val (.ref v), .val (.long xx), .second, .val (.long vv), .second, .val (.int at1), .val (.int ln)]) (st' := [(.int (1 : Int32)), (.int at1), (.ref nh)]) rfl ?_
      refine own_zast X51 A50_nh n_nh d5_149 (by omega) (by omega) (by decide) (fun h52 T52 X52 A52 W52 => ?_)
      have A52 : own_I Z h52 nh .boolean ln.toInt.toNat (own_u (fun j => if j < (n : Int) then hv j else 0) (xx.toInt - B.toInt) (1 : Int32)) := by rw [← hat]; exact A52
      generalize eg52 : own_u (fun j => if j < (n : Int) then hv j else 0) (xx.toInt - B.toInt) (1 : Int32) = g52 at A52
      have A52_na := own_A_other A50 W52 (by first | exact ne_na_nh | exact fun q => ne_nh_na q.symm)
      have F52_v_base := Fld.other W52 F50_v_base (Or.inl (by first | exact ne_v_nh | exact fun q => ne_nh_v q.symm))
      have F52_v_kept := Fld.other W52 F50_v_kept (Or.inl (by first | exact ne_v_nh | exact fun q => ne_nh_v q.symm))
      have F52_v_values := Fld.other W52 F50_v_values (Or.inl (by first | exact ne_v_nh | exact fun q => ne_nh_v q.symm))
      have F52_v_held := Fld.other W52 F50_v_held (Or.inl (by first | exact ne_v_nh | exact fun q => ne_nh_v q.symm))
      have F52_v_size := Fld.other W52 F50_v_size (Or.inl (by first | exact ne_v_nh | exact fun q => ne_nh_v q.symm))
      have Q52_v := Exa.wr W52 Q50_v
      exact own_retV X52 d5_150 (by decide) (by decide) (⟨rfl, X52.2.1, ln.toInt.toNat, by omega, by omega, na, nh, _, _, g52, ⟨Q52_v, F52_v_base, F52_v_kept, F52_v_values, F52_v_held, F52_v_size, A52_na, A52, n_v, n_na, n_nh, (by first | exact ne_v_na | exact fun q => ne_na_v q.symm), (by first | exact ne_v_nh | exact fun q => ne_nh_v q.symm), (by first | exact ne_na_nh | exact fun q => ne_nh_na q.symm)⟩, by rw [← eg52]; exact (own_put_mem hBK hK hv01 hmem (by omega) (by omega) (hvG := (fun j => if j < (n : Int) then hv j else 0)) (n' := ln.toInt.toNat) (fun j q0 q1 => rfl)).1, by rw [← eg52]; exact (own_put_mem hBK hK hv01 hmem (by omega) (by omega) (hvG := (fun j => if j < (n : Int) then hv j else 0)) (n' := ln.toInt.toNat) (fun j q0 q1 => rfl)).2⟩)
set_option maxRecDepth 65536 in
set_option maxHeartbeats 40000000 in
theorem c_put128 (l : Launch) (Z : State) (a0 : Array Value) (hw : ∀ d ∈ tables_1, d.before a0 Z = true) (v : Addr) (xx vv B K : Int64) (n : Nat) (mem : Int → Prop) (h0 : Heap) (n0 : Nat) (Z0 : n0 ≤ h0.size) (HS : own_S Z h0 n0 v B K n mem) (hB : 1 ≤ B.toInt) (hBK : B.toInt ≤ K.toInt) (hK : K.toInt ≤ xx.toInt) (hx : xx.toInt - B.toInt < 128) (hx2 : xx.toInt ≤ 1000) (hn : 2 * n ≤ 128) (hn16 : 16 ≤ n) :
    own_C l Z own_y5 prog_110_method_4_code 7 none ({ frames := 2, cells := 2, slots := 256, locals := 44 } : Room) #[(.ref v), (.long xx), (.long vv)] h0 n0 (fun v' h => v' = none ∧ n0 ≤ h.size ∧ ∃ n' : Nat, 16 ≤ n' ∧ n' ≤ 128 ∧ own_S Z h n0 v B K n' (fun k => mem k ∨ k = xx.toInt)) := by
  refine own_body pl5 Z0 (ls := #[.val (.ref v), .val (.long xx), .second, .val (.long vv), .second, .unset, .unset]) (fun m => by first | (simp [entryFrame, mkF, argsToLocals, Value.category]; done) | rfl) ?_
  intro p e s m below meth c T0 X0
  obtain ⟨va, ha, sz, fv, hv, ⟨E, Pb, Pk, Pv, Ph, Ps, Av, Ah, n_v, n_va, n_ha, ne_v_va, ne_v_ha, ne_va_ha⟩, hv01, hmem⟩ := HS
  have hn2 := Av.1
  have hN : (Int32.ofNat n).toInt = (n : Int) := own_ofNat Av.1
  refine own_blk X0 B5_0_2 B5_0_2d (ls' := #[.val (.ref v), .val (.long xx), .second, .val (.long vv), .second, .unset, .unset]) (st' := [(.ref v), (.long xx)]) rfl ?_
  refine own_getF X0 (hw _ (List.mem_of_getElem? (i := 13) rfl)) Pk d5_2 (fun T1 X1 => ?_)
  refine own_lif X1 d5_5 d5_6 (pc' := 17) (by decide) (fun (c5 : xx.toInt < K.toInt) => by exfalso; omega) (fun c5 => ?_)
  have c5 : ¬ (xx.toInt < K.toInt) := c5
  refine own_blk X1 B5_9_10 B5_9_10d (ls' := #[.val (.ref v), .val (.long xx), .second, .val (.long vv), .second, .unset, .unset]) (st' := [(.long xx)]) rfl ?_
  refine own_ldc2 X1 (hw _ (List.mem_of_getElem? (i := 43) rfl)) d5_10 ?_
  refine own_lif X1 d5_13 d5_14 (pc' := 35) (by decide) (fun c13 => ?_) (fun (c13 : ¬ (xx.toInt ≤ 2147483639)) => by exfalso; omega)
  have c13 : xx.toInt ≤ 2147483639 := c13
  refine own_blk X1 B5_35_37 B5_35_37d (ls' := #[.val (.ref v), .val (.long xx), .second, .val (.long vv), .second, .unset, .unset]) (st' := [(.ref v), (.long xx)]) rfl ?_
  refine own_getF X1 (hw _ (List.mem_of_getElem? (i := 11) rfl)) Pb d5_37 (fun T2 X2 => ?_)
  refine own_blk X2 B5_40_44 B5_40_44d (ls' := #[.val (.ref v), .val (.long xx), .second, .val (.long vv), .second, .val (.int ((xx - B).toInt32)), .unset]) (st' := []) rfl ?_
  generalize eat1 : ((xx - B).toInt32) = at1
  have hat : at1.toInt = xx.toInt - B.toInt := by
    have e1 : (xx - B).toInt = xx.toInt - B.toInt := Jvm.Kit.i64_sub (by omega) (by omega)
    rw [← eat1, Jvm.Kit.i32_of_i64 (by omega) (by omega), e1]
  refine own_blk X2 B5_44_47 B5_44_47d (ls' := #[.val (.ref v), .val (.long xx), .second, .val (.long vv), .second, .val (.int at1), .unset]) (st' := [(.ref v), (.int at1)]) rfl ?_
  refine own_getF X2 (hw _ (List.mem_of_getElem? (i := 16) rfl)) Pv d5_47 (fun T3 X3 => ?_)
  refine own_len X3 Av d5_50 ?_
  refine own_icmp X3 d5_51 (pc' := 114) (by decide) (fun c51 => ?_) (fun c51 => ?_)
  · have c51 : at1.toInt < (Int32.ofNat n).toInt := c51
    refine own_blk X3 B5_114_115 B5_114_115d (ls' := #[.val (.ref v), .val (.long xx), .second, .val (.long vv), .second, .val (.int at1), .unset]) (st' := [(.ref v)]) rfl ?_
    refine own_getF X3 (hw _ (List.mem_of_getElem? (i := 19) rfl)) Ph d5_115 (fun T4 X4 => ?_)
    refine own_blk X4 B5_118_120 B5_118_120d (ls' := #[.val (.ref v), .val (.long xx), .second, .val (.long vv), .second, .val (.int at1), .unset]) (st' := [(.int at1), (.ref ha)]) rfl ?_
    refine own_zald X4 Ah d5_120 (by omega) (by omega) ?_
    show own_G p e below (T4.setTop (mkF m 121 #[.val (.ref v), .val (.long xx), .second, .val (.long vv), .second, .val (.int at1), .unset] [(.int (hv at1.toInt))])) _
    refine own_if X4 d5_121 (pc' := 134) (by decide) (fun c121 => ?_) (fun c121 => ?_)
    · have c121 : ¬ (hv at1.toInt).toInt = 0 := c121
      refine own_blk X4 B5_134_135 B5_134_135d (ls' := #[.val (.ref v), .val (.long xx), .second, .val (.long vv), .second, .val (.int at1), .unset]) (st' := [(.ref v)]) rfl ?_
      refine own_getF X4 (hw _ (List.mem_of_getElem? (i := 16) rfl)) Pv d5_135 (fun T5 X5 => ?_)
      refine own_blk X5 B5_138_141 B5_138_141d (ls' := #[.val (.ref v), .val (.long xx), .second, .val (.long vv), .second, .val (.int at1), .unset]) (st' := [(.long vv), (.int at1), (.ref va)]) rfl ?_
      refine own_jast X5 Av n_va d5_141 (by omega) (by omega) (fun h6 T6 X6 A6 W6 => ?_)
      have A6 : own_A Z h6 va .long n (fun j => .long (own_u fv at1.toInt vv j)) := own_A_eq A6 (fun j _ _ => by simp only [own_u]; split <;> rfl)
      have A6_ha := own_I_other Ah W6 (by first | exact ne_ha_va | exact fun q => ne_va_ha q.symm)
      have F6_v_base := Fld.other W6 Pb (Or.inl (by first | exact ne_v_va | exact fun q => ne_va_v q.symm))
      have F6_v_kept := Fld.other W6 Pk (Or.inl (by first | exact ne_v_va | exact fun q => ne_va_v q.symm))
      have F6_v_values := Fld.other W6 Pv (Or.inl (by first | exact ne_v_va | exact fun q => ne_va_v q.symm))
      have F6_v_held := Fld.other W6 Ph (Or.inl (by first | exact ne_v_va | exact fun q => ne_va_v q.symm))
      have F6_v_size := Fld.other W6 Ps (Or.inl (by first | exact ne_v_va | exact fun q => ne_va_v q.symm))
      have Q6_v := Exa.wr W6 E
      refine own_blk X6 B5_142_143 B5_142_143d (ls' := #[.val (.ref v), .val (.long xx), .second, .val (.long vv), .second, .val (.int at1), .unset]) (st' := [(.ref v)]) rfl ?_
      refine own_getF X6 (hw _ (List.mem_of_getElem? (i := 19) rfl)) F6_v_held d5_143 (fun T7 X7 => ?_)
      refine own_blk X7 B5_146_149 B5_146_149d (ls' := #[.val (.ref v), .val (.long xx), .second, .val (.long vv), .second, .val (.int at1), .unset]) (st' := [(.int (1 : Int32)), (.int at1), (.ref ha)]) rfl ?_
      refine own_zast X7 A6_ha n_ha d5_149 (by omega) (by omega) (by decide) (fun h8 T8 X8 A8 W8 => ?_)
      have A8 : own_I Z h8 ha .boolean n (own_u hv (xx.toInt - B.toInt) (1 : Int32)) := by rw [← hat]; exact A8
      generalize eg8 : own_u hv (xx.toInt - B.toInt) (1 : Int32) = g8 at A8
      have A8_va := own_A_other A6 W8 (by first | exact ne_va_ha | exact fun q => ne_ha_va q.symm)
      have F8_v_base := Fld.other W8 F6_v_base (Or.inl (by first | exact ne_v_ha | exact fun q => ne_ha_v q.symm))
      have F8_v_kept := Fld.other W8 F6_v_kept (Or.inl (by first | exact ne_v_ha | exact fun q => ne_ha_v q.symm))
      have F8_v_values := Fld.other W8 F6_v_values (Or.inl (by first | exact ne_v_ha | exact fun q => ne_ha_v q.symm))
      have F8_v_held := Fld.other W8 F6_v_held (Or.inl (by first | exact ne_v_ha | exact fun q => ne_ha_v q.symm))
      have F8_v_size := Fld.other W8 F6_v_size (Or.inl (by first | exact ne_v_ha | exact fun q => ne_ha_v q.symm))
      have Q8_v := Exa.wr W8 Q6_v
      exact own_retV X8 d5_150 (by decide) (by decide) (⟨rfl, X8.2.1, n, by omega, by omega, va, ha, _, _, g8, ⟨Q8_v, F8_v_base, F8_v_kept, F8_v_values, F8_v_held, F8_v_size, A8_va, A8, n_v, n_va, n_ha, (by first | exact ne_v_va | exact fun q => ne_va_v q.symm), (by first | exact ne_v_ha | exact fun q => ne_ha_v q.symm), (by first | exact ne_va_ha | exact fun q => ne_ha_va q.symm)⟩, by rw [← eg8]; exact (own_put_mem hBK hK hv01 hmem (by omega) (by omega) (hvG := hv) (n' := n) (fun j q0 q1 => (if_pos q1).symm)).1, by rw [← eg8]; exact (own_put_mem hBK hK hv01 hmem (by omega) (by omega) (hvG := hv) (n' := n) (fun j q0 q1 => (if_pos q1).symm)).2⟩)
    · have c121 : ¬ (¬ (hv at1.toInt).toInt = 0) := c121
      refine own_blk X4 B5_124_126 B5_124_126d (ls' := #[.val (.ref v), .val (.long xx), .second, .val (.long vv), .second, .val (.int at1), .unset]) (st' := [(.ref v), (.ref v)]) rfl ?_
      refine own_getF X4 (hw _ (List.mem_of_getElem? (i := 44) rfl)) Ps d5_126 (fun T9 X9 => ?_)
      refine own_blk X9 B5_129_131 B5_129_131d (ls' := #[.val (.ref v), .val (.long xx), .second, .val (.long vv), .second, .val (.int at1), .unset]) (st' := [(.int (sz + (1 : Int32))), (.ref v)]) rfl ?_
      refine own_putF X9 (hw _ (List.mem_of_getElem? (i := 44) rfl)) Ps E (Or.inl (hw _ (List.mem_of_getElem? (i := 45) rfl))) (hw _ (List.mem_of_getElem? (i := 3) rfl)) (ty := .int) (by decide) rfl rfl n_v d5_131 (fun h10 T10 X10 W10 => ?_)
      have G10_v_base := Fld.other W10 Pb (Or.inr (slot_ne (Or.inl (hw _ (List.mem_of_getElem? (i := 12) rfl))) (Or.inl (hw _ (List.mem_of_getElem? (i := 45) rfl))) (by decide) (t := .long) (t' := .int) (by decide) (by decide)))
      have G10_v_kept := Fld.other W10 Pk (Or.inr (slot_ne (Or.inl (hw _ (List.mem_of_getElem? (i := 14) rfl))) (Or.inl (hw _ (List.mem_of_getElem? (i := 45) rfl))) (by decide) (t := .long) (t' := .int) (by decide) (by decide)))
      have G10_v_values := Fld.other W10 Pv (Or.inr (slot_ne (Or.inl (hw _ (List.mem_of_getElem? (i := 17) rfl))) (Or.inl (hw _ (List.mem_of_getElem? (i := 45) rfl))) (by decide) (t := (.array .long)) (t' := .int) (by decide) (by decide)))
      have G10_v_held := Fld.other W10 Ph (Or.inr (slot_ne (Or.inl (hw _ (List.mem_of_getElem? (i := 20) rfl))) (Or.inl (hw _ (List.mem_of_getElem? (i := 45) rfl))) (by decide) (t := (.array .boolean)) (t' := .int) (by decide) (by decide)))
      have G10_v_size := Fld.same W10 Ps
      have Q10_v := Exa.wr W10 E
      have A10_va := own_A_other Av W10 (by first | exact ne_va_v | exact fun q => ne_v_va q.symm)
      have A10_ha := own_I_other Ah W10 (by first | exact ne_ha_v | exact fun q => ne_v_ha q.symm)
      show own_G p e below (T10.setTop (mkF m 134 #[.val (.ref v), .val (.long xx), .second, .val (.long vv), .second, .val (.int at1), .unset] [])) _
      refine own_blk X10 B5_134_135 B5_134_135d (ls' := #[.val (.ref v), .val (.long xx), .second, .val (.long vv), .second, .val (.int at1), .unset]) (st' := [(.ref v)]) rfl ?_
      refine own_getF X10 (hw _ (List.mem_of_getElem? (i := 16) rfl)) G10_v_values d5_135 (fun T11 X11 => ?_)
      refine own_blk X11 B5_138_141 B5_138_141d (ls' := #[.val (.ref v), .val (.long xx), .second, .val (.long vv), .second, .val (.int at1), .unset]) (st' := [(.long vv), (.int at1), (.ref va)]) rfl ?_
      refine own_jast X11 A10_va n_va d5_141 (by omega) (by omega) (fun h12 T12 X12 A12 W12 => ?_)
      have A12 : own_A Z h12 va .long n (fun j => .long (own_u fv at1.toInt vv j)) := own_A_eq A12 (fun j _ _ => by simp only [own_u]; split <;> rfl)
      have A12_ha := own_I_other A10_ha W12 (by first | exact ne_ha_va | exact fun q => ne_va_ha q.symm)
      have F12_v_base := Fld.other W12 G10_v_base (Or.inl (by first | exact ne_v_va | exact fun q => ne_va_v q.symm))
      have F12_v_kept := Fld.other W12 G10_v_kept (Or.inl (by first | exact ne_v_va | exact fun q => ne_va_v q.symm))
      have F12_v_values := Fld.other W12 G10_v_values (Or.inl (by first | exact ne_v_va | exact fun q => ne_va_v q.symm))
      have F12_v_held := Fld.other W12 G10_v_held (Or.inl (by first | exact ne_v_va | exact fun q => ne_va_v q.symm))
      have F12_v_size := Fld.other W12 G10_v_size (Or.inl (by first | exact ne_v_va | exact fun q => ne_va_v q.symm))
      have Q12_v := Exa.wr W12 Q10_v
      refine own_blk X12 B5_142_143 B5_142_143d (ls' := #[.val (.ref v), .val (.long xx), .second, .val (.long vv), .second, .val (.int at1), .unset]) (st' := [(.ref v)]) rfl ?_
      refine own_getF X12 (hw _ (List.mem_of_getElem? (i := 19) rfl)) F12_v_held d5_143 (fun T13 X13 => ?_)
      refine own_blk X13 B5_146_149 B5_146_149d (ls' := #[.val (.ref v), .val (.long xx), .second, .val (.long vv), .second, .val (.int at1), .unset]) (st' := [(.int (1 : Int32)), (.int at1), (.ref ha)]) rfl ?_
      refine own_zast X13 A12_ha n_ha d5_149 (by omega) (by omega) (by decide) (fun h14 T14 X14 A14 W14 => ?_)
      have A14 : own_I Z h14 ha .boolean n (own_u hv (xx.toInt - B.toInt) (1 : Int32)) := by rw [← hat]; exact A14
      generalize eg14 : own_u hv (xx.toInt - B.toInt) (1 : Int32) = g14 at A14
      have A14_va := own_A_other A12 W14 (by first | exact ne_va_ha | exact fun q => ne_ha_va q.symm)
      have F14_v_base := Fld.other W14 F12_v_base (Or.inl (by first | exact ne_v_ha | exact fun q => ne_ha_v q.symm))
      have F14_v_kept := Fld.other W14 F12_v_kept (Or.inl (by first | exact ne_v_ha | exact fun q => ne_ha_v q.symm))
      have F14_v_values := Fld.other W14 F12_v_values (Or.inl (by first | exact ne_v_ha | exact fun q => ne_ha_v q.symm))
      have F14_v_held := Fld.other W14 F12_v_held (Or.inl (by first | exact ne_v_ha | exact fun q => ne_ha_v q.symm))
      have F14_v_size := Fld.other W14 F12_v_size (Or.inl (by first | exact ne_v_ha | exact fun q => ne_ha_v q.symm))
      have Q14_v := Exa.wr W14 Q12_v
      exact own_retV X14 d5_150 (by decide) (by decide) (⟨rfl, X14.2.1, n, by omega, by omega, va, ha, _, _, g14, ⟨Q14_v, F14_v_base, F14_v_kept, F14_v_values, F14_v_held, F14_v_size, A14_va, A14, n_v, n_va, n_ha, (by first | exact ne_v_va | exact fun q => ne_va_v q.symm), (by first | exact ne_v_ha | exact fun q => ne_ha_v q.symm), (by first | exact ne_va_ha | exact fun q => ne_ha_va q.symm)⟩, by rw [← eg14]; exact (own_put_mem hBK hK hv01 hmem (by omega) (by omega) (hvG := hv) (n' := n) (fun j q0 q1 => (if_pos q1).symm)).1, by rw [← eg14]; exact (own_put_mem hBK hK hv01 hmem (by omega) (by omega) (hvG := hv) (n' := n) (fun j q0 q1 => (if_pos q1).symm)).2⟩)
  · have c51 : ¬ (at1.toInt < (Int32.ofNat n).toInt) := c51
    refine own_ldc2 X3 (hw _ (List.mem_of_getElem? (i := 43) rfl)) d5_54 ?_
    refine own_blk X3 B5_57_58 B5_57_58d (ls' := #[.val (.ref v), .val (.long xx), .second, .val (.long vv), .second, .val (.int at1), .unset]) (st' := [(.ref v), (.long (2147483639 : Int64))]) rfl ?_
    refine own_getF X3 (hw _ (List.mem_of_getElem? (i := 11) rfl)) Pb d5_58 (fun T15 X15 => ?_)
    refine own_blk X15 B5_61_69 B5_61_69d (ls' := #[.val (.ref v), .val (.long xx), .second, .val (.long vv), .second, .val (.int at1), .unset]) (st' := [(.long ((at1.toInt64) + (1 : Int64))), (.long (((2147483639 : Int64) - B) + (1 : Int64)))]) rfl ?_
    refine own_ldc2 X15 (hw _ (List.mem_of_getElem? (i := 66) rfl)) d5_69 ?_
    refine own_blk X15 B5_72_73 B5_72_73d (ls' := #[.val (.ref v), .val (.long xx), .second, .val (.long vv), .second, .val (.int at1), .unset]) (st' := [(.ref v), (.long (2 : Int64)), (.long ((at1.toInt64) + (1 : Int64))), (.long (((2147483639 : Int64) - B) + (1 : Int64)))]) rfl ?_
    refine own_getF X15 (hw _ (List.mem_of_getElem? (i := 16) rfl)) Pv d5_73 (fun T16 X16 => ?_)
    refine own_len X16 Av d5_76 ?_
    refine own_blk X16 B5_77_79 B5_77_79d (ls' := #[.val (.ref v), .val (.long xx), .second, .val (.long vv), .second, .val (.int at1), .unset]) (st' := [(.long ((2 : Int64) * ((Int32.ofNat n).toInt64))), (.long ((at1.toInt64) + (1 : Int64))), (.long (((2147483639 : Int64) - B) + (1 : Int64)))]) rfl ?_
    refine own_callP X16 (hw _ (List.mem_of_getElem? (i := 61) rfl)) (hw _ (List.mem_of_getElem? (i := 62) rfl)) (hw _ (List.mem_of_getElem? (i := 59) rfl)) (hw _ (List.mem_of_getElem? (i := 63) rfl)) (by decide) (c_maxJ l Z a0 hw ((at1.toInt64) + (1 : Int64)) ((2 : Int64) * ((Int32.ofNat n).toInt64)) h0 n0 X16.2.1) d5_79 [(.long ((at1.toInt64) + (1 : Int64))), (.long ((2 : Int64) * ((Int32.ofNat n).toInt64)))] [(.long (((2147483639 : Int64) - B) + (1 : Int64)))] rfl rfl pd9 rfl rfl (by decide) (Nat.le_of_ble_eq_true rfl) (by decide) (by decide) (fun T17 X17 => ?_)
    show own_G p e below (T17.setTop (mkF m 82 #[.val (.ref v), .val (.long xx), .second, .val (.long vv), .second, .val (.int at1), .unset] [(.long (own_maxJ ((at1.toInt64) + (1 : Int64)) ((2 : Int64) * ((Int32.ofNat n).toInt64)))), (.long (((2147483639 : Int64) - B) + (1 : Int64)))])) _
    refine own_callP X17 (hw _ (List.mem_of_getElem? (i := 57) rfl)) (hw _ (List.mem_of_getElem? (i := 58) rfl)) (hw _ (List.mem_of_getElem? (i := 59) rfl)) (hw _ (List.mem_of_getElem? (i := 60) rfl)) (by decide) (c_minJ l Z a0 hw (((2147483639 : Int64) - B) + (1 : Int64)) (own_maxJ ((at1.toInt64) + (1 : Int64)) ((2 : Int64) * ((Int32.ofNat n).toInt64))) h0 n0 X17.2.1) d5_82 [(.long (((2147483639 : Int64) - B) + (1 : Int64))), (.long (own_maxJ ((at1.toInt64) + (1 : Int64)) ((2 : Int64) * ((Int32.ofNat n).toInt64))))] [] rfl rfl pd8 rfl rfl (by decide) (Nat.le_of_ble_eq_true rfl) (by decide) (by decide) (fun T18 X18 => ?_)
    show own_G p e below (T18.setTop (mkF m 85 #[.val (.ref v), .val (.long xx), .second, .val (.long vv), .second, .val (.int at1), .unset] [(.long (own_minJ (((2147483639 : Int64) - B) + (1 : Int64)) (own_maxJ ((at1.toInt64) + (1 : Int64)) ((2 : Int64) * ((Int32.ofNat n).toInt64)))))])) _
    refine own_blk X18 B5_85_88 B5_85_88d (ls' := #[.val (.ref v), .val (.long xx), .second, .val (.long vv), .second, .val (.int at1), .val (.int ((own_minJ (((2147483639 : Int64) - B) + (1 : Int64)) (own_maxJ ((at1.toInt64) + (1 : Int64)) ((2 : Int64) * ((Int32.ofNat n).toInt64)))).toInt32))]) (st' := []) rfl ?_
    generalize eln : ((own_minJ (((2147483639 : Int64) - B) + (1 : Int64)) (own_maxJ ((at1.toInt64) + (1 : Int64)) ((2 : Int64) * ((Int32.ofNat n).toInt64)))).toInt32) = ln
    have hln := own_grow (B := B) (a := at1) (n := n) (cap := 128) hB (by omega) (by omega) (by omega) hn (by decide)
    rw [eln] at hln
    refine own_blk X18 B5_88_90 B5_88_90d (ls' := #[.val (.ref v), .val (.long xx), .second, .val (.long vv), .second, .val (.int at1), .val (.int ln)]) (st' := [(.ref v), (.ref v)]) rfl ?_
    refine own_getF X18 (hw _ (List.mem_of_getElem? (i := 16) rfl)) Pv d5_90 (fun T19 X19 => ?_)
    refine own_blk X19 B5_93_95 B5_93_95d (ls' := #[.val (.ref v), .val (.long xx), .second, .val (.long vv), .second, .val (.int at1), .val (.int ln)]) (st' := [(.int ln), (.ref va), (.ref v)]) rfl ?_
    have lt_va := own_A_lt Av
    have lt_ha := own_A_lt Ah
    have lt_v := Exa.lt E
    refine own_callS X19 (hw _ (List.mem_of_getElem? (i := 67) rfl)) (hw _ (List.mem_of_getElem? (i := 68) rfl)) (hw _ (List.mem_of_getElem? (i := 69) rfl)) (hw _ (List.mem_of_getElem? (i := 70) rfl)) (by decide) (c_cj128 l Z a0 hw va ln n fv h0 n0 X19.2.1 Av ⟨hln.1, hln.2.1⟩) d5_95 [(.ref va), (.int ln)] [(.ref v)] rfl rfl pd10 rfl rfl (by decide) (Nat.le_of_ble_eq_true rfl) (by decide) (by decide) (fun _ _ q => by obtain ⟨_, _, q2, _⟩ := q; exact Nat.le_trans X19.2.1 q2.1) (fun v20 h20 T20 X20 q20 => ?_)
    obtain ⟨na, rfl, K20, z20, fv20, A20⟩ := q20
    show own_G p e below (T20.setTop (mkF m 98 #[.val (.ref v), .val (.long xx), .second, .val (.long vv), .second, .val (.int at1), .val (.int ln)] [(.ref na), (.ref v)])) _
    have n_na : n0 ≤ na := Nat.le_trans X19.2.1 z20
    have ne_va_na : va ≠ na := Nat.ne_of_lt (Nat.lt_of_lt_of_le lt_va z20)
    have ne_ha_na : ha ≠ na := Nat.ne_of_lt (Nat.lt_of_lt_of_le lt_ha z20)
    have ne_v_na : v ≠ na := Nat.ne_of_lt (Nat.lt_of_lt_of_le lt_v z20)
    have A21 := own_A_keep Av K20 (ninS ne_va_na nin0)
    have A22 := own_I_keep Ah K20 (ninS ne_ha_na nin0)
    have F23 := Fld.keep Pb K20 (ninS ne_v_na nin0)
    have F24 := Fld.keep Pk K20 (ninS ne_v_na nin0)
    have F25 := Fld.keep Pv K20 (ninS ne_v_na nin0)
    have F26 := Fld.keep Ph K20 (ninS ne_v_na nin0)
    have F27 := Fld.keep Ps K20 (ninS ne_v_na nin0)
    have Q28 := Exa.keep E K20
    refine own_putF X20 (hw _ (List.mem_of_getElem? (i := 16) rfl)) F25 Q28 (Or.inl (hw _ (List.mem_of_getElem? (i := 17) rfl))) (hw _ (List.mem_of_getElem? (i := 3) rfl)) (ty := (.array .long)) (by decide) rfl rfl n_v d5_98 (fun h29 T29 X29 W29 => ?_)
    have G29_v_base := Fld.other W29 F23 (Or.inr (slot_ne (Or.inl (hw _ (List.mem_of_getElem? (i := 12) rfl))) (Or.inl (hw _ (List.mem_of_getElem? (i := 17) rfl))) (by decide) (t := .long) (t' := (.array .long)) (by decide) (by decide)))
    have G29_v_kept := Fld.other W29 F24 (Or.inr (slot_ne (Or.inl (hw _ (List.mem_of_getElem? (i := 14) rfl))) (Or.inl (hw _ (List.mem_of_getElem? (i := 17) rfl))) (by decide) (t := .long) (t' := (.array .long)) (by decide) (by decide)))
    have G29_v_values := Fld.same W29 F25
    have G29_v_held := Fld.other W29 F26 (Or.inr (slot_ne (Or.inl (hw _ (List.mem_of_getElem? (i := 20) rfl))) (Or.inl (hw _ (List.mem_of_getElem? (i := 17) rfl))) (by decide) (t := (.array .boolean)) (t' := (.array .long)) (by decide) (by decide)))
    have G29_v_size := Fld.other W29 F27 (Or.inr (slot_ne (Or.inl (hw _ (List.mem_of_getElem? (i := 45) rfl))) (Or.inl (hw _ (List.mem_of_getElem? (i := 17) rfl))) (by decide) (t := .int) (t' := (.array .long)) (by decide) (by decide)))
    have Q29_v := Exa.wr W29 Q28
    have A29_va := own_A_other A21 W29 (by first | exact ne_va_v | exact fun q => ne_v_va q.symm)
    have A29_ha := own_I_other A22 W29 (by first | exact ne_ha_v | exact fun q => ne_v_ha q.symm)
    have A29_na := own_A_other A20 W29 (by first | exact ne_na_v | exact fun q => ne_v_na q.symm)
    show own_G p e below (T29.setTop (mkF m 101 #[.val (.ref v), .val (.long xx), .second, .val (.long vv), .second, .val (.int at1), .val (.int ln)] [])) _
    refine own_blk X29 B5_101_103 B5_101_103d (ls' := #[.val (.ref v), .val (.long xx), .second, .val (.long vv), .second, .val (.int at1), .val (.int ln)]) (st' := [(.ref v), (.ref v)]) rfl ?_
    refine own_getF X29 (hw _ (List.mem_of_getElem? (i := 19) rfl)) G29_v_held d5_103 (fun T30 X30 => ?_)
    refine own_blk X30 B5_106_108 B5_106_108d (ls' := #[.val (.ref v), .val (.long xx), .second, .val (.long vv), .second, .val (.int at1), .val (.int ln)]) (st' := [(.int ln), (.ref ha), (.ref v)]) rfl ?_
    have lt_va := own_A_lt A29_va
    have lt_ha := own_A_lt A29_ha
    have lt_na := own_A_lt A29_na
    have lt_v := Exa.lt Q29_v
    refine own_callS X30 (hw _ (List.mem_of_getElem? (i := 78) rfl)) (hw _ (List.mem_of_getElem? (i := 79) rfl)) (hw _ (List.mem_of_getElem? (i := 69) rfl)) (hw _ (List.mem_of_getElem? (i := 80) rfl)) (by decide) (c_cz128 l Z a0 hw ha ln n hv h29 n0 X30.2.1 A29_ha hv01 ⟨hln.1, hln.2.1⟩) d5_108 [(.ref ha), (.int ln)] [(.ref v)] rfl rfl pd12 rfl rfl (by decide) (Nat.le_of_ble_eq_true rfl) (by decide) (by decide) (fun _ _ q => by obtain ⟨_, _, q2, _⟩ := q; exact Nat.le_trans X30.2.1 q2.1) (fun v31 h31 T31 X31 q31 => ?_)
    obtain ⟨nh, rfl, K31, z31, A31⟩ := q31
    show own_G p e below (T31.setTop (mkF m 111 #[.val (.ref v), .val (.long xx), .second, .val (.long vv), .second, .val (.int at1), .val (.int ln)] [(.ref nh), (.ref v)])) _
    have n_nh : n0 ≤ nh := Nat.le_trans X30.2.1 z31
    have ne_va_nh : va ≠ nh := Nat.ne_of_lt (Nat.lt_of_lt_of_le lt_va z31)
    have ne_ha_nh : ha ≠ nh := Nat.ne_of_lt (Nat.lt_of_lt_of_le lt_ha z31)
    have ne_na_nh : na ≠ nh := Nat.ne_of_lt (Nat.lt_of_lt_of_le lt_na z31)
    have ne_v_nh : v ≠ nh := Nat.ne_of_lt (Nat.lt_of_lt_of_le lt_v z31)
    have A32 := own_A_keep A29_va K31 (ninS ne_va_nh nin0)
    have A33 := own_I_keep A29_ha K31 (ninS ne_ha_nh nin0)
    have A34 := own_A_keep A29_na K31 (ninS ne_na_nh nin0)
    have F35 := Fld.keep G29_v_base K31 (ninS ne_v_nh nin0)
    have F36 := Fld.keep G29_v_kept K31 (ninS ne_v_nh nin0)
    have F37 := Fld.keep G29_v_values K31 (ninS ne_v_nh nin0)
    have F38 := Fld.keep G29_v_held K31 (ninS ne_v_nh nin0)
    have F39 := Fld.keep G29_v_size K31 (ninS ne_v_nh nin0)
    have Q40 := Exa.keep Q29_v K31
    refine own_putF X31 (hw _ (List.mem_of_getElem? (i := 19) rfl)) F38 Q40 (Or.inl (hw _ (List.mem_of_getElem? (i := 20) rfl))) (hw _ (List.mem_of_getElem? (i := 3) rfl)) (ty := (.array .boolean)) (by decide) rfl rfl n_v d5_111 (fun h41 T41 X41 W41 => ?_)
    have G41_v_base := Fld.other W41 F35 (Or.inr (slot_ne (Or.inl (hw _ (List.mem_of_getElem? (i := 12) rfl))) (Or.inl (hw _ (List.mem_of_getElem? (i := 20) rfl))) (by decide) (t := .long) (t' := (.array .boolean)) (by decide) (by decide)))
    have G41_v_kept := Fld.other W41 F36 (Or.inr (slot_ne (Or.inl (hw _ (List.mem_of_getElem? (i := 14) rfl))) (Or.inl (hw _ (List.mem_of_getElem? (i := 20) rfl))) (by decide) (t := .long) (t' := (.array .boolean)) (by decide) (by decide)))
    have G41_v_values := Fld.other W41 F37 (Or.inr (slot_ne (Or.inl (hw _ (List.mem_of_getElem? (i := 17) rfl))) (Or.inl (hw _ (List.mem_of_getElem? (i := 20) rfl))) (by decide) (t := (.array .long)) (t' := (.array .boolean)) (by decide) (by decide)))
    have G41_v_held := Fld.same W41 F38
    have G41_v_size := Fld.other W41 F39 (Or.inr (slot_ne (Or.inl (hw _ (List.mem_of_getElem? (i := 45) rfl))) (Or.inl (hw _ (List.mem_of_getElem? (i := 20) rfl))) (by decide) (t := .int) (t' := (.array .boolean)) (by decide) (by decide)))
    have Q41_v := Exa.wr W41 Q40
    have A41_va := own_A_other A32 W41 (by first | exact ne_va_v | exact fun q => ne_v_va q.symm)
    have A41_ha := own_I_other A33 W41 (by first | exact ne_ha_v | exact fun q => ne_v_ha q.symm)
    have A41_na := own_A_other A34 W41 (by first | exact ne_na_v | exact fun q => ne_v_na q.symm)
    have A41_nh := own_I_other A31 W41 (by first | exact ne_nh_v | exact fun q => ne_v_nh q.symm)
    show own_G p e below (T41.setTop (mkF m 114 #[.val (.ref v), .val (.long xx), .second, .val (.long vv), .second, .val (.int at1), .val (.int ln)] [])) _
    refine own_blk X41 B5_114_115 B5_114_115d (ls' := #[.val (.ref v), .val (.long xx), .second, .val (.long vv), .second, .val (.int at1), .val (.int ln)]) (st' := [(.ref v)]) rfl ?_
    refine own_getF X41 (hw _ (List.mem_of_getElem? (i := 19) rfl)) G41_v_held d5_115 (fun T42 X42 => ?_)
    refine own_blk X42 B5_118_120 B5_118_120d (ls' := #[.val (.ref v), .val (.long xx), .second, .val (.long vv), .second, .val (.int at1), .val (.int ln)]) (st' := [(.int at1), (.ref nh)]) rfl ?_
    refine own_zald X42 A41_nh d5_120 (by omega) (by omega) ?_
    show own_G p e below (T42.setTop (mkF m 121 #[.val (.ref v), .val (.long xx), .second, .val (.long vv), .second, .val (.int at1), .val (.int ln)] [(.int ((fun j => if j < (n : Int) then hv j else 0) at1.toInt))])) _
    refine own_if X42 d5_121 (pc' := 134) (by decide) (fun c121 => ?_) (fun c121 => ?_)
    · have c121 : ¬ ((fun j => if j < (n : Int) then hv j else 0) at1.toInt).toInt = 0 := c121
      refine own_blk X42 B5_134_135 B5_134_135d (ls' := #[.val (.ref v), .val (.long xx), .second, .val (.long vv), .second, .val (.int at1), .val (.int ln)]) (st' := [(.ref v)]) rfl ?_
      refine own_getF X42 (hw _ (List.mem_of_getElem? (i := 16) rfl)) G41_v_values d5_135 (fun T43 X43 => ?_)
      refine own_blk X43 B5_138_141 B5_138_141d (ls' := #[.val (.ref v), .val (.long xx), .second, .val (.long vv), .second, .val (.int at1), .val (.int ln)]) (st' := [(.long vv), (.int at1), (.ref na)]) rfl ?_
      refine own_jast X43 A41_na n_na d5_141 (by omega) (by omega) (fun h44 T44 X44 A44 W44 => ?_)
      have A44 : own_A Z h44 na .long ln.toInt.toNat (fun j => .long (own_u fv20 at1.toInt vv j)) := own_A_eq A44 (fun j _ _ => by simp only [own_u]; split <;> rfl)
      have A44_nh := own_I_other A41_nh W44 (by first | exact ne_nh_na | exact fun q => ne_na_nh q.symm)
      have F44_v_base := Fld.other W44 G41_v_base (Or.inl (by first | exact ne_v_na | exact fun q => ne_na_v q.symm))
      have F44_v_kept := Fld.other W44 G41_v_kept (Or.inl (by first | exact ne_v_na | exact fun q => ne_na_v q.symm))
      have F44_v_values := Fld.other W44 G41_v_values (Or.inl (by first | exact ne_v_na | exact fun q => ne_na_v q.symm))
      have F44_v_held := Fld.other W44 G41_v_held (Or.inl (by first | exact ne_v_na | exact fun q => ne_na_v q.symm))
      have F44_v_size := Fld.other W44 G41_v_size (Or.inl (by first | exact ne_v_na | exact fun q => ne_na_v q.symm))
      have Q44_v := Exa.wr W44 Q41_v
      refine own_blk X44 B5_142_143 B5_142_143d (ls' := #[.val (.ref v), .val (.long xx), .second, .val (.long vv), .second, .val (.int at1), .val (.int ln)]) (st' := [(.ref v)]) rfl ?_
      refine own_getF X44 (hw _ (List.mem_of_getElem? (i := 19) rfl)) F44_v_held d5_143 (fun T45 X45 => ?_)
      refine own_blk X45 B5_146_149 B5_146_149d (ls' := #[.val (.ref v), .val (.long xx), .second, .val (.long vv), .second, .val (.int at1), .val (.int ln)]) (st' := [(.int (1 : Int32)), (.int at1), (.ref nh)]) rfl ?_
      refine own_zast X45 A44_nh n_nh d5_149 (by omega) (by omega) (by decide) (fun h46 T46 X46 A46 W46 => ?_)
      have A46 : own_I Z h46 nh .boolean ln.toInt.toNat (own_u (fun j => if j < (n : Int) then hv j else 0) (xx.toInt - B.toInt) (1 : Int32)) := by rw [← hat]; exact A46
      generalize eg46 : own_u (fun j => if j < (n : Int) then hv j else 0) (xx.toInt - B.toInt) (1 : Int32) = g46 at A46
      have A46_na := own_A_other A44 W46 (by first | exact ne_na_nh | exact fun q => ne_nh_na q.symm)
      have F46_v_base := Fld.other W46 F44_v_base (Or.inl (by first | exact ne_v_nh | exact fun q => ne_nh_v q.symm))
      have F46_v_kept := Fld.other W46 F44_v_kept (Or.inl (by first | exact ne_v_nh | exact fun q => ne_nh_v q.symm))
      have F46_v_values := Fld.other W46 F44_v_values (Or.inl (by first | exact ne_v_nh | exact fun q => ne_nh_v q.symm))
      have F46_v_held := Fld.other W46 F44_v_held (Or.inl (by first | exact ne_v_nh | exact fun q => ne_nh_v q.symm))
      have F46_v_size := Fld.other W46 F44_v_size (Or.inl (by first | exact ne_v_nh | exact fun q => ne_nh_v q.symm))
      have Q46_v := Exa.wr W46 Q44_v
      exact own_retV X46 d5_150 (by decide) (by decide) (⟨rfl, X46.2.1, ln.toInt.toNat, by omega, by omega, na, nh, _, _, g46, ⟨Q46_v, F46_v_base, F46_v_kept, F46_v_values, F46_v_held, F46_v_size, A46_na, A46, n_v, n_na, n_nh, (by first | exact ne_v_na | exact fun q => ne_na_v q.symm), (by first | exact ne_v_nh | exact fun q => ne_nh_v q.symm), (by first | exact ne_na_nh | exact fun q => ne_nh_na q.symm)⟩, by rw [← eg46]; exact (own_put_mem hBK hK hv01 hmem (by omega) (by omega) (hvG := (fun j => if j < (n : Int) then hv j else 0)) (n' := ln.toInt.toNat) (fun j q0 q1 => rfl)).1, by rw [← eg46]; exact (own_put_mem hBK hK hv01 hmem (by omega) (by omega) (hvG := (fun j => if j < (n : Int) then hv j else 0)) (n' := ln.toInt.toNat) (fun j q0 q1 => rfl)).2⟩)
    · have c121 : ¬ (¬ ((fun j => if j < (n : Int) then hv j else 0) at1.toInt).toInt = 0) := c121
      refine own_blk X42 B5_124_126 B5_124_126d (ls' := #[.val (.ref v), .val (.long xx), .second, .val (.long vv), .second, .val (.int at1), .val (.int ln)]) (st' := [(.ref v), (.ref v)]) rfl ?_
      refine own_getF X42 (hw _ (List.mem_of_getElem? (i := 44) rfl)) G41_v_size d5_126 (fun T47 X47 => ?_)
      refine own_blk X47 B5_129_131 B5_129_131d (ls' := #[.val (.ref v), .val (.long xx), .second, .val (.long vv), .second, .val (.int at1), .val (.int ln)]) (st' := [(.int (sz + (1 : Int32))), (.ref v)]) rfl ?_
      refine own_putF X47 (hw _ (List.mem_of_getElem? (i := 44) rfl)) G41_v_size Q41_v (Or.inl (hw _ (List.mem_of_getElem? (i := 45) rfl))) (hw _ (List.mem_of_getElem? (i := 3) rfl)) (ty := .int) (by decide) rfl rfl n_v d5_131 (fun h48 T48 X48 W48 => ?_)
      have G48_v_base := Fld.other W48 G41_v_base (Or.inr (slot_ne (Or.inl (hw _ (List.mem_of_getElem? (i := 12) rfl))) (Or.inl (hw _ (List.mem_of_getElem? (i := 45) rfl))) (by decide) (t := .long) (t' := .int) (by decide) (by decide)))
      have G48_v_kept := Fld.other W48 G41_v_kept (Or.inr (slot_ne (Or.inl (hw _ (List.mem_of_getElem? (i := 14) rfl))) (Or.inl (hw _ (List.mem_of_getElem? (i := 45) rfl))) (by decide) (t := .long) (t' := .int) (by decide) (by decide)))
      have G48_v_values := Fld.other W48 G41_v_values (Or.inr (slot_ne (Or.inl (hw _ (List.mem_of_getElem? (i := 17) rfl))) (Or.inl (hw _ (List.mem_of_getElem? (i := 45) rfl))) (by decide) (t := (.array .long)) (t' := .int) (by decide) (by decide)))
      have G48_v_held := Fld.other W48 G41_v_held (Or.inr (slot_ne (Or.inl (hw _ (List.mem_of_getElem? (i := 20) rfl))) (Or.inl (hw _ (List.mem_of_getElem? (i := 45) rfl))) (by decide) (t := (.array .boolean)) (t' := .int) (by decide) (by decide)))
      have G48_v_size := Fld.same W48 G41_v_size
      have Q48_v := Exa.wr W48 Q41_v
      have A48_na := own_A_other A41_na W48 (by first | exact ne_na_v | exact fun q => ne_v_na q.symm)
      have A48_nh := own_I_other A41_nh W48 (by first | exact ne_nh_v | exact fun q => ne_v_nh q.symm)
      show own_G p e below (T48.setTop (mkF m 134 #[.val (.ref v), .val (.long xx), .second, .val (.long vv), .second, .val (.int at1), .val (.int ln)] [])) _
      refine own_blk X48 B5_134_135 B5_134_135d (ls' := #[.val (.ref v), .val (.long xx), .second, .val (.long vv), .second, .val (.int at1), .val (.int ln)]) (st' := [(.ref v)]) rfl ?_
      refine own_getF X48 (hw _ (List.mem_of_getElem? (i := 16) rfl)) G48_v_values d5_135 (fun T49 X49 => ?_)
      refine own_blk X49 B5_138_141 B5_138_141d (ls' := #[.val (.ref v), .val (.long xx), .second, .val (.long vv), .second, .val (.int at1), .val (.int ln)]) (st' := [(.long vv), (.int at1), (.ref na)]) rfl ?_
      refine own_jast X49 A48_na n_na d5_141 (by omega) (by omega) (fun h50 T50 X50 A50 W50 => ?_)
      have A50 : own_A Z h50 na .long ln.toInt.toNat (fun j => .long (own_u fv20 at1.toInt vv j)) := own_A_eq A50 (fun j _ _ => by simp only [own_u]; split <;> rfl)
      have A50_nh := own_I_other A48_nh W50 (by first | exact ne_nh_na | exact fun q => ne_na_nh q.symm)
      have F50_v_base := Fld.other W50 G48_v_base (Or.inl (by first | exact ne_v_na | exact fun q => ne_na_v q.symm))
      have F50_v_kept := Fld.other W50 G48_v_kept (Or.inl (by first | exact ne_v_na | exact fun q => ne_na_v q.symm))
      have F50_v_values := Fld.other W50 G48_v_values (Or.inl (by first | exact ne_v_na | exact fun q => ne_na_v q.symm))
      have F50_v_held := Fld.other W50 G48_v_held (Or.inl (by first | exact ne_v_na | exact fun q => ne_na_v q.symm))
      have F50_v_size := Fld.other W50 G48_v_size (Or.inl (by first | exact ne_v_na | exact fun q => ne_na_v q.symm))
      have Q50_v := Exa.wr W50 Q48_v
      refine own_blk X50 B5_142_143 B5_142_143d (ls' := #[.val (.ref v), .val (.long xx), .second, .val (.long vv), .second, .val (.int at1), .val (.int ln)]) (st' := [(.ref v)]) rfl ?_
      refine own_getF X50 (hw _ (List.mem_of_getElem? (i := 19) rfl)) F50_v_held d5_143 (fun T51 X51 => ?_)
      refine own_blk X51 B5_146_149 B5_146_149d (ls' := #[.val (.ref v), .val (.long xx), .second, .val (.long vv), .second, .val (.int at1), .val (.int ln)]) (st' := [(.int (1 : Int32)), (.int at1), (.ref nh)]) rfl ?_
      refine own_zast X51 A50_nh n_nh d5_149 (by omega) (by omega) (by decide) (fun h52 T52 X52 A52 W52 => ?_)
      have A52 : own_I Z h52 nh .boolean ln.toInt.toNat (own_u (fun j => if j < (n : Int) then hv j else 0) (xx.toInt - B.toInt) (1 : Int32)) := by rw [← hat]; exact A52
      generalize eg52 : own_u (fun j => if j < (n : Int) then hv j else 0) (xx.toInt - B.toInt) (1 : Int32) = g52 at A52
      have A52_na := own_A_other A50 W52 (by first | exact ne_na_nh | exact fun q => ne_nh_na q.symm)
      have F52_v_base := Fld.other W52 F50_v_base (Or.inl (by first | exact ne_v_nh | exact fun q => ne_nh_v q.symm))
      have F52_v_kept := Fld.other W52 F50_v_kept (Or.inl (by first | exact ne_v_nh | exact fun q => ne_nh_v q.symm))
      have F52_v_values := Fld.other W52 F50_v_values (Or.inl (by first | exact ne_v_nh | exact fun q => ne_nh_v q.symm))
      have F52_v_held := Fld.other W52 F50_v_held (Or.inl (by first | exact ne_v_nh | exact fun q => ne_nh_v q.symm))
      have F52_v_size := Fld.other W52 F50_v_size (Or.inl (by first | exact ne_v_nh | exact fun q => ne_nh_v q.symm))
      have Q52_v := Exa.wr W52 Q50_v
      exact own_retV X52 d5_150 (by decide) (by decide) (⟨rfl, X52.2.1, ln.toInt.toNat, by omega, by omega, na, nh, _, _, g52, ⟨Q52_v, F52_v_base, F52_v_kept, F52_v_values, F52_v_held, F52_v_size, A52_na, A52, n_v, n_na, n_nh, (by first | exact ne_v_na | exact fun q => ne_na_v q.symm), (by first | exact ne_v_nh | exact fun q => ne_nh_v q.symm), (by first | exact ne_na_nh | exact fun q => ne_nh_na q.symm)⟩, by rw [← eg52]; exact (own_put_mem hBK hK hv01 hmem (by omega) (by omega) (hvG := (fun j => if j < (n : Int) then hv j else 0)) (n' := ln.toInt.toNat) (fun j q0 q1 => rfl)).1, by rw [← eg52]; exact (own_put_mem hBK hK hv01 hmem (by omega) (by omega) (hvG := (fun j => if j < (n : Int) then hv j else 0)) (n' := ln.toInt.toNat) (fun j q0 q1 => rfl)).2⟩)
set_option maxRecDepth 65536 in
set_option maxHeartbeats 40000000 in
theorem c_put382 (l : Launch) (Z : State) (a0 : Array Value) (hw : ∀ d ∈ tables_1, d.before a0 Z = true) (v : Addr) (xx vv B K : Int64) (n : Nat) (mem : Int → Prop) (h0 : Heap) (n0 : Nat) (Z0 : n0 ≤ h0.size) (HS : own_S Z h0 n0 v B K n mem) (hB : 1 ≤ B.toInt) (hBK : B.toInt ≤ K.toInt) (hK : K.toInt ≤ xx.toInt) (hx : xx.toInt - B.toInt < 382) (hx2 : xx.toInt ≤ 1000) (hn : 2 * n ≤ 382) (hn16 : 16 ≤ n) :
    own_C l Z own_y5 prog_110_method_4_code 7 none ({ frames := 2, cells := 2, slots := 764, locals := 44 } : Room) #[(.ref v), (.long xx), (.long vv)] h0 n0 (fun v' h => v' = none ∧ n0 ≤ h.size ∧ ∃ n' : Nat, 16 ≤ n' ∧ n' ≤ 382 ∧ own_S Z h n0 v B K n' (fun k => mem k ∨ k = xx.toInt)) := by
  refine own_body pl5 Z0 (ls := #[.val (.ref v), .val (.long xx), .second, .val (.long vv), .second, .unset, .unset]) (fun m => by first | (simp [entryFrame, mkF, argsToLocals, Value.category]; done) | rfl) ?_
  intro p e s m below meth c T0 X0
  obtain ⟨va, ha, sz, fv, hv, ⟨E, Pb, Pk, Pv, Ph, Ps, Av, Ah, n_v, n_va, n_ha, ne_v_va, ne_v_ha, ne_va_ha⟩, hv01, hmem⟩ := HS
  have hn2 := Av.1
  have hN : (Int32.ofNat n).toInt = (n : Int) := own_ofNat Av.1
  refine own_blk X0 B5_0_2 B5_0_2d (ls' := #[.val (.ref v), .val (.long xx), .second, .val (.long vv), .second, .unset, .unset]) (st' := [(.ref v), (.long xx)]) rfl ?_
  refine own_getF X0 (hw _ (List.mem_of_getElem? (i := 13) rfl)) Pk d5_2 (fun T1 X1 => ?_)
  refine own_lif X1 d5_5 d5_6 (pc' := 17) (by decide) (fun (c5 : xx.toInt < K.toInt) => by exfalso; omega) (fun c5 => ?_)
  have c5 : ¬ (xx.toInt < K.toInt) := c5
  refine own_blk X1 B5_9_10 B5_9_10d (ls' := #[.val (.ref v), .val (.long xx), .second, .val (.long vv), .second, .unset, .unset]) (st' := [(.long xx)]) rfl ?_
  refine own_ldc2 X1 (hw _ (List.mem_of_getElem? (i := 43) rfl)) d5_10 ?_
  refine own_lif X1 d5_13 d5_14 (pc' := 35) (by decide) (fun c13 => ?_) (fun (c13 : ¬ (xx.toInt ≤ 2147483639)) => by exfalso; omega)
  have c13 : xx.toInt ≤ 2147483639 := c13
  refine own_blk X1 B5_35_37 B5_35_37d (ls' := #[.val (.ref v), .val (.long xx), .second, .val (.long vv), .second, .unset, .unset]) (st' := [(.ref v), (.long xx)]) rfl ?_
  refine own_getF X1 (hw _ (List.mem_of_getElem? (i := 11) rfl)) Pb d5_37 (fun T2 X2 => ?_)
  refine own_blk X2 B5_40_44 B5_40_44d (ls' := #[.val (.ref v), .val (.long xx), .second, .val (.long vv), .second, .val (.int ((xx - B).toInt32)), .unset]) (st' := []) rfl ?_
  generalize eat1 : ((xx - B).toInt32) = at1
  have hat : at1.toInt = xx.toInt - B.toInt := by
    have e1 : (xx - B).toInt = xx.toInt - B.toInt := Jvm.Kit.i64_sub (by omega) (by omega)
    rw [← eat1, Jvm.Kit.i32_of_i64 (by omega) (by omega), e1]
  refine own_blk X2 B5_44_47 B5_44_47d (ls' := #[.val (.ref v), .val (.long xx), .second, .val (.long vv), .second, .val (.int at1), .unset]) (st' := [(.ref v), (.int at1)]) rfl ?_
  refine own_getF X2 (hw _ (List.mem_of_getElem? (i := 16) rfl)) Pv d5_47 (fun T3 X3 => ?_)
  refine own_len X3 Av d5_50 ?_
  refine own_icmp X3 d5_51 (pc' := 114) (by decide) (fun c51 => ?_) (fun c51 => ?_)
  · have c51 : at1.toInt < (Int32.ofNat n).toInt := c51
    refine own_blk X3 B5_114_115 B5_114_115d (ls' := #[.val (.ref v), .val (.long xx), .second, .val (.long vv), .second, .val (.int at1), .unset]) (st' := [(.ref v)]) rfl ?_
    refine own_getF X3 (hw _ (List.mem_of_getElem? (i := 19) rfl)) Ph d5_115 (fun T4 X4 => ?_)
    refine own_blk X4 B5_118_120 B5_118_120d (ls' := #[.val (.ref v), .val (.long xx), .second, .val (.long vv), .second, .val (.int at1), .unset]) (st' := [(.int at1), (.ref ha)]) rfl ?_
    refine own_zald X4 Ah d5_120 (by omega) (by omega) ?_
    show own_G p e below (T4.setTop (mkF m 121 #[.val (.ref v), .val (.long xx), .second, .val (.long vv), .second, .val (.int at1), .unset] [(.int (hv at1.toInt))])) _
    refine own_if X4 d5_121 (pc' := 134) (by decide) (fun c121 => ?_) (fun c121 => ?_)
    · have c121 : ¬ (hv at1.toInt).toInt = 0 := c121
      refine own_blk X4 B5_134_135 B5_134_135d (ls' := #[.val (.ref v), .val (.long xx), .second, .val (.long vv), .second, .val (.int at1), .unset]) (st' := [(.ref v)]) rfl ?_
      refine own_getF X4 (hw _ (List.mem_of_getElem? (i := 16) rfl)) Pv d5_135 (fun T5 X5 => ?_)
      refine own_blk X5 B5_138_141 B5_138_141d (ls' := #[.val (.ref v), .val (.long xx), .second, .val (.long vv), .second, .val (.int at1), .unset]) (st' := [(.long vv), (.int at1), (.ref va)]) rfl ?_
      refine own_jast X5 Av n_va d5_141 (by omega) (by omega) (fun h6 T6 X6 A6 W6 => ?_)
      have A6 : own_A Z h6 va .long n (fun j => .long (own_u fv at1.toInt vv j)) := own_A_eq A6 (fun j _ _ => by simp only [own_u]; split <;> rfl)
      have A6_ha := own_I_other Ah W6 (by first | exact ne_ha_va | exact fun q => ne_va_ha q.symm)
      have F6_v_base := Fld.other W6 Pb (Or.inl (by first | exact ne_v_va | exact fun q => ne_va_v q.symm))
      have F6_v_kept := Fld.other W6 Pk (Or.inl (by first | exact ne_v_va | exact fun q => ne_va_v q.symm))
      have F6_v_values := Fld.other W6 Pv (Or.inl (by first | exact ne_v_va | exact fun q => ne_va_v q.symm))
      have F6_v_held := Fld.other W6 Ph (Or.inl (by first | exact ne_v_va | exact fun q => ne_va_v q.symm))
      have F6_v_size := Fld.other W6 Ps (Or.inl (by first | exact ne_v_va | exact fun q => ne_va_v q.symm))
      have Q6_v := Exa.wr W6 E
      refine own_blk X6 B5_142_143 B5_142_143d (ls' := #[.val (.ref v), .val (.long xx), .second, .val (.long vv), .second, .val (.int at1), .unset]) (st' := [(.ref v)]) rfl ?_
      refine own_getF X6 (hw _ (List.mem_of_getElem? (i := 19) rfl)) F6_v_held d5_143 (fun T7 X7 => ?_)
      refine own_blk X7 B5_146_149 B5_146_149d (ls' := #[.val (.ref v), .val (.long xx), .second, .val (.long vv), .second, .val (.int at1), .unset]) (st' := [(.int (1 : Int32)), (.int at1), (.ref ha)]) rfl ?_
      refine own_zast X7 A6_ha n_ha d5_149 (by omega) (by omega) (by decide) (fun h8 T8 X8 A8 W8 => ?_)
      have A8 : own_I Z h8 ha .boolean n (own_u hv (xx.toInt - B.toInt) (1 : Int32)) := by rw [← hat]; exact A8
      generalize eg8 : own_u hv (xx.toInt - B.toInt) (1 : Int32) = g8 at A8
      have A8_va := own_A_other A6 W8 (by first | exact ne_va_ha | exact fun q => ne_ha_va q.symm)
      have F8_v_base := Fld.other W8 F6_v_base (Or.inl (by first | exact ne_v_ha | exact fun q => ne_ha_v q.symm))
      have F8_v_kept := Fld.other W8 F6_v_kept (Or.inl (by first | exact ne_v_ha | exact fun q => ne_ha_v q.symm))
      have F8_v_values := Fld.other W8 F6_v_values (Or.inl (by first | exact ne_v_ha | exact fun q => ne_ha_v q.symm))
      have F8_v_held := Fld.other W8 F6_v_held (Or.inl (by first | exact ne_v_ha | exact fun q => ne_ha_v q.symm))
      have F8_v_size := Fld.other W8 F6_v_size (Or.inl (by first | exact ne_v_ha | exact fun q => ne_ha_v q.symm))
      have Q8_v := Exa.wr W8 Q6_v
      exact own_retV X8 d5_150 (by decide) (by decide) (⟨rfl, X8.2.1, n, by omega, by omega, va, ha, _, _, g8, ⟨Q8_v, F8_v_base, F8_v_kept, F8_v_values, F8_v_held, F8_v_size, A8_va, A8, n_v, n_va, n_ha, (by first | exact ne_v_va | exact fun q => ne_va_v q.symm), (by first | exact ne_v_ha | exact fun q => ne_ha_v q.symm), (by first | exact ne_va_ha | exact fun q => ne_ha_va q.symm)⟩, by rw [← eg8]; exact (own_put_mem hBK hK hv01 hmem (by omega) (by omega) (hvG := hv) (n' := n) (fun j q0 q1 => (if_pos q1).symm)).1, by rw [← eg8]; exact (own_put_mem hBK hK hv01 hmem (by omega) (by omega) (hvG := hv) (n' := n) (fun j q0 q1 => (if_pos q1).symm)).2⟩)
    · have c121 : ¬ (¬ (hv at1.toInt).toInt = 0) := c121
      refine own_blk X4 B5_124_126 B5_124_126d (ls' := #[.val (.ref v), .val (.long xx), .second, .val (.long vv), .second, .val (.int at1), .unset]) (st' := [(.ref v), (.ref v)]) rfl ?_
      refine own_getF X4 (hw _ (List.mem_of_getElem? (i := 44) rfl)) Ps d5_126 (fun T9 X9 => ?_)
      refine own_blk X9 B5_129_131 B5_129_131d (ls' := #[.val (.ref v), .val (.long xx), .second, .val (.long vv), .second, .val (.int at1), .unset]) (st' := [(.int (sz + (1 : Int32))), (.ref v)]) rfl ?_
      refine own_putF X9 (hw _ (List.mem_of_getElem? (i := 44) rfl)) Ps E (Or.inl (hw _ (List.mem_of_getElem? (i := 45) rfl))) (hw _ (List.mem_of_getElem? (i := 3) rfl)) (ty := .int) (by decide) rfl rfl n_v d5_131 (fun h10 T10 X10 W10 => ?_)
      have G10_v_base := Fld.other W10 Pb (Or.inr (slot_ne (Or.inl (hw _ (List.mem_of_getElem? (i := 12) rfl))) (Or.inl (hw _ (List.mem_of_getElem? (i := 45) rfl))) (by decide) (t := .long) (t' := .int) (by decide) (by decide)))
      have G10_v_kept := Fld.other W10 Pk (Or.inr (slot_ne (Or.inl (hw _ (List.mem_of_getElem? (i := 14) rfl))) (Or.inl (hw _ (List.mem_of_getElem? (i := 45) rfl))) (by decide) (t := .long) (t' := .int) (by decide) (by decide)))
      have G10_v_values := Fld.other W10 Pv (Or.inr (slot_ne (Or.inl (hw _ (List.mem_of_getElem? (i := 17) rfl))) (Or.inl (hw _ (List.mem_of_getElem? (i := 45) rfl))) (by decide) (t := (.array .long)) (t' := .int) (by decide) (by decide)))
      have G10_v_held := Fld.other W10 Ph (Or.inr (slot_ne (Or.inl (hw _ (List.mem_of_getElem? (i := 20) rfl))) (Or.inl (hw _ (List.mem_of_getElem? (i := 45) rfl))) (by decide) (t := (.array .boolean)) (t' := .int) (by decide) (by decide)))
      have G10_v_size := Fld.same W10 Ps
      have Q10_v := Exa.wr W10 E
      have A10_va := own_A_other Av W10 (by first | exact ne_va_v | exact fun q => ne_v_va q.symm)
      have A10_ha := own_I_other Ah W10 (by first | exact ne_ha_v | exact fun q => ne_v_ha q.symm)
      show own_G p e below (T10.setTop (mkF m 134 #[.val (.ref v), .val (.long xx), .second, .val (.long vv), .second, .val (.int at1), .unset] [])) _
      refine own_blk X10 B5_134_135 B5_134_135d (ls' := #[.val (.ref v), .val (.long xx), .second, .val (.long vv), .second, .val (.int at1), .unset]) (st' := [(.ref v)]) rfl ?_
      refine own_getF X10 (hw _ (List.mem_of_getElem? (i := 16) rfl)) G10_v_values d5_135 (fun T11 X11 => ?_)
      refine own_blk X11 B5_138_141 B5_138_141d (ls' := #[.val (.ref v), .val (.long xx), .second, .val (.long vv), .second, .val (.int at1), .unset]) (st' := [(.long vv), (.int at1), (.ref va)]) rfl ?_
      refine own_jast X11 A10_va n_va d5_141 (by omega) (by omega) (fun h12 T12 X12 A12 W12 => ?_)
      have A12 : own_A Z h12 va .long n (fun j => .long (own_u fv at1.toInt vv j)) := own_A_eq A12 (fun j _ _ => by simp only [own_u]; split <;> rfl)
      have A12_ha := own_I_other A10_ha W12 (by first | exact ne_ha_va | exact fun q => ne_va_ha q.symm)
      have F12_v_base := Fld.other W12 G10_v_base (Or.inl (by first | exact ne_v_va | exact fun q => ne_va_v q.symm))
      have F12_v_kept := Fld.other W12 G10_v_kept (Or.inl (by first | exact ne_v_va | exact fun q => ne_va_v q.symm))
      have F12_v_values := Fld.other W12 G10_v_values (Or.inl (by first | exact ne_v_va | exact fun q => ne_va_v q.symm))
      have F12_v_held := Fld.other W12 G10_v_held (Or.inl (by first | exact ne_v_va | exact fun q => ne_va_v q.symm))
      have F12_v_size := Fld.other W12 G10_v_size (Or.inl (by first | exact ne_v_va | exact fun q => ne_va_v q.symm))
      have Q12_v := Exa.wr W12 Q10_v
      refine own_blk X12 B5_142_143 B5_142_143d (ls' := #[.val (.ref v), .val (.long xx), .second, .val (.long vv), .second, .val (.int at1), .unset]) (st' := [(.ref v)]) rfl ?_
      refine own_getF X12 (hw _ (List.mem_of_getElem? (i := 19) rfl)) F12_v_held d5_143 (fun T13 X13 => ?_)
      refine own_blk X13 B5_146_149 B5_146_149d (ls' := #[.val (.ref v), .val (.long xx), .second, .val (.long vv), .second, .val (.int at1), .unset]) (st' := [(.int (1 : Int32)), (.int at1), (.ref ha)]) rfl ?_
      refine own_zast X13 A12_ha n_ha d5_149 (by omega) (by omega) (by decide) (fun h14 T14 X14 A14 W14 => ?_)
      have A14 : own_I Z h14 ha .boolean n (own_u hv (xx.toInt - B.toInt) (1 : Int32)) := by rw [← hat]; exact A14
      generalize eg14 : own_u hv (xx.toInt - B.toInt) (1 : Int32) = g14 at A14
      have A14_va := own_A_other A12 W14 (by first | exact ne_va_ha | exact fun q => ne_ha_va q.symm)
      have F14_v_base := Fld.other W14 F12_v_base (Or.inl (by first | exact ne_v_ha | exact fun q => ne_ha_v q.symm))
      have F14_v_kept := Fld.other W14 F12_v_kept (Or.inl (by first | exact ne_v_ha | exact fun q => ne_ha_v q.symm))
      have F14_v_values := Fld.other W14 F12_v_values (Or.inl (by first | exact ne_v_ha | exact fun q => ne_ha_v q.symm))
      have F14_v_held := Fld.other W14 F12_v_held (Or.inl (by first | exact ne_v_ha | exact fun q => ne_ha_v q.symm))
      have F14_v_size := Fld.other W14 F12_v_size (Or.inl (by first | exact ne_v_ha | exact fun q => ne_ha_v q.symm))
      have Q14_v := Exa.wr W14 Q12_v
      exact own_retV X14 d5_150 (by decide) (by decide) (⟨rfl, X14.2.1, n, by omega, by omega, va, ha, _, _, g14, ⟨Q14_v, F14_v_base, F14_v_kept, F14_v_values, F14_v_held, F14_v_size, A14_va, A14, n_v, n_va, n_ha, (by first | exact ne_v_va | exact fun q => ne_va_v q.symm), (by first | exact ne_v_ha | exact fun q => ne_ha_v q.symm), (by first | exact ne_va_ha | exact fun q => ne_ha_va q.symm)⟩, by rw [← eg14]; exact (own_put_mem hBK hK hv01 hmem (by omega) (by omega) (hvG := hv) (n' := n) (fun j q0 q1 => (if_pos q1).symm)).1, by rw [← eg14]; exact (own_put_mem hBK hK hv01 hmem (by omega) (by omega) (hvG := hv) (n' := n) (fun j q0 q1 => (if_pos q1).symm)).2⟩)
  · have c51 : ¬ (at1.toInt < (Int32.ofNat n).toInt) := c51
    refine own_ldc2 X3 (hw _ (List.mem_of_getElem? (i := 43) rfl)) d5_54 ?_
    refine own_blk X3 B5_57_58 B5_57_58d (ls' := #[.val (.ref v), .val (.long xx), .second, .val (.long vv), .second, .val (.int at1), .unset]) (st' := [(.ref v), (.long (2147483639 : Int64))]) rfl ?_
    refine own_getF X3 (hw _ (List.mem_of_getElem? (i := 11) rfl)) Pb d5_58 (fun T15 X15 => ?_)
    refine own_blk X15 B5_61_69 B5_61_69d (ls' := #[.val (.ref v), .val (.long xx), .second, .val (.long vv), .second, .val (.int at1), .unset]) (st' := [(.long ((at1.toInt64) + (1 : Int64))), (.long (((2147483639 : Int64) - B) + (1 : Int64)))]) rfl ?_
    refine own_ldc2 X15 (hw _ (List.mem_of_getElem? (i := 66) rfl)) d5_69 ?_
    refine own_blk X15 B5_72_73 B5_72_73d (ls' := #[.val (.ref v), .val (.long xx), .second, .val (.long vv), .second, .val (.int at1), .unset]) (st' := [(.ref v), (.long (2 : Int64)), (.long ((at1.toInt64) + (1 : Int64))), (.long (((2147483639 : Int64) - B) + (1 : Int64)))]) rfl ?_
    refine own_getF X15 (hw _ (List.mem_of_getElem? (i := 16) rfl)) Pv d5_73 (fun T16 X16 => ?_)
    refine own_len X16 Av d5_76 ?_
    refine own_blk X16 B5_77_79 B5_77_79d (ls' := #[.val (.ref v), .val (.long xx), .second, .val (.long vv), .second, .val (.int at1), .unset]) (st' := [(.long ((2 : Int64) * ((Int32.ofNat n).toInt64))), (.long ((at1.toInt64) + (1 : Int64))), (.long (((2147483639 : Int64) - B) + (1 : Int64)))]) rfl ?_
    refine own_callP X16 (hw _ (List.mem_of_getElem? (i := 61) rfl)) (hw _ (List.mem_of_getElem? (i := 62) rfl)) (hw _ (List.mem_of_getElem? (i := 59) rfl)) (hw _ (List.mem_of_getElem? (i := 63) rfl)) (by decide) (c_maxJ l Z a0 hw ((at1.toInt64) + (1 : Int64)) ((2 : Int64) * ((Int32.ofNat n).toInt64)) h0 n0 X16.2.1) d5_79 [(.long ((at1.toInt64) + (1 : Int64))), (.long ((2 : Int64) * ((Int32.ofNat n).toInt64)))] [(.long (((2147483639 : Int64) - B) + (1 : Int64)))] rfl rfl pd9 rfl rfl (by decide) (Nat.le_of_ble_eq_true rfl) (by decide) (by decide) (fun T17 X17 => ?_)
    show own_G p e below (T17.setTop (mkF m 82 #[.val (.ref v), .val (.long xx), .second, .val (.long vv), .second, .val (.int at1), .unset] [(.long (own_maxJ ((at1.toInt64) + (1 : Int64)) ((2 : Int64) * ((Int32.ofNat n).toInt64)))), (.long (((2147483639 : Int64) - B) + (1 : Int64)))])) _
    refine own_callP X17 (hw _ (List.mem_of_getElem? (i := 57) rfl)) (hw _ (List.mem_of_getElem? (i := 58) rfl)) (hw _ (List.mem_of_getElem? (i := 59) rfl)) (hw _ (List.mem_of_getElem? (i := 60) rfl)) (by decide) (c_minJ l Z a0 hw (((2147483639 : Int64) - B) + (1 : Int64)) (own_maxJ ((at1.toInt64) + (1 : Int64)) ((2 : Int64) * ((Int32.ofNat n).toInt64))) h0 n0 X17.2.1) d5_82 [(.long (((2147483639 : Int64) - B) + (1 : Int64))), (.long (own_maxJ ((at1.toInt64) + (1 : Int64)) ((2 : Int64) * ((Int32.ofNat n).toInt64))))] [] rfl rfl pd8 rfl rfl (by decide) (Nat.le_of_ble_eq_true rfl) (by decide) (by decide) (fun T18 X18 => ?_)
    show own_G p e below (T18.setTop (mkF m 85 #[.val (.ref v), .val (.long xx), .second, .val (.long vv), .second, .val (.int at1), .unset] [(.long (own_minJ (((2147483639 : Int64) - B) + (1 : Int64)) (own_maxJ ((at1.toInt64) + (1 : Int64)) ((2 : Int64) * ((Int32.ofNat n).toInt64)))))])) _
    refine own_blk X18 B5_85_88 B5_85_88d (ls' := #[.val (.ref v), .val (.long xx), .second, .val (.long vv), .second, .val (.int at1), .val (.int ((own_minJ (((2147483639 : Int64) - B) + (1 : Int64)) (own_maxJ ((at1.toInt64) + (1 : Int64)) ((2 : Int64) * ((Int32.ofNat n).toInt64)))).toInt32))]) (st' := []) rfl ?_
    generalize eln : ((own_minJ (((2147483639 : Int64) - B) + (1 : Int64)) (own_maxJ ((at1.toInt64) + (1 : Int64)) ((2 : Int64) * ((Int32.ofNat n).toInt64)))).toInt32) = ln
    have hln := own_grow (B := B) (a := at1) (n := n) (cap := 382) hB (by omega) (by omega) (by omega) hn (by decide)
    rw [eln] at hln
    refine own_blk X18 B5_88_90 B5_88_90d (ls' := #[.val (.ref v), .val (.long xx), .second, .val (.long vv), .second, .val (.int at1), .val (.int ln)]) (st' := [(.ref v), (.ref v)]) rfl ?_
    refine own_getF X18 (hw _ (List.mem_of_getElem? (i := 16) rfl)) Pv d5_90 (fun T19 X19 => ?_)
    refine own_blk X19 B5_93_95 B5_93_95d (ls' := #[.val (.ref v), .val (.long xx), .second, .val (.long vv), .second, .val (.int at1), .val (.int ln)]) (st' := [(.int ln), (.ref va), (.ref v)]) rfl ?_
    have lt_va := own_A_lt Av
    have lt_ha := own_A_lt Ah
    have lt_v := Exa.lt E
    refine own_callS X19 (hw _ (List.mem_of_getElem? (i := 67) rfl)) (hw _ (List.mem_of_getElem? (i := 68) rfl)) (hw _ (List.mem_of_getElem? (i := 69) rfl)) (hw _ (List.mem_of_getElem? (i := 70) rfl)) (by decide) (c_cj382 l Z a0 hw va ln n fv h0 n0 X19.2.1 Av ⟨hln.1, hln.2.1⟩) d5_95 [(.ref va), (.int ln)] [(.ref v)] rfl rfl pd10 rfl rfl (by decide) (Nat.le_of_ble_eq_true rfl) (by decide) (by decide) (fun _ _ q => by obtain ⟨_, _, q2, _⟩ := q; exact Nat.le_trans X19.2.1 q2.1) (fun v20 h20 T20 X20 q20 => ?_)
    obtain ⟨na, rfl, K20, z20, fv20, A20⟩ := q20
    show own_G p e below (T20.setTop (mkF m 98 #[.val (.ref v), .val (.long xx), .second, .val (.long vv), .second, .val (.int at1), .val (.int ln)] [(.ref na), (.ref v)])) _
    have n_na : n0 ≤ na := Nat.le_trans X19.2.1 z20
    have ne_va_na : va ≠ na := Nat.ne_of_lt (Nat.lt_of_lt_of_le lt_va z20)
    have ne_ha_na : ha ≠ na := Nat.ne_of_lt (Nat.lt_of_lt_of_le lt_ha z20)
    have ne_v_na : v ≠ na := Nat.ne_of_lt (Nat.lt_of_lt_of_le lt_v z20)
    have A21 := own_A_keep Av K20 (ninS ne_va_na nin0)
    have A22 := own_I_keep Ah K20 (ninS ne_ha_na nin0)
    have F23 := Fld.keep Pb K20 (ninS ne_v_na nin0)
    have F24 := Fld.keep Pk K20 (ninS ne_v_na nin0)
    have F25 := Fld.keep Pv K20 (ninS ne_v_na nin0)
    have F26 := Fld.keep Ph K20 (ninS ne_v_na nin0)
    have F27 := Fld.keep Ps K20 (ninS ne_v_na nin0)
    have Q28 := Exa.keep E K20
    refine own_putF X20 (hw _ (List.mem_of_getElem? (i := 16) rfl)) F25 Q28 (Or.inl (hw _ (List.mem_of_getElem? (i := 17) rfl))) (hw _ (List.mem_of_getElem? (i := 3) rfl)) (ty := (.array .long)) (by decide) rfl rfl n_v d5_98 (fun h29 T29 X29 W29 => ?_)
    have G29_v_base := Fld.other W29 F23 (Or.inr (slot_ne (Or.inl (hw _ (List.mem_of_getElem? (i := 12) rfl))) (Or.inl (hw _ (List.mem_of_getElem? (i := 17) rfl))) (by decide) (t := .long) (t' := (.array .long)) (by decide) (by decide)))
    have G29_v_kept := Fld.other W29 F24 (Or.inr (slot_ne (Or.inl (hw _ (List.mem_of_getElem? (i := 14) rfl))) (Or.inl (hw _ (List.mem_of_getElem? (i := 17) rfl))) (by decide) (t := .long) (t' := (.array .long)) (by decide) (by decide)))
    have G29_v_values := Fld.same W29 F25
    have G29_v_held := Fld.other W29 F26 (Or.inr (slot_ne (Or.inl (hw _ (List.mem_of_getElem? (i := 20) rfl))) (Or.inl (hw _ (List.mem_of_getElem? (i := 17) rfl))) (by decide) (t := (.array .boolean)) (t' := (.array .long)) (by decide) (by decide)))
    have G29_v_size := Fld.other W29 F27 (Or.inr (slot_ne (Or.inl (hw _ (List.mem_of_getElem? (i := 45) rfl))) (Or.inl (hw _ (List.mem_of_getElem? (i := 17) rfl))) (by decide) (t := .int) (t' := (.array .long)) (by decide) (by decide)))
    have Q29_v := Exa.wr W29 Q28
    have A29_va := own_A_other A21 W29 (by first | exact ne_va_v | exact fun q => ne_v_va q.symm)
    have A29_ha := own_I_other A22 W29 (by first | exact ne_ha_v | exact fun q => ne_v_ha q.symm)
    have A29_na := own_A_other A20 W29 (by first | exact ne_na_v | exact fun q => ne_v_na q.symm)
    show own_G p e below (T29.setTop (mkF m 101 #[.val (.ref v), .val (.long xx), .second, .val (.long vv), .second, .val (.int at1), .val (.int ln)] [])) _
    refine own_blk X29 B5_101_103 B5_101_103d (ls' := #[.val (.ref v), .val (.long xx), .second, .val (.long vv), .second, .val (.int at1), .val (.int ln)]) (st' := [(.ref v), (.ref v)]) rfl ?_
    refine own_getF X29 (hw _ (List.mem_of_getElem? (i := 19) rfl)) G29_v_held d5_103 (fun T30 X30 => ?_)
    refine own_blk X30 B5_106_108 B5_106_108d (ls' := #[.val (.ref v), .val (.long xx), .second, .val (.long vv), .second, .val (.int at1), .val (.int ln)]) (st' := [(.int ln), (.ref ha), (.ref v)]) rfl ?_
    have lt_va := own_A_lt A29_va
    have lt_ha := own_A_lt A29_ha
    have lt_na := own_A_lt A29_na
    have lt_v := Exa.lt Q29_v
    refine own_callS X30 (hw _ (List.mem_of_getElem? (i := 78) rfl)) (hw _ (List.mem_of_getElem? (i := 79) rfl)) (hw _ (List.mem_of_getElem? (i := 69) rfl)) (hw _ (List.mem_of_getElem? (i := 80) rfl)) (by decide) (c_cz382 l Z a0 hw ha ln n hv h29 n0 X30.2.1 A29_ha hv01 ⟨hln.1, hln.2.1⟩) d5_108 [(.ref ha), (.int ln)] [(.ref v)] rfl rfl pd12 rfl rfl (by decide) (Nat.le_of_ble_eq_true rfl) (by decide) (by decide) (fun _ _ q => by obtain ⟨_, _, q2, _⟩ := q; exact Nat.le_trans X30.2.1 q2.1) (fun v31 h31 T31 X31 q31 => ?_)
    obtain ⟨nh, rfl, K31, z31, A31⟩ := q31
    show own_G p e below (T31.setTop (mkF m 111 #[.val (.ref v), .val (.long xx), .second, .val (.long vv), .second, .val (.int at1), .val (.int ln)] [(.ref nh), (.ref v)])) _
    have n_nh : n0 ≤ nh := Nat.le_trans X30.2.1 z31
    have ne_va_nh : va ≠ nh := Nat.ne_of_lt (Nat.lt_of_lt_of_le lt_va z31)
    have ne_ha_nh : ha ≠ nh := Nat.ne_of_lt (Nat.lt_of_lt_of_le lt_ha z31)
    have ne_na_nh : na ≠ nh := Nat.ne_of_lt (Nat.lt_of_lt_of_le lt_na z31)
    have ne_v_nh : v ≠ nh := Nat.ne_of_lt (Nat.lt_of_lt_of_le lt_v z31)
    have A32 := own_A_keep A29_va K31 (ninS ne_va_nh nin0)
    have A33 := own_I_keep A29_ha K31 (ninS ne_ha_nh nin0)
    have A34 := own_A_keep A29_na K31 (ninS ne_na_nh nin0)
    have F35 := Fld.keep G29_v_base K31 (ninS ne_v_nh nin0)
    have F36 := Fld.keep G29_v_kept K31 (ninS ne_v_nh nin0)
    have F37 := Fld.keep G29_v_values K31 (ninS ne_v_nh nin0)
    have F38 := Fld.keep G29_v_held K31 (ninS ne_v_nh nin0)
    have F39 := Fld.keep G29_v_size K31 (ninS ne_v_nh nin0)
    have Q40 := Exa.keep Q29_v K31
    refine own_putF X31 (hw _ (List.mem_of_getElem? (i := 19) rfl)) F38 Q40 (Or.inl (hw _ (List.mem_of_getElem? (i := 20) rfl))) (hw _ (List.mem_of_getElem? (i := 3) rfl)) (ty := (.array .boolean)) (by decide) rfl rfl n_v d5_111 (fun h41 T41 X41 W41 => ?_)
    have G41_v_base := Fld.other W41 F35 (Or.inr (slot_ne (Or.inl (hw _ (List.mem_of_getElem? (i := 12) rfl))) (Or.inl (hw _ (List.mem_of_getElem? (i := 20) rfl))) (by decide) (t := .long) (t' := (.array .boolean)) (by decide) (by decide)))
    have G41_v_kept := Fld.other W41 F36 (Or.inr (slot_ne (Or.inl (hw _ (List.mem_of_getElem? (i := 14) rfl))) (Or.inl (hw _ (List.mem_of_getElem? (i := 20) rfl))) (by decide) (t := .long) (t' := (.array .boolean)) (by decide) (by decide)))
    have G41_v_values := Fld.other W41 F37 (Or.inr (slot_ne (Or.inl (hw _ (List.mem_of_getElem? (i := 17) rfl))) (Or.inl (hw _ (List.mem_of_getElem? (i := 20) rfl))) (by decide) (t := (.array .long)) (t' := (.array .boolean)) (by decide) (by decide)))
    have G41_v_held := Fld.same W41 F38
    have G41_v_size := Fld.other W41 F39 (Or.inr (slot_ne (Or.inl (hw _ (List.mem_of_getElem? (i := 45) rfl))) (Or.inl (hw _ (List.mem_of_getElem? (i := 20) rfl))) (by decide) (t := .int) (t' := (.array .boolean)) (by decide) (by decide)))
    have Q41_v := Exa.wr W41 Q40
    have A41_va := own_A_other A32 W41 (by first | exact ne_va_v | exact fun q => ne_v_va q.symm)
    have A41_ha := own_I_other A33 W41 (by first | exact ne_ha_v | exact fun q => ne_v_ha q.symm)
    have A41_na := own_A_other A34 W41 (by first | exact ne_na_v | exact fun q => ne_v_na q.symm)
    have A41_nh := own_I_other A31 W41 (by first | exact ne_nh_v | exact fun q => ne_v_nh q.symm)
    show own_G p e below (T41.setTop (mkF m 114 #[.val (.ref v), .val (.long xx), .second, .val (.long vv), .second, .val (.int at1), .val (.int ln)] [])) _
    refine own_blk X41 B5_114_115 B5_114_115d (ls' := #[.val (.ref v), .val (.long xx), .second, .val (.long vv), .second, .val (.int at1), .val (.int ln)]) (st' := [(.ref v)]) rfl ?_
    refine own_getF X41 (hw _ (List.mem_of_getElem? (i := 19) rfl)) G41_v_held d5_115 (fun T42 X42 => ?_)
    refine own_blk X42 B5_118_120 B5_118_120d (ls' := #[.val (.ref v), .val (.long xx), .second, .val (.long vv), .second, .val (.int at1), .val (.int ln)]) (st' := [(.int at1), (.ref nh)]) rfl ?_
    refine own_zald X42 A41_nh d5_120 (by omega) (by omega) ?_
    show own_G p e below (T42.setTop (mkF m 121 #[.val (.ref v), .val (.long xx), .second, .val (.long vv), .second, .val (.int at1), .val (.int ln)] [(.int ((fun j => if j < (n : Int) then hv j else 0) at1.toInt))])) _
    refine own_if X42 d5_121 (pc' := 134) (by decide) (fun c121 => ?_) (fun c121 => ?_)
    · have c121 : ¬ ((fun j => if j < (n : Int) then hv j else 0) at1.toInt).toInt = 0 := c121
      refine own_blk X42 B5_134_135 B5_134_135d (ls' := #[.val (.ref v), .val (.long xx), .second, .val (.long vv), .second, .val (.int at1), .val (.int ln)]) (st' := [(.ref v)]) rfl ?_
      refine own_getF X42 (hw _ (List.mem_of_getElem? (i := 16) rfl)) G41_v_values d5_135 (fun T43 X43 => ?_)
      refine own_blk X43 B5_138_141 B5_138_141d (ls' := #[.val (.ref v), .val (.long xx), .second, .val (.long vv), .second, .val (.int at1), .val (.int ln)]) (st' := [(.long vv), (.int at1), (.ref na)]) rfl ?_
      refine own_jast X43 A41_na n_na d5_141 (by omega) (by omega) (fun h44 T44 X44 A44 W44 => ?_)
      have A44 : own_A Z h44 na .long ln.toInt.toNat (fun j => .long (own_u fv20 at1.toInt vv j)) := own_A_eq A44 (fun j _ _ => by simp only [own_u]; split <;> rfl)
      have A44_nh := own_I_other A41_nh W44 (by first | exact ne_nh_na | exact fun q => ne_na_nh q.symm)
      have F44_v_base := Fld.other W44 G41_v_base (Or.inl (by first | exact ne_v_na | exact fun q => ne_na_v q.symm))
      have F44_v_kept := Fld.other W44 G41_v_kept (Or.inl (by first | exact ne_v_na | exact fun q => ne_na_v q.symm))
      have F44_v_values := Fld.other W44 G41_v_values (Or.inl (by first | exact ne_v_na | exact fun q => ne_na_v q.symm))
      have F44_v_held := Fld.other W44 G41_v_held (Or.inl (by first | exact ne_v_na | exact fun q => ne_na_v q.symm))
      have F44_v_size := Fld.other W44 G41_v_size (Or.inl (by first | exact ne_v_na | exact fun q => ne_na_v q.symm))
      have Q44_v := Exa.wr W44 Q41_v
      refine own_blk X44 B5_142_143 B5_142_143d (ls' := #[.val (.ref v), .val (.long xx), .second, .val (.long vv), .second, .val (.int at1), .val (.int ln)]) (st' := [(.ref v)]) rfl ?_
      refine own_getF X44 (hw _ (List.mem_of_getElem? (i := 19) rfl)) F44_v_held d5_143 (fun T45 X45 => ?_)
      refine own_blk X45 B5_146_149 B5_146_149d (ls' := #[.val (.ref v), .val (.long xx), .second, .val (.long vv), .second, .val (.int at1), .val (.int ln)]) (st' := [(.int (1 : Int32)), (.int at1), (.ref nh)]) rfl ?_
      refine own_zast X45 A44_nh n_nh d5_149 (by omega) (by omega) (by decide) (fun h46 T46 X46 A46 W46 => ?_)
      have A46 : own_I Z h46 nh .boolean ln.toInt.toNat (own_u (fun j => if j < (n : Int) then hv j else 0) (xx.toInt - B.toInt) (1 : Int32)) := by rw [← hat]; exact A46
      generalize eg46 : own_u (fun j => if j < (n : Int) then hv j else 0) (xx.toInt - B.toInt) (1 : Int32) = g46 at A46
      have A46_na := own_A_other A44 W46 (by first | exact ne_na_nh | exact fun q => ne_nh_na q.symm)
      have F46_v_base := Fld.other W46 F44_v_base (Or.inl (by first | exact ne_v_nh | exact fun q => ne_nh_v q.symm))
      have F46_v_kept := Fld.other W46 F44_v_kept (Or.inl (by first | exact ne_v_nh | exact fun q => ne_nh_v q.symm))
      have F46_v_values := Fld.other W46 F44_v_values (Or.inl (by first | exact ne_v_nh | exact fun q => ne_nh_v q.symm))
      have F46_v_held := Fld.other W46 F44_v_held (Or.inl (by first | exact ne_v_nh | exact fun q => ne_nh_v q.symm))
      have F46_v_size := Fld.other W46 F44_v_size (Or.inl (by first | exact ne_v_nh | exact fun q => ne_nh_v q.symm))
      have Q46_v := Exa.wr W46 Q44_v
      exact own_retV X46 d5_150 (by decide) (by decide) (⟨rfl, X46.2.1, ln.toInt.toNat, by omega, by omega, na, nh, _, _, g46, ⟨Q46_v, F46_v_base, F46_v_kept, F46_v_values, F46_v_held, F46_v_size, A46_na, A46, n_v, n_na, n_nh, (by first | exact ne_v_na | exact fun q => ne_na_v q.symm), (by first | exact ne_v_nh | exact fun q => ne_nh_v q.symm), (by first | exact ne_na_nh | exact fun q => ne_nh_na q.symm)⟩, by rw [← eg46]; exact (own_put_mem hBK hK hv01 hmem (by omega) (by omega) (hvG := (fun j => if j < (n : Int) then hv j else 0)) (n' := ln.toInt.toNat) (fun j q0 q1 => rfl)).1, by rw [← eg46]; exact (own_put_mem hBK hK hv01 hmem (by omega) (by omega) (hvG := (fun j => if j < (n : Int) then hv j else 0)) (n' := ln.toInt.toNat) (fun j q0 q1 => rfl)).2⟩)
    · have c121 : ¬ (¬ ((fun j => if j < (n : Int) then hv j else 0) at1.toInt).toInt = 0) := c121
      refine own_blk X42 B5_124_126 B5_124_126d (ls' := #[.val (.ref v), .val (.long xx), .second, .val (.long vv), .second, .val (.int at1), .val (.int ln)]) (st' := [(.ref v), (.ref v)]) rfl ?_
      refine own_getF X42 (hw _ (List.mem_of_getElem? (i := 44) rfl)) G41_v_size d5_126 (fun T47 X47 => ?_)
      refine own_blk X47 B5_129_131 B5_129_131d (ls' := #[.val (.ref v), .val (.long xx), .second, .val (.long vv), .second, .val (.int at1), .val (.int ln)]) (st' := [(.int (sz + (1 : Int32))), (.ref v)]) rfl ?_
      refine own_putF X47 (hw _ (List.mem_of_getElem? (i := 44) rfl)) G41_v_size Q41_v (Or.inl (hw _ (List.mem_of_getElem? (i := 45) rfl))) (hw _ (List.mem_of_getElem? (i := 3) rfl)) (ty := .int) (by decide) rfl rfl n_v d5_131 (fun h48 T48 X48 W48 => ?_)
      have G48_v_base := Fld.other W48 G41_v_base (Or.inr (slot_ne (Or.inl (hw _ (List.mem_of_getElem? (i := 12) rfl))) (Or.inl (hw _ (List.mem_of_getElem? (i := 45) rfl))) (by decide) (t := .long) (t' := .int) (by decide) (by decide)))
      have G48_v_kept := Fld.other W48 G41_v_kept (Or.inr (slot_ne (Or.inl (hw _ (List.mem_of_getElem? (i := 14) rfl))) (Or.inl (hw _ (List.mem_of_getElem? (i := 45) rfl))) (by decide) (t := .long) (t' := .int) (by decide) (by decide)))
      have G48_v_values := Fld.other W48 G41_v_values (Or.inr (slot_ne (Or.inl (hw _ (List.mem_of_getElem? (i := 17) rfl))) (Or.inl (hw _ (List.mem_of_getElem? (i := 45) rfl))) (by decide) (t := (.array .long)) (t' := .int) (by decide) (by decide)))
      have G48_v_held := Fld.other W48 G41_v_held (Or.inr (slot_ne (Or.inl (hw _ (List.mem_of_getElem? (i := 20) rfl))) (Or.inl (hw _ (List.mem_of_getElem? (i := 45) rfl))) (by decide) (t := (.array .boolean)) (t' := .int) (by decide) (by decide)))
      have G48_v_size := Fld.same W48 G41_v_size
      have Q48_v := Exa.wr W48 Q41_v
      have A48_na := own_A_other A41_na W48 (by first | exact ne_na_v | exact fun q => ne_v_na q.symm)
      have A48_nh := own_I_other A41_nh W48 (by first | exact ne_nh_v | exact fun q => ne_v_nh q.symm)
      show own_G p e below (T48.setTop (mkF m 134 #[.val (.ref v), .val (.long xx), .second, .val (.long vv), .second, .val (.int at1), .val (.int ln)] [])) _
      refine own_blk X48 B5_134_135 B5_134_135d (ls' := #[.val (.ref v), .val (.long xx), .second, .val (.long vv), .second, .val (.int at1), .val (.int ln)]) (st' := [(.ref v)]) rfl ?_
      refine own_getF X48 (hw _ (List.mem_of_getElem? (i := 16) rfl)) G48_v_values d5_135 (fun T49 X49 => ?_)
      refine own_blk X49 B5_138_141 B5_138_141d (ls' := #[.val (.ref v), .val (.long xx), .second, .val (.long vv), .second, .val (.int at1), .val (.int ln)]) (st' := [(.long vv), (.int at1), (.ref na)]) rfl ?_
      refine own_jast X49 A48_na n_na d5_141 (by omega) (by omega) (fun h50 T50 X50 A50 W50 => ?_)
      have A50 : own_A Z h50 na .long ln.toInt.toNat (fun j => .long (own_u fv20 at1.toInt vv j)) := own_A_eq A50 (fun j _ _ => by simp only [own_u]; split <;> rfl)
      have A50_nh := own_I_other A48_nh W50 (by first | exact ne_nh_na | exact fun q => ne_na_nh q.symm)
      have F50_v_base := Fld.other W50 G48_v_base (Or.inl (by first | exact ne_v_na | exact fun q => ne_na_v q.symm))
      have F50_v_kept := Fld.other W50 G48_v_kept (Or.inl (by first | exact ne_v_na | exact fun q => ne_na_v q.symm))
      have F50_v_values := Fld.other W50 G48_v_values (Or.inl (by first | exact ne_v_na | exact fun q => ne_na_v q.symm))
      have F50_v_held := Fld.other W50 G48_v_held (Or.inl (by first | exact ne_v_na | exact fun q => ne_na_v q.symm))
      have F50_v_size := Fld.other W50 G48_v_size (Or.inl (by first | exact ne_v_na | exact fun q => ne_na_v q.symm))
      have Q50_v := Exa.wr W50 Q48_v
      refine own_blk X50 B5_142_143 B5_142_143d (ls' := #[.val (.ref v), .val (.long xx), .second, .val (.long vv), .second, .val (.int at1), .val (.int ln)]) (st' := [(.ref v)]) rfl ?_
      refine own_getF X50 (hw _ (List.mem_of_getElem? (i := 19) rfl)) F50_v_held d5_143 (fun T51 X51 => ?_)
      refine own_blk X51 B5_146_149 B5_146_149d (ls' := #[.val (.ref v), .val (.long xx), .second, .val (.long vv), .second, .val (.int at1), .val (.int ln)]) (st' := [(.int (1 : Int32)), (.int at1), (.ref nh)]) rfl ?_
      refine own_zast X51 A50_nh n_nh d5_149 (by omega) (by omega) (by decide) (fun h52 T52 X52 A52 W52 => ?_)
      have A52 : own_I Z h52 nh .boolean ln.toInt.toNat (own_u (fun j => if j < (n : Int) then hv j else 0) (xx.toInt - B.toInt) (1 : Int32)) := by rw [← hat]; exact A52
      generalize eg52 : own_u (fun j => if j < (n : Int) then hv j else 0) (xx.toInt - B.toInt) (1 : Int32) = g52 at A52
      have A52_na := own_A_other A50 W52 (by first | exact ne_na_nh | exact fun q => ne_nh_na q.symm)
      have F52_v_base := Fld.other W52 F50_v_base (Or.inl (by first | exact ne_v_nh | exact fun q => ne_nh_v q.symm))
      have F52_v_kept := Fld.other W52 F50_v_kept (Or.inl (by first | exact ne_v_nh | exact fun q => ne_nh_v q.symm))
      have F52_v_values := Fld.other W52 F50_v_values (Or.inl (by first | exact ne_v_nh | exact fun q => ne_nh_v q.symm))
      have F52_v_held := Fld.other W52 F50_v_held (Or.inl (by first | exact ne_v_nh | exact fun q => ne_nh_v q.symm))
      have F52_v_size := Fld.other W52 F50_v_size (Or.inl (by first | exact ne_v_nh | exact fun q => ne_nh_v q.symm))
      have Q52_v := Exa.wr W52 Q50_v
      exact own_retV X52 d5_150 (by decide) (by decide) (⟨rfl, X52.2.1, ln.toInt.toNat, by omega, by omega, na, nh, _, _, g52, ⟨Q52_v, F52_v_base, F52_v_kept, F52_v_values, F52_v_held, F52_v_size, A52_na, A52, n_v, n_na, n_nh, (by first | exact ne_v_na | exact fun q => ne_na_v q.symm), (by first | exact ne_v_nh | exact fun q => ne_nh_v q.symm), (by first | exact ne_na_nh | exact fun q => ne_nh_na q.symm)⟩, by rw [← eg52]; exact (own_put_mem hBK hK hv01 hmem (by omega) (by omega) (hvG := (fun j => if j < (n : Int) then hv j else 0)) (n' := ln.toInt.toNat) (fun j q0 q1 => rfl)).1, by rw [← eg52]; exact (own_put_mem hBK hK hv01 hmem (by omega) (by omega) (hvG := (fun j => if j < (n : Int) then hv j else 0)) (n' := ln.toInt.toNat) (fun j q0 q1 => rfl)).2⟩)
abbrev own_y6 : MethodName := ⟨"lonewatch/model/InstanceValues", "holds", "(J)Z"⟩
theorem pl6 : plainFor own_y6 = true := plainFor_of_name (by first | (simp [plainName, overriddenIn]; done) | decide +kernel)
def B6_0_2 : List (Instr × Nat) := [(.lload_n 1, 1), (.aload_n 0, 1)]
theorem B6_0_2d : own_d prog_110_method_3_code 0 B6_0_2 2 = true := by decide +kernel
theorem d6_2 : decode prog_110_method_3_code 2 = .ok (.getfield 15, 3) := by decide +kernel
theorem d6_5 : decode prog_110_method_3_code 5 = .ok (.lcmp, 1) := by decide +kernel
theorem d6_6 : decode prog_110_method_3_code 6 = .ok (.ifCond .lt 38, 3) := by decide +kernel
def B6_44_45 : List (Instr × Nat) := [(.iconst 0, 1)]
theorem B6_44_45d : own_d prog_110_method_3_code 44 B6_44_45 45 = true := by decide +kernel
theorem d6_45 : decode prog_110_method_3_code 45 = .ok (.ireturn, 1) := by decide +kernel
def B6_9_11 : List (Instr × Nat) := [(.lload_n 1, 1), (.aload_n 0, 1)]
theorem B6_9_11d : own_d prog_110_method_3_code 9 B6_9_11 11 = true := by decide +kernel
theorem d6_11 : decode prog_110_method_3_code 11 = .ok (.getfield 9, 3) := by decide +kernel
def B6_14_16 : List (Instr × Nat) := [(.lsub, 1), (.aload_n 0, 1)]
theorem B6_14_16d : own_d prog_110_method_3_code 14 B6_14_16 16 = true := by decide +kernel
theorem d6_16 : decode prog_110_method_3_code 16 = .ok (.getfield 22, 3) := by decide +kernel
theorem d6_19 : decode prog_110_method_3_code 19 = .ok (.arraylength, 1) := by decide +kernel
def B6_20_21 : List (Instr × Nat) := [(.i2l, 1)]
theorem B6_20_21d : own_d prog_110_method_3_code 20 B6_20_21 21 = true := by decide +kernel
theorem d6_21 : decode prog_110_method_3_code 21 = .ok (.lcmp, 1) := by decide +kernel
theorem d6_22 : decode prog_110_method_3_code 22 = .ok (.ifCond .ge 22, 3) := by decide +kernel
def B6_25_26 : List (Instr × Nat) := [(.aload_n 0, 1)]
theorem B6_25_26d : own_d prog_110_method_3_code 25 B6_25_26 26 = true := by decide +kernel
theorem d6_26 : decode prog_110_method_3_code 26 = .ok (.getfield 22, 3) := by decide +kernel
def B6_29_31 : List (Instr × Nat) := [(.lload_n 1, 1), (.aload_n 0, 1)]
theorem B6_29_31d : own_d prog_110_method_3_code 29 B6_29_31 31 = true := by decide +kernel
theorem d6_31 : decode prog_110_method_3_code 31 = .ok (.getfield 9, 3) := by decide +kernel
def B6_34_36 : List (Instr × Nat) := [(.lsub, 1), (.l2i, 1)]
theorem B6_34_36d : own_d prog_110_method_3_code 34 B6_34_36 36 = true := by decide +kernel
theorem d6_36 : decode prog_110_method_3_code 36 = .ok (.baload, 1) := by decide +kernel
theorem d6_37 : decode prog_110_method_3_code 37 = .ok (.ifCond .eq 7, 3) := by decide +kernel
def B6_40_41 : List (Instr × Nat) := [(.iconst 1, 1)]
theorem B6_40_41d : own_d prog_110_method_3_code 40 B6_40_41 41 = true := by decide +kernel
theorem d6_41 : decode prog_110_method_3_code 41 = .ok (.goto 4, 3) := by decide +kernel
set_option maxRecDepth 65536 in
set_option maxHeartbeats 40000000 in
theorem c_holds (l : Launch) (Z : State) (a0 : Array Value) (hw : ∀ d ∈ tables_1, d.before a0 Z = true) (v : Addr) (q B K : Int64) (n : Nat) (mem : Int → Prop) (h0 : Heap) (n0 : Nat) (Z0 : n0 ≤ h0.size) (HS : own_S Z h0 n0 v B K n mem) (hB : 1 ≤ B.toInt) (hBK : B.toInt ≤ K.toInt) :
    own_C l Z own_y6 prog_110_method_3_code 3 (some .boolean) ({ frames := 0, cells := 0, slots := 0, locals := 0 } : Room) #[(.ref v), (.long q)] h0 n0 (fun v' h => ∃ z : Int32, v' = some (.int z) ∧ h = h0 ∧ ((z.toInt = 1 ∧ K.toInt ≤ q.toInt ∧ mem q.toInt) ∨ (z.toInt = 0 ∧ ¬ (K.toInt ≤ q.toInt ∧ mem q.toInt)))) := by
  refine own_body pl6 Z0 (ls := #[.val (.ref v), .val (.long q), .second]) (fun m => by first | (simp [entryFrame, mkF, argsToLocals, Value.category]; done) | rfl) ?_
  intro p e s m below meth c T0 X0
  obtain ⟨va, ha, sz, fv, hv, ⟨E, Pb, Pk, Pv, Ph, Ps, Av, Ah, n_v, n_va, n_ha, ne_v_va, ne_v_ha, ne_va_ha⟩, hv01, hmem⟩ := HS
  have hn2 := Av.1
  have hN : (Int32.ofNat n).toInt = (n : Int) := own_ofNat Av.1
  have hq2 := q.toInt_lt
  refine own_blk X0 B6_0_2 B6_0_2d (ls' := #[.val (.ref v), .val (.long q), .second]) (st' := [(.ref v), (.long q)]) rfl ?_
  refine own_getF X0 (hw _ (List.mem_of_getElem? (i := 13) rfl)) Pk d6_2 (fun T1 X1 => ?_)
  refine own_lif X1 d6_5 d6_6 (pc' := 44) (by decide) (fun c5 => ?_) (fun c5 => ?_)
  · have c5 : q.toInt < K.toInt := c5
    refine own_blk X1 B6_44_45 B6_44_45d (ls' := #[.val (.ref v), .val (.long q), .second]) (st' := [(.int (0 : Int32))]) rfl ?_
    exact own_retN X1 (by simp) d6_45 (v' := (0 : Int32)) (rfl) (by decide) (by decide) (⟨_, rfl, rfl, Or.inr ⟨rfl, fun q1 => by omega⟩⟩)
  · have c5 : ¬ (q.toInt < K.toInt) := c5
    have hqB : (q - B).toInt = q.toInt - B.toInt := Jvm.Kit.i64_sub (by omega) (by omega)
    have hN6 : ((Int32.ofNat n).toInt64).toInt = (n : Int) := by rw [Jvm.Kit.i64_of_i32, hN]
    have hmq := hmem q.toInt (by omega)
    refine own_blk X1 B6_9_11 B6_9_11d (ls' := #[.val (.ref v), .val (.long q), .second]) (st' := [(.ref v), (.long q)]) rfl ?_
    refine own_getF X1 (hw _ (List.mem_of_getElem? (i := 11) rfl)) Pb d6_11 (fun T2 X2 => ?_)
    refine own_blk X2 B6_14_16 B6_14_16d (ls' := #[.val (.ref v), .val (.long q), .second]) (st' := [(.ref v), (.long (q - B))]) rfl ?_
    refine own_getF X2 (hw _ (List.mem_of_getElem? (i := 19) rfl)) Ph d6_16 (fun T3 X3 => ?_)
    refine own_len X3 Ah d6_19 ?_
    refine own_blk X3 B6_20_21 B6_20_21d (ls' := #[.val (.ref v), .val (.long q), .second]) (st' := [(.long ((Int32.ofNat n).toInt64)), (.long (q - B))]) rfl ?_
    refine own_lif X3 d6_21 d6_22 (pc' := 44) (by decide) (fun c21 => ?_) (fun c21 => ?_)
    · have c21 : ((Int32.ofNat n).toInt64).toInt ≤ (q - B).toInt := c21
      refine own_blk X3 B6_44_45 B6_44_45d (ls' := #[.val (.ref v), .val (.long q), .second]) (st' := [(.int (0 : Int32))]) rfl ?_
      exact own_retN X3 (by simp) d6_45 (v' := (0 : Int32)) (rfl) (by decide) (by decide) (⟨_, rfl, rfl, Or.inr ⟨rfl, fun q1 => by have q2 := (hmq.mp q1.2).1; omega⟩⟩)
    · have c21 : ¬ (((Int32.ofNat n).toInt64).toInt ≤ (q - B).toInt) := c21
      have hqi : ((q - B).toInt32).toInt = q.toInt - B.toInt := by rw [Jvm.Kit.i32_of_i64 (by omega) (by omega), hqB]
      refine own_blk X3 B6_25_26 B6_25_26d (ls' := #[.val (.ref v), .val (.long q), .second]) (st' := [(.ref v)]) rfl ?_
      refine own_getF X3 (hw _ (List.mem_of_getElem? (i := 19) rfl)) Ph d6_26 (fun T4 X4 => ?_)
      refine own_blk X4 B6_29_31 B6_29_31d (ls' := #[.val (.ref v), .val (.long q), .second]) (st' := [(.ref v), (.long q), (.ref ha)]) rfl ?_
      refine own_getF X4 (hw _ (List.mem_of_getElem? (i := 11) rfl)) Pb d6_31 (fun T5 X5 => ?_)
      refine own_blk X5 B6_34_36 B6_34_36d (ls' := #[.val (.ref v), .val (.long q), .second]) (st' := [(.int ((q - B).toInt32)), (.ref ha)]) rfl ?_
      refine own_zald X5 Ah d6_36 (by omega) (by omega) ?_
      show own_G p e below (T5.setTop (mkF m 37 #[.val (.ref v), .val (.long q), .second] [(.int (hv ((q - B).toInt32).toInt))])) _
      rw [hqi]
      have h01 := hv01 (q.toInt - B.toInt) (by omega) (by omega)
      refine own_if X5 d6_37 (pc' := 44) (by decide) (fun c37 => ?_) (fun c37 => ?_)
      · have c37 : (hv (q.toInt - B.toInt)).toInt = 0 := c37
        refine own_blk X5 B6_44_45 B6_44_45d (ls' := #[.val (.ref v), .val (.long q), .second]) (st' := [(.int (0 : Int32))]) rfl ?_
        exact own_retN X5 (by simp) d6_45 (v' := (0 : Int32)) (rfl) (by decide) (by decide) (⟨_, rfl, rfl, Or.inr ⟨rfl, fun q1 => by have q2 := (hmq.mp q1.2).2; rw [q2] at c37; exact absurd c37 (by decide)⟩⟩)
      · have c37 : ¬ ((hv (q.toInt - B.toInt)).toInt = 0) := c37
        refine own_blk X5 B6_40_41 B6_40_41d (ls' := #[.val (.ref v), .val (.long q), .second]) (st' := [(.int (1 : Int32))]) rfl ?_
        refine own_goto X5 d6_41 (pc' := 45) (by decide) ?_
        exact own_retN X5 (by simp) d6_45 (v' := (1 : Int32)) (rfl) (by decide) (by decide) (⟨_, rfl, rfl, Or.inl ⟨rfl, by omega, hmq.mpr ⟨by omega, by rcases h01 with q1 | q1; rw [q1] at c37; exact absurd rfl c37; exact q1⟩⟩⟩)
theorem own_forget_mem {hv hvC hvN : Int → Int32} {n n' : Nat} {K2 kx g : Int} {mem : Int → Prop} (hm : ∀ k : Int, 1 ≤ k → (mem k ↔ (k - 1 < n ∧ hv (k - 1) = 1))) (hC : ∀ j : Int, 0 ≤ j → j < n → hvC j = if j < kx - 1 then 0 else hv j) (hk1 : 1 ≤ K2) (hkx : kx ≤ K2) (hg0 : 0 ≤ g) (hg : g ≤ K2 - 1) (hgn : g ≤ n) (hn' : (n : Int) - g ≤ n') (hN : ∀ j : Int, 0 ≤ j → j < n' → hvN j = if j < (n : Int) - g then hvC (g + j) else 0) :
    ∀ k : Int, K2 ≤ k → (mem k ↔ (k - (1 + g) < n' ∧ hvN (k - (1 + g)) = 1)) := by
  intro k hk
  rw [hm k (by omega)]
  constructor
  · rintro ⟨q1, q2⟩
    refine ⟨by omega, ?_⟩
    rw [hN _ (by omega) (by omega), if_pos (by omega), hC _ (by omega) (by omega), if_neg (by omega)]
    rw [show g + (k - (1 + g)) = k - 1 by omega]; exact q2
  · rintro ⟨q1, q2⟩
    rw [hN _ (by omega) q1] at q2
    by_cases q3 : k - (1 + g) < (n : Int) - g
    · rw [if_pos q3, hC _ (by omega) (by omega), if_neg (by omega), show g + (k - (1 + g)) = k - 1 by omega] at q2
      exact ⟨by omega, q2⟩
    · rw [if_neg q3] at q2; exact absurd q2 (by decide)
theorem own_clear {hv hvC : Int → Int32} {n : Nat} {k : Int} (hC : ∀ j : Int, 0 ≤ j → j < n → hvC j = if j < k - 1 then 0 else hv j) (hk : 1 ≤ k) : ∀ j : Int, 0 ≤ j → j < n → own_u hvC (k - 1) 0 j = if j < k + 1 - 1 then 0 else hv j := by
  intro j q0 q1
  by_cases e : j = k - 1
  · rw [own_u_eq e, if_pos (by omega)]
  · rw [own_u_ne e, hC j q0 q1]
    by_cases q2 : j < k - 1
    · rw [if_pos q2, if_pos (by omega)]
    · rw [if_neg q2, if_neg (by omega)]
abbrev own_y7 : MethodName := ⟨"lonewatch/model/InstanceValues", "forgetBelow", "(J)V"⟩
theorem pl7 : plainFor own_y7 = true := plainFor_of_name (by first | (simp [plainName, overriddenIn]; done) | decide +kernel)
def B7_0_2 : List (Instr × Nat) := [(.lload_n 1, 1), (.aload_n 0, 1)]
theorem B7_0_2d : own_d prog_110_method_5_code 0 B7_0_2 2 = true := by decide +kernel
theorem d7_2 : decode prog_110_method_5_code 2 = .ok (.getfield 9, 3) := by decide +kernel
def B7_5_6 : List (Instr × Nat) := [(.aload_n 0, 1)]
theorem B7_5_6d : own_d prog_110_method_5_code 5 B7_5_6 6 = true := by decide +kernel
theorem d7_6 : decode prog_110_method_5_code 6 = .ok (.getfield 22, 3) := by decide +kernel
theorem d7_9 : decode prog_110_method_5_code 9 = .ok (.arraylength, 1) := by decide +kernel
def B7_10_12 : List (Instr × Nat) := [(.i2l, 1), (.ladd, 1)]
theorem B7_10_12d : own_d prog_110_method_5_code 10 B7_10_12 12 = true := by decide +kernel
theorem d7_12 : decode prog_110_method_5_code 12 = .ok (.invokestatic 68, 3) := by decide +kernel
def B7_15_16 : List (Instr × Nat) := [(.lstore_n 3, 1)]
theorem B7_15_16d : own_d prog_110_method_5_code 15 B7_15_16 16 = true := by decide +kernel
def B7_16_17 : List (Instr × Nat) := [(.aload_n 0, 1)]
theorem B7_16_17d : own_d prog_110_method_5_code 16 B7_16_17 17 = true := by decide +kernel
theorem d7_17 : decode prog_110_method_5_code 17 = .ok (.getfield 15, 3) := by decide +kernel
def B7_20_22 : List (Instr × Nat) := [(.lstore 5, 2)]
theorem B7_20_22d : own_d prog_110_method_5_code 20 B7_20_22 22 = true := by decide +kernel
def B7_22_25 : List (Instr × Nat) := [(.lload 5, 2), (.lload_n 3, 1)]
theorem B7_22_25d : own_d prog_110_method_5_code 22 B7_22_25 25 = true := by decide +kernel
theorem d7_25 : decode prog_110_method_5_code 25 = .ok (.lcmp, 1) := by decide +kernel
theorem d7_26 : decode prog_110_method_5_code 26 = .ok (.ifCond .ge 52, 3) := by decide +kernel
def B7_78_80 : List (Instr × Nat) := [(.aload_n 0, 1), (.aload_n 0, 1)]
theorem B7_78_80d : own_d prog_110_method_5_code 78 B7_78_80 80 = true := by decide +kernel
theorem d7_80 : decode prog_110_method_5_code 80 = .ok (.getfield 15, 3) := by decide +kernel
def B7_83_84 : List (Instr × Nat) := [(.lload_n 1, 1)]
theorem B7_83_84d : own_d prog_110_method_5_code 83 B7_83_84 84 = true := by decide +kernel
theorem d7_84 : decode prog_110_method_5_code 84 = .ok (.invokestatic 62, 3) := by decide +kernel
theorem d7_87 : decode prog_110_method_5_code 87 = .ok (.putfield 15, 3) := by decide +kernel
def B7_90_91 : List (Instr × Nat) := [(.aload_n 0, 1)]
theorem B7_90_91d : own_d prog_110_method_5_code 90 B7_90_91 91 = true := by decide +kernel
theorem d7_91 : decode prog_110_method_5_code 91 = .ok (.getfield 22, 3) := by decide +kernel
theorem d7_94 : decode prog_110_method_5_code 94 = .ok (.arraylength, 1) := by decide +kernel
def B7_95_97 : List (Instr × Nat) := [(.i2l, 1), (.aload_n 0, 1)]
theorem B7_95_97d : own_d prog_110_method_5_code 95 B7_95_97 97 = true := by decide +kernel
theorem d7_97 : decode prog_110_method_5_code 97 = .ok (.getfield 15, 3) := by decide +kernel
def B7_100_101 : List (Instr × Nat) := [(.aload_n 0, 1)]
theorem B7_100_101d : own_d prog_110_method_5_code 100 B7_100_101 101 = true := by decide +kernel
theorem d7_101 : decode prog_110_method_5_code 101 = .ok (.getfield 9, 3) := by decide +kernel
def B7_104_105 : List (Instr × Nat) := [(.lsub, 1)]
theorem B7_104_105d : own_d prog_110_method_5_code 104 B7_104_105 105 = true := by decide +kernel
theorem d7_105 : decode prog_110_method_5_code 105 = .ok (.invokestatic 68, 3) := by decide +kernel
def B7_108_111 : List (Instr × Nat) := [(.l2i, 1), (.istore 5, 2)]
theorem B7_108_111d : own_d prog_110_method_5_code 108 B7_108_111 111 = true := by decide +kernel
def B7_111_116 : List (Instr × Nat) := [(.iconst 2, 1), (.iload 5, 2), (.imul, 1), (.aload_n 0, 1)]
theorem B7_111_116d : own_d prog_110_method_5_code 111 B7_111_116 116 = true := by decide +kernel
theorem d7_116 : decode prog_110_method_5_code 116 = .ok (.getfield 22, 3) := by decide +kernel
theorem d7_119 : decode prog_110_method_5_code 119 = .ok (.arraylength, 1) := by decide +kernel
theorem d7_120 : decode prog_110_method_5_code 120 = .ok (.if_icmp .ge 4, 3) := by decide +kernel
def B7_124_127 : List (Instr × Nat) := [(.bipush 16, 2), (.aload_n 0, 1)]
theorem B7_124_127d : own_d prog_110_method_5_code 124 B7_124_127 127 = true := by decide +kernel
theorem d7_127 : decode prog_110_method_5_code 127 = .ok (.getfield 22, 3) := by decide +kernel
theorem d7_130 : decode prog_110_method_5_code 130 = .ok (.arraylength, 1) := by decide +kernel
def B7_131_134 : List (Instr × Nat) := [(.iload 5, 2), (.isub, 1)]
theorem B7_131_134d : own_d prog_110_method_5_code 131 B7_131_134 134 = true := by decide +kernel
theorem d7_134 : decode prog_110_method_5_code 134 = .ok (.invokestatic 84, 3) := by decide +kernel
theorem pd13 : parseMethodDescriptor "(II)I" = some ⟨[.int, .int], some .int⟩ := by decide +kernel
def B7_137_139 : List (Instr × Nat) := [(.istore 6, 2)]
theorem B7_137_139d : own_d prog_110_method_5_code 137 B7_137_139 139 = true := by decide +kernel
def B7_139_141 : List (Instr × Nat) := [(.aload_n 0, 1), (.aload_n 0, 1)]
theorem B7_139_141d : own_d prog_110_method_5_code 139 B7_139_141 141 = true := by decide +kernel
theorem d7_141 : decode prog_110_method_5_code 141 = .ok (.getfield 18, 3) := by decide +kernel
def B7_144_151 : List (Instr × Nat) := [(.iload 5, 2), (.iload 5, 2), (.iload 6, 2), (.iadd, 1)]
theorem B7_144_151d : own_d prog_110_method_5_code 144 B7_144_151 151 = true := by decide +kernel
theorem d7_151 : decode prog_110_method_5_code 151 = .ok (.invokestatic 87, 3) := by decide +kernel
theorem pd14 : parseMethodDescriptor "([JII)[J" = some ⟨[(.array .long), .int, .int], some (.array .long)⟩ := by decide +kernel
theorem d7_154 : decode prog_110_method_5_code 154 = .ok (.putfield 18, 3) := by decide +kernel
def B7_157_159 : List (Instr × Nat) := [(.aload_n 0, 1), (.aload_n 0, 1)]
theorem B7_157_159d : own_d prog_110_method_5_code 157 B7_157_159 159 = true := by decide +kernel
theorem d7_159 : decode prog_110_method_5_code 159 = .ok (.getfield 22, 3) := by decide +kernel
def B7_162_169 : List (Instr × Nat) := [(.iload 5, 2), (.iload 5, 2), (.iload 6, 2), (.iadd, 1)]
theorem B7_162_169d : own_d prog_110_method_5_code 162 B7_162_169 169 = true := by decide +kernel
theorem d7_169 : decode prog_110_method_5_code 169 = .ok (.invokestatic 91, 3) := by decide +kernel
theorem pd17 : parseMethodDescriptor "([ZII)[Z" = some ⟨[(.array .boolean), .int, .int], some (.array .boolean)⟩ := by decide +kernel
theorem d7_172 : decode prog_110_method_5_code 172 = .ok (.putfield 22, 3) := by decide +kernel
def B7_175_177 : List (Instr × Nat) := [(.aload_n 0, 1), (.dup, 1)]
theorem B7_175_177d : own_d prog_110_method_5_code 175 B7_175_177 177 = true := by decide +kernel
theorem d7_177 : decode prog_110_method_5_code 177 = .ok (.getfield 9, 3) := by decide +kernel
def B7_180_184 : List (Instr × Nat) := [(.iload 5, 2), (.i2l, 1), (.ladd, 1)]
theorem B7_180_184d : own_d prog_110_method_5_code 180 B7_180_184 184 = true := by decide +kernel
theorem d7_184 : decode prog_110_method_5_code 184 = .ok (.putfield 9, 3) := by decide +kernel
theorem d7_187 : decode prog_110_method_5_code 187 = .ok (.return_, 1) := by decide +kernel
theorem d7_123 : decode prog_110_method_5_code 123 = .ok (.return_, 1) := by decide +kernel
def B7_29_30 : List (Instr × Nat) := [(.aload_n 0, 1)]
theorem B7_29_30d : own_d prog_110_method_5_code 29 B7_29_30 30 = true := by decide +kernel
theorem d7_30 : decode prog_110_method_5_code 30 = .ok (.getfield 22, 3) := by decide +kernel
def B7_33_36 : List (Instr × Nat) := [(.lload 5, 2), (.aload_n 0, 1)]
theorem B7_33_36d : own_d prog_110_method_5_code 33 B7_33_36 36 = true := by decide +kernel
theorem d7_36 : decode prog_110_method_5_code 36 = .ok (.getfield 9, 3) := by decide +kernel
def B7_39_41 : List (Instr × Nat) := [(.lsub, 1), (.l2i, 1)]
theorem B7_39_41d : own_d prog_110_method_5_code 39 B7_39_41 41 = true := by decide +kernel
theorem d7_41 : decode prog_110_method_5_code 41 = .ok (.baload, 1) := by decide +kernel
theorem d7_42 : decode prog_110_method_5_code 42 = .ok (.ifCond .eq 13, 3) := by decide +kernel
def B7_55_56 : List (Instr × Nat) := [(.aload_n 0, 1)]
theorem B7_55_56d : own_d prog_110_method_5_code 55 B7_55_56 56 = true := by decide +kernel
theorem d7_56 : decode prog_110_method_5_code 56 = .ok (.getfield 22, 3) := by decide +kernel
def B7_59_62 : List (Instr × Nat) := [(.lload 5, 2), (.aload_n 0, 1)]
theorem B7_59_62d : own_d prog_110_method_5_code 59 B7_59_62 62 = true := by decide +kernel
theorem d7_62 : decode prog_110_method_5_code 62 = .ok (.getfield 9, 3) := by decide +kernel
def B7_65_68 : List (Instr × Nat) := [(.lsub, 1), (.l2i, 1), (.iconst 0, 1)]
theorem B7_65_68d : own_d prog_110_method_5_code 65 B7_65_68 68 = true := by decide +kernel
theorem d7_68 : decode prog_110_method_5_code 68 = .ok (.bastore, 1) := by decide +kernel
def B7_69_75 : List (Instr × Nat) := [(.lload 5, 2), (.lconst 1, 1), (.ladd, 1), (.lstore 5, 2)]
theorem B7_69_75d : own_d prog_110_method_5_code 69 B7_69_75 75 = true := by decide +kernel
theorem d7_75 : decode prog_110_method_5_code 75 = .ok (.goto (-53), 3) := by decide +kernel
def B7_45_47 : List (Instr × Nat) := [(.aload_n 0, 1), (.dup, 1)]
theorem B7_45_47d : own_d prog_110_method_5_code 45 B7_45_47 47 = true := by decide +kernel
theorem d7_47 : decode prog_110_method_5_code 47 = .ok (.getfield 80, 3) := by decide +kernel
def B7_50_52 : List (Instr × Nat) := [(.iconst 1, 1), (.isub, 1)]
theorem B7_50_52d : own_d prog_110_method_5_code 50 B7_50_52 52 = true := by decide +kernel
theorem d7_52 : decode prog_110_method_5_code 52 = .ok (.putfield 80, 3) := by decide +kernel
set_option maxRecDepth 65536 in
set_option maxHeartbeats 40000000 in
theorem c_forget (l : Launch) (Z : State) (a0 : Array Value) (hw : ∀ d ∈ tables_1, d.before a0 Z = true) (v : Addr) (f : Int64) (n : Nat) (mem : Int → Prop) (h0 : Heap) (n0 : Nat) (Z0 : n0 ≤ h0.size) (HS : own_S Z h0 n0 v 1 1 n mem) (hf : 0 ≤ f.toInt ∧ f.toInt ≤ 255) (hn16 : 16 ≤ n) (hn : n ≤ 128) :
    own_C l Z own_y7 prog_110_method_5_code 7 none ({ frames := 3, cells := 2, slots := 256, locals := 60 } : Room) #[(.ref v), (.long f)] h0 n0 (fun v' h => v' = none ∧ n0 ≤ h.size ∧ ∃ (B' K' : Int64) (n' : Nat), 16 ≤ n' ∧ n' ≤ 128 ∧ 1 ≤ B'.toInt ∧ B'.toInt ≤ K'.toInt ∧ K' = own_maxJ 1 f ∧ own_S Z h n0 v B' K' n' mem) := by
  refine own_body pl7 Z0 (ls := #[.val (.ref v), .val (.long f), .second, .unset, .unset, .unset, .unset]) (fun m => by first | (simp [entryFrame, mkF, argsToLocals, Value.category]; done) | rfl) ?_
  intro p e s m below meth c T0 X0
  obtain ⟨va, ha, sz, fv, hv, ⟨E, Pb, Pk, Pv, Ph, Ps, Av, Ah, n_v, n_va, n_ha, ne_v_va, ne_v_ha, ne_va_ha⟩, hv01, hmem⟩ := HS
  have hN : (Int32.ofNat n).toInt = (n : Int) := own_ofNat (by omega)
  have hN6 : ((Int32.ofNat n).toInt64).toInt = (n : Int) := by rw [Jvm.Kit.i64_of_i32, hN]
  have hmem1 : ∀ k : Int, 1 ≤ k → (mem k ↔ (k - 1 < n ∧ hv (k - 1) = 1)) := hmem
  refine own_blk X0 B7_0_2 B7_0_2d (ls' := #[.val (.ref v), .val (.long f), .second, .unset, .unset, .unset, .unset]) (st' := [(.ref v), (.long f)]) rfl ?_
  refine own_getF X0 (hw _ (List.mem_of_getElem? (i := 11) rfl)) Pb d7_2 (fun T1 X1 => ?_)
  refine own_blk X1 B7_5_6 B7_5_6d (ls' := #[.val (.ref v), .val (.long f), .second, .unset, .unset, .unset, .unset]) (st' := [(.ref v), (.long (1 : Int64)), (.long f)]) rfl ?_
  refine own_getF X1 (hw _ (List.mem_of_getElem? (i := 19) rfl)) Ph d7_6 (fun T2 X2 => ?_)
  refine own_len X2 Ah d7_9 ?_
  refine own_blk X2 B7_10_12 B7_10_12d (ls' := #[.val (.ref v), .val (.long f), .second, .unset, .unset, .unset, .unset]) (st' := [(.long ((1 : Int64) + ((Int32.ofNat n).toInt64))), (.long f)]) rfl ?_
  refine own_callP X2 (hw _ (List.mem_of_getElem? (i := 57) rfl)) (hw _ (List.mem_of_getElem? (i := 58) rfl)) (hw _ (List.mem_of_getElem? (i := 59) rfl)) (hw _ (List.mem_of_getElem? (i := 60) rfl)) (by decide) (c_minJ l Z a0 hw f ((1 : Int64) + ((Int32.ofNat n).toInt64)) h0 n0 X2.2.1) d7_12 [(.long f), (.long ((1 : Int64) + ((Int32.ofNat n).toInt64)))] [] rfl rfl pd8 rfl rfl (by decide) (Nat.le_of_ble_eq_true rfl) (by decide) (by decide) (fun T3 X3 => ?_)
  show own_G p e below (T3.setTop (mkF m 15 #[.val (.ref v), .val (.long f), .second, .unset, .unset, .unset, .unset] [(.long (own_minJ f ((1 : Int64) + ((Int32.ofNat n).toInt64))))])) _
  refine own_blk X3 B7_15_16 B7_15_16d (ls' := #[.val (.ref v), .val (.long f), .second, .val (.long (own_minJ f ((1 : Int64) + ((Int32.ofNat n).toInt64)))), .second, .unset, .unset]) (st' := []) rfl ?_
  generalize een : (own_minJ f ((1 : Int64) + ((Int32.ofNat n).toInt64))) = en
  have hen : en.toInt ≤ f.toInt ∧ en.toInt ≤ 1 + (n : Int) ∧ (en.toInt = f.toInt ∨ en.toInt = 1 + (n : Int)) := by
    have e1 : ((1 : Int64) + (Int32.ofNat n).toInt64).toInt = 1 + (n : Int) := by rw [Jvm.Kit.i64_add (by rw [hN6]; show _ ≤ (1 : Int) + _; omega) (by rw [hN6]; show (1 : Int) + _ < _; omega), hN6]; rfl
    rw [← een]; unfold own_minJ; rw [e1]; split <;> omega
  refine own_blk X3 B7_16_17 B7_16_17d (ls' := #[.val (.ref v), .val (.long f), .second, .val (.long en), .second, .unset, .unset]) (st' := [(.ref v)]) rfl ?_
  refine own_getF X3 (hw _ (List.mem_of_getElem? (i := 13) rfl)) Pk d7_17 (fun T4 X4 => ?_)
  refine own_blk X4 B7_20_22 B7_20_22d (ls' := #[.val (.ref v), .val (.long f), .second, .val (.long en), .second, .val (.long (1 : Int64)), .second]) (st' := []) rfl ?_
  have L : ∀ (r : Nat) (kk : Int64) (hJ : Heap) (TJ : State) (szJ : Int32) (hvJ : Int → Int32), 1 ≤ kk.toInt → (en.toInt ≤ kk.toInt + r) → (kk.toInt ≤ en.toInt ∨ kk.toInt = 1) → own_X p l e ({ frames := 3, cells := 2, slots := 256, locals := 60 } : Room) s m #[(.ref v), (.long f)] below meth c Z prog_110_method_5_code 7 none own_y7 n0 hJ TJ 0 0 → Exa Z hJ v "lonewatch/model/InstanceValues" → Fld Z hJ v "lonewatch/model/InstanceValues" "base" "J" (.long 1) → Fld Z hJ v "lonewatch/model/InstanceValues" "kept" "J" (.long 1) → Fld Z hJ v "lonewatch/model/InstanceValues" "values" "[J" (.ref va) → Fld Z hJ v "lonewatch/model/InstanceValues" "held" "[Z" (.ref ha) → Fld Z hJ v "lonewatch/model/InstanceValues" "size" "I" (.int szJ) → own_A Z hJ va .long n (fun j => .long (fv j)) → own_I Z hJ ha .boolean n hvJ → (∀ j : Int, 0 ≤ j → j < n → hvJ j = if j < kk.toInt - 1 then 0 else hv j) → own_G p e below (TJ.setTop (mkF m 22 #[.val (.ref v), .val (.long f), .second, .val (.long en), .second, .val (.long kk), .second] [])) (own_E s n0 (fun v' h => v' = none ∧ n0 ≤ h.size ∧ ∃ (B' K' : Int64) (n' : Nat), 16 ≤ n' ∧ n' ≤ 128 ∧ 1 ≤ B'.toInt ∧ B'.toInt ≤ K'.toInt ∧ K' = own_maxJ 1 f ∧ own_S Z h n0 v B' K' n' mem) ({ frames := 3, cells := 2, slots := 256, locals := 60 } : Room).cells ({ frames := 3, cells := 2, slots := 256, locals := 60 } : Room).slots) := by
    intro r
    induction r with
    | zero =>
      intro kk hJ TJ szJ hvJ hk0 hkr hke XJ EJ PbJ PkJ PvJ PhJ PsJ AvJ AhJ hC
      have hki : ∀ q : (0 : Int) ≤ kk.toInt, ((kk - (1 : Int64)).toInt32).toInt = kk.toInt - 1 := fun q => by
        have e1 : (kk - (1 : Int64)).toInt = kk.toInt - 1 := Jvm.Kit.i64_sub (by show _ ≤ _ - (1 : Int); omega) (by show _ - (1 : Int) < _; omega)
        rw [Jvm.Kit.i32_of_i64 (by omega) (by omega), e1]
      refine own_blk XJ B7_22_25 B7_22_25d (ls' := #[.val (.ref v), .val (.long f), .second, .val (.long en), .second, .val (.long kk), .second]) (st' := [(.long en), (.long kk)]) rfl ?_
      refine own_lif XJ d7_25 d7_26 (pc' := 78) (by decide) (fun c25 => ?_) (fun (c25 : ¬ (en.toInt ≤ kk.toInt)) => by exfalso; omega)
      have c25 : en.toInt ≤ kk.toInt := c25
      refine own_blk XJ B7_78_80 B7_78_80d (ls' := #[.val (.ref v), .val (.long f), .second, .val (.long en), .second, .val (.long kk), .second]) (st' := [(.ref v), (.ref v)]) rfl ?_
      refine own_getF XJ (hw _ (List.mem_of_getElem? (i := 13) rfl)) PkJ d7_80 (fun T5 X5 => ?_)
      refine own_blk X5 B7_83_84 B7_83_84d (ls' := #[.val (.ref v), .val (.long f), .second, .val (.long en), .second, .val (.long kk), .second]) (st' := [(.long f), (.long (1 : Int64)), (.ref v)]) rfl ?_
      refine own_callP X5 (hw _ (List.mem_of_getElem? (i := 61) rfl)) (hw _ (List.mem_of_getElem? (i := 62) rfl)) (hw _ (List.mem_of_getElem? (i := 59) rfl)) (hw _ (List.mem_of_getElem? (i := 63) rfl)) (by decide) (c_maxJ l Z a0 hw (1 : Int64) f hJ n0 X5.2.1) d7_84 [(.long (1 : Int64)), (.long f)] [(.ref v)] rfl rfl pd9 rfl rfl (by decide) (Nat.le_of_ble_eq_true rfl) (by decide) (by decide) (fun T6 X6 => ?_)
      show own_G p e below (T6.setTop (mkF m 87 #[.val (.ref v), .val (.long f), .second, .val (.long en), .second, .val (.long kk), .second] [(.long (own_maxJ (1 : Int64) f)), (.ref v)])) _
      refine own_putF X6 (hw _ (List.mem_of_getElem? (i := 13) rfl)) PkJ EJ (Or.inl (hw _ (List.mem_of_getElem? (i := 14) rfl))) (hw _ (List.mem_of_getElem? (i := 3) rfl)) (ty := .long) (by decide) rfl rfl n_v d7_87 (fun h7 T7 X7 W7 => ?_)
      have G7_v_base := Fld.other W7 PbJ (Or.inr (slot_ne (Or.inl (hw _ (List.mem_of_getElem? (i := 12) rfl))) (Or.inl (hw _ (List.mem_of_getElem? (i := 14) rfl))) (by decide) (t := .long) (t' := .long) (by decide) (by decide)))
      have G7_v_kept := Fld.same W7 PkJ
      have G7_v_values := Fld.other W7 PvJ (Or.inr (slot_ne (Or.inl (hw _ (List.mem_of_getElem? (i := 17) rfl))) (Or.inl (hw _ (List.mem_of_getElem? (i := 14) rfl))) (by decide) (t := (.array .long)) (t' := .long) (by decide) (by decide)))
      have G7_v_held := Fld.other W7 PhJ (Or.inr (slot_ne (Or.inl (hw _ (List.mem_of_getElem? (i := 20) rfl))) (Or.inl (hw _ (List.mem_of_getElem? (i := 14) rfl))) (by decide) (t := (.array .boolean)) (t' := .long) (by decide) (by decide)))
      have G7_v_size := Fld.other W7 PsJ (Or.inr (slot_ne (Or.inl (hw _ (List.mem_of_getElem? (i := 45) rfl))) (Or.inl (hw _ (List.mem_of_getElem? (i := 14) rfl))) (by decide) (t := .int) (t' := .long) (by decide) (by decide)))
      have Q7_v := Exa.wr W7 EJ
      have A7_va := own_A_other AvJ W7 (by first | exact ne_va_v | exact fun q => ne_v_va q.symm)
      have A7_ha := own_I_other AhJ W7 (by first | exact ne_ha_v | exact fun q => ne_v_ha q.symm)
      show own_G p e below (T7.setTop (mkF m 90 #[.val (.ref v), .val (.long f), .second, .val (.long en), .second, .val (.long kk), .second] [])) _
      have hK2 : (own_maxJ (1 : Int64) f).toInt = if 1 < f.toInt then f.toInt else 1 := by unfold own_maxJ; show (if (1 : Int) < f.toInt then f else (1 : Int64)).toInt = _; split <;> rfl
      have hK3 : 1 ≤ (own_maxJ (1 : Int64) f).toInt ∧ f.toInt ≤ (own_maxJ (1 : Int64) f).toInt ∧ (own_maxJ (1 : Int64) f).toInt ≤ 255 := by rw [hK2]; split <;> omega
      have hkx : kk.toInt ≤ (own_maxJ (1 : Int64) f).toInt := by omega
      refine own_blk X7 B7_90_91 B7_90_91d (ls' := #[.val (.ref v), .val (.long f), .second, .val (.long en), .second, .val (.long kk), .second]) (st' := [(.ref v)]) rfl ?_
      refine own_getF X7 (hw _ (List.mem_of_getElem? (i := 19) rfl)) G7_v_held d7_91 (fun T8 X8 => ?_)
      refine own_len X8 A7_ha d7_94 ?_
      refine own_blk X8 B7_95_97 B7_95_97d (ls' := #[.val (.ref v), .val (.long f), .second, .val (.long en), .second, .val (.long kk), .second]) (st' := [(.ref v), (.long ((Int32.ofNat n).toInt64))]) rfl ?_
      refine own_getF X8 (hw _ (List.mem_of_getElem? (i := 13) rfl)) G7_v_kept d7_97 (fun T9 X9 => ?_)
      refine own_blk X9 B7_100_101 B7_100_101d (ls' := #[.val (.ref v), .val (.long f), .second, .val (.long en), .second, .val (.long kk), .second]) (st' := [(.ref v), (.long (own_maxJ (1 : Int64) f)), (.long ((Int32.ofNat n).toInt64))]) rfl ?_
      refine own_getF X9 (hw _ (List.mem_of_getElem? (i := 11) rfl)) G7_v_base d7_101 (fun T10 X10 => ?_)
      refine own_blk X10 B7_104_105 B7_104_105d (ls' := #[.val (.ref v), .val (.long f), .second, .val (.long en), .second, .val (.long kk), .second]) (st' := [(.long ((own_maxJ (1 : Int64) f) - (1 : Int64))), (.long ((Int32.ofNat n).toInt64))]) rfl ?_
      refine own_callP X10 (hw _ (List.mem_of_getElem? (i := 57) rfl)) (hw _ (List.mem_of_getElem? (i := 58) rfl)) (hw _ (List.mem_of_getElem? (i := 59) rfl)) (hw _ (List.mem_of_getElem? (i := 60) rfl)) (by decide) (c_minJ l Z a0 hw ((Int32.ofNat n).toInt64) ((own_maxJ (1 : Int64) f) - (1 : Int64)) h7 n0 X10.2.1) d7_105 [(.long ((Int32.ofNat n).toInt64)), (.long ((own_maxJ (1 : Int64) f) - (1 : Int64)))] [] rfl rfl pd8 rfl rfl (by decide) (Nat.le_of_ble_eq_true rfl) (by decide) (by decide) (fun T11 X11 => ?_)
      show own_G p e below (T11.setTop (mkF m 108 #[.val (.ref v), .val (.long f), .second, .val (.long en), .second, .val (.long kk), .second] [(.long (own_minJ ((Int32.ofNat n).toInt64) ((own_maxJ (1 : Int64) f) - (1 : Int64))))])) _
      refine own_blk X11 B7_108_111 B7_108_111d (ls' := #[.val (.ref v), .val (.long f), .second, .val (.long en), .second, .val (.int ((own_minJ ((Int32.ofNat n).toInt64) ((own_maxJ (1 : Int64) f) - (1 : Int64))).toInt32)), .unset]) (st' := []) rfl ?_
      generalize egn : ((own_minJ ((Int32.ofNat n).toInt64) ((own_maxJ (1 : Int64) f) - (1 : Int64))).toInt32) = gn
      have hgn : gn.toInt ≤ (n : Int) ∧ gn.toInt ≤ (own_maxJ (1 : Int64) f).toInt - 1 ∧ (gn.toInt = (n : Int) ∨ gn.toInt = (own_maxJ (1 : Int64) f).toInt - 1) := by
        have e1 : ((own_maxJ (1 : Int64) f) - (1 : Int64)).toInt = (own_maxJ (1 : Int64) f).toInt - 1 := Jvm.Kit.i64_sub (by show _ ≤ _ - (1 : Int); omega) (by show _ - (1 : Int) < _; omega)
        have e2 : (own_minJ ((Int32.ofNat n).toInt64) ((own_maxJ (1 : Int64) f) - (1 : Int64))).toInt ≤ (n : Int) ∧ (own_minJ ((Int32.ofNat n).toInt64) ((own_maxJ (1 : Int64) f) - (1 : Int64))).toInt ≤ (own_maxJ (1 : Int64) f).toInt - 1 ∧ ((own_minJ ((Int32.ofNat n).toInt64) ((own_maxJ (1 : Int64) f) - (1 : Int64))).toInt = (n : Int) ∨ (own_minJ ((Int32.ofNat n).toInt64) ((own_maxJ (1 : Int64) f) - (1 : Int64))).toInt = (own_maxJ (1 : Int64) f).toInt - 1) := by
          unfold own_minJ; rw [e1, hN6]; split <;> omega
        rw [← egn, Jvm.Kit.i32_of_i64 (by omega) (by omega)]; exact e2
      have h2g : ((2 : Int32) * gn).toInt = 2 * gn.toInt := Jvm.Kit.i32_mul (by show _ ≤ (2 : Int) * _; omega) (by show (2 : Int) * _ < _; omega)
      refine own_blk X11 B7_111_116 B7_111_116d (ls' := #[.val (.ref v), .val (.long f), .second, .val (.long en), .second, .val (.int gn), .unset]) (st' := [(.ref v), (.int ((2 : Int32) * gn))]) rfl ?_
      refine own_getF X11 (hw _ (List.mem_of_getElem? (i := 19) rfl)) G7_v_held d7_116 (fun T12 X12 => ?_)
      refine own_len X12 A7_ha d7_119 ?_
      refine own_icmp X12 d7_120 (pc' := 124) (by decide) (fun c120 => ?_) (fun c120 => ?_)
      · have c120 : (Int32.ofNat n).toInt ≤ ((2 : Int32) * gn).toInt := c120
        refine own_blk X12 B7_124_127 B7_124_127d (ls' := #[.val (.ref v), .val (.long f), .second, .val (.long en), .second, .val (.int gn), .unset]) (st' := [(.ref v), (.int (16 : Int32))]) rfl ?_
        refine own_getF X12 (hw _ (List.mem_of_getElem? (i := 19) rfl)) G7_v_held d7_127 (fun T13 X13 => ?_)
        refine own_len X13 A7_ha d7_130 ?_
        refine own_blk X13 B7_131_134 B7_131_134d (ls' := #[.val (.ref v), .val (.long f), .second, .val (.long en), .second, .val (.int gn), .unset]) (st' := [(.int ((Int32.ofNat n) - gn)), (.int (16 : Int32))]) rfl ?_
        refine own_callP X13 (hw _ (List.mem_of_getElem? (i := 81) rfl)) (hw _ (List.mem_of_getElem? (i := 82) rfl)) (hw _ (List.mem_of_getElem? (i := 59) rfl)) (hw _ (List.mem_of_getElem? (i := 83) rfl)) (by decide) (c_maxI l Z a0 hw (16 : Int32) ((Int32.ofNat n) - gn) h7 n0 X13.2.1) d7_134 [(.int (16 : Int32)), (.int ((Int32.ofNat n) - gn))] [] rfl rfl pd13 rfl rfl (by decide) (Nat.le_of_ble_eq_true rfl) (by decide) (by decide) (fun T14 X14 => ?_)
        show own_G p e below (T14.setTop (mkF m 137 #[.val (.ref v), .val (.long f), .second, .val (.long en), .second, .val (.int gn), .unset] [(.int (own_maxI (16 : Int32) ((Int32.ofNat n) - gn)))])) _
        refine own_blk X14 B7_137_139 B7_137_139d (ls' := #[.val (.ref v), .val (.long f), .second, .val (.long en), .second, .val (.int gn), .val (.int (own_maxI (16 : Int32) ((Int32.ofNat n) - gn)))]) (st' := []) rfl ?_
        generalize eln : (own_maxI (16 : Int32) ((Int32.ofNat n) - gn)) = ln
        have hln : 16 ≤ ln.toInt ∧ (n : Int) - gn.toInt ≤ ln.toInt ∧ ln.toInt ≤ 128 := by
          have e1 : ((Int32.ofNat n) - gn).toInt = (n : Int) - gn.toInt := by rw [Jvm.Kit.i32_sub (by omega) (by omega), hN]
          have e2 : (own_maxI (16 : Int32) ((Int32.ofNat n) - gn)).toInt = if (16 : Int) < (n : Int) - gn.toInt then (n : Int) - gn.toInt else 16 := by
            unfold own_maxI
            rw [e1]
            show (if (16 : Int) < (n : Int) - gn.toInt then (Int32.ofNat n) - gn else (16 : Int32)).toInt = _
            split
            · exact e1
            · rfl
          rw [← eln, e2]
          split <;> omega
        have hgl : (gn + ln).toInt = gn.toInt + ln.toInt := Jvm.Kit.i32_add (by omega) (by omega)
        have h01C : ∀ j : Int, 0 ≤ j → j < n → hvJ j = 0 ∨ hvJ j = 1 := fun j q0 q1 => by rw [hC j q0 q1]; split; exact Or.inl rfl; exact hv01 j q0 q1
        refine own_blk X14 B7_139_141 B7_139_141d (ls' := #[.val (.ref v), .val (.long f), .second, .val (.long en), .second, .val (.int gn), .val (.int ln)]) (st' := [(.ref v), (.ref v)]) rfl ?_
        refine own_getF X14 (hw _ (List.mem_of_getElem? (i := 16) rfl)) G7_v_values d7_141 (fun T15 X15 => ?_)
        refine own_blk X15 B7_144_151 B7_144_151d (ls' := #[.val (.ref v), .val (.long f), .second, .val (.long en), .second, .val (.int gn), .val (.int ln)]) (st' := [(.int (gn + ln)), (.int gn), (.ref va), (.ref v)]) rfl ?_
        have lt_va := own_A_lt A7_va
        have lt_ha := own_A_lt A7_ha
        have lt_v := Exa.lt Q7_v
        refine own_callS X15 (hw _ (List.mem_of_getElem? (i := 84) rfl)) (hw _ (List.mem_of_getElem? (i := 85) rfl)) (hw _ (List.mem_of_getElem? (i := 69) rfl)) (hw _ (List.mem_of_getElem? (i := 86) rfl)) (by decide) (c_Rj128 l Z a0 hw va gn (gn + ln) n fv h7 n0 X15.2.1 A7_va ⟨by omega, by omega, by omega, by omega⟩) d7_151 [(.ref va), (.int gn), (.int (gn + ln))] [(.ref v)] rfl rfl pd14 rfl rfl (by decide) (Nat.le_of_ble_eq_true rfl) (by decide) (by decide) (fun _ _ q => by obtain ⟨_, _, q2, _⟩ := q; exact Nat.le_trans X15.2.1 q2.1) (fun v16 h16 T16 X16 q16 => ?_)
        obtain ⟨na, rfl, K16, z16, fv16, A16⟩ := q16
        show own_G p e below (T16.setTop (mkF m 154 #[.val (.ref v), .val (.long f), .second, .val (.long en), .second, .val (.int gn), .val (.int ln)] [(.ref na), (.ref v)])) _
        have n_na : n0 ≤ na := Nat.le_trans X15.2.1 z16
        have ne_va_na : va ≠ na := Nat.ne_of_lt (Nat.lt_of_lt_of_le lt_va z16)
        have ne_ha_na : ha ≠ na := Nat.ne_of_lt (Nat.lt_of_lt_of_le lt_ha z16)
        have ne_v_na : v ≠ na := Nat.ne_of_lt (Nat.lt_of_lt_of_le lt_v z16)
        have A17 := own_A_keep A7_va K16 (ninS ne_va_na nin0)
        have A18 := own_I_keep A7_ha K16 (ninS ne_ha_na nin0)
        have F19 := Fld.keep G7_v_base K16 (ninS ne_v_na nin0)
        have F20 := Fld.keep G7_v_kept K16 (ninS ne_v_na nin0)
        have F21 := Fld.keep G7_v_values K16 (ninS ne_v_na nin0)
        have F22 := Fld.keep G7_v_held K16 (ninS ne_v_na nin0)
        have F23 := Fld.keep G7_v_size K16 (ninS ne_v_na nin0)
        have Q24 := Exa.keep Q7_v K16
        refine own_putF X16 (hw _ (List.mem_of_getElem? (i := 16) rfl)) F21 Q24 (Or.inl (hw _ (List.mem_of_getElem? (i := 17) rfl))) (hw _ (List.mem_of_getElem? (i := 3) rfl)) (ty := (.array .long)) (by decide) rfl rfl n_v d7_154 (fun h25 T25 X25 W25 => ?_)
        have G25_v_base := Fld.other W25 F19 (Or.inr (slot_ne (Or.inl (hw _ (List.mem_of_getElem? (i := 12) rfl))) (Or.inl (hw _ (List.mem_of_getElem? (i := 17) rfl))) (by decide) (t := .long) (t' := (.array .long)) (by decide) (by decide)))
        have G25_v_kept := Fld.other W25 F20 (Or.inr (slot_ne (Or.inl (hw _ (List.mem_of_getElem? (i := 14) rfl))) (Or.inl (hw _ (List.mem_of_getElem? (i := 17) rfl))) (by decide) (t := .long) (t' := (.array .long)) (by decide) (by decide)))
        have G25_v_values := Fld.same W25 F21
        have G25_v_held := Fld.other W25 F22 (Or.inr (slot_ne (Or.inl (hw _ (List.mem_of_getElem? (i := 20) rfl))) (Or.inl (hw _ (List.mem_of_getElem? (i := 17) rfl))) (by decide) (t := (.array .boolean)) (t' := (.array .long)) (by decide) (by decide)))
        have G25_v_size := Fld.other W25 F23 (Or.inr (slot_ne (Or.inl (hw _ (List.mem_of_getElem? (i := 45) rfl))) (Or.inl (hw _ (List.mem_of_getElem? (i := 17) rfl))) (by decide) (t := .int) (t' := (.array .long)) (by decide) (by decide)))
        have Q25_v := Exa.wr W25 Q24
        have A25_va := own_A_other A17 W25 (by first | exact ne_va_v | exact fun q => ne_v_va q.symm)
        have A25_ha := own_I_other A18 W25 (by first | exact ne_ha_v | exact fun q => ne_v_ha q.symm)
        have A25_na := own_A_other A16 W25 (by first | exact ne_na_v | exact fun q => ne_v_na q.symm)
        show own_G p e below (T25.setTop (mkF m 157 #[.val (.ref v), .val (.long f), .second, .val (.long en), .second, .val (.int gn), .val (.int ln)] [])) _
        refine own_blk X25 B7_157_159 B7_157_159d (ls' := #[.val (.ref v), .val (.long f), .second, .val (.long en), .second, .val (.int gn), .val (.int ln)]) (st' := [(.ref v), (.ref v)]) rfl ?_
        refine own_getF X25 (hw _ (List.mem_of_getElem? (i := 19) rfl)) G25_v_held d7_159 (fun T26 X26 => ?_)
        refine own_blk X26 B7_162_169 B7_162_169d (ls' := #[.val (.ref v), .val (.long f), .second, .val (.long en), .second, .val (.int gn), .val (.int ln)]) (st' := [(.int (gn + ln)), (.int gn), (.ref ha), (.ref v)]) rfl ?_
        have lt_va := own_A_lt A25_va
        have lt_ha := own_A_lt A25_ha
        have lt_na := own_A_lt A25_na
        have lt_v := Exa.lt Q25_v
        refine own_callS X26 (hw _ (List.mem_of_getElem? (i := 93) rfl)) (hw _ (List.mem_of_getElem? (i := 94) rfl)) (hw _ (List.mem_of_getElem? (i := 69) rfl)) (hw _ (List.mem_of_getElem? (i := 95) rfl)) (by decide) (c_Rz128 l Z a0 hw ha gn (gn + ln) n hvJ h25 n0 X26.2.1 A25_ha h01C ⟨by omega, by omega, by omega, by omega⟩) d7_169 [(.ref ha), (.int gn), (.int (gn + ln))] [(.ref v)] rfl rfl pd17 rfl rfl (by decide) (Nat.le_of_ble_eq_true rfl) (by decide) (by decide) (fun _ _ q => by obtain ⟨_, _, q2, _⟩ := q; exact Nat.le_trans X26.2.1 q2.1) (fun v27 h27 T27 X27 q27 => ?_)
        obtain ⟨nh, rfl, K27, z27, A27⟩ := q27
        show own_G p e below (T27.setTop (mkF m 172 #[.val (.ref v), .val (.long f), .second, .val (.long en), .second, .val (.int gn), .val (.int ln)] [(.ref nh), (.ref v)])) _
        have n_nh : n0 ≤ nh := Nat.le_trans X26.2.1 z27
        have ne_va_nh : va ≠ nh := Nat.ne_of_lt (Nat.lt_of_lt_of_le lt_va z27)
        have ne_ha_nh : ha ≠ nh := Nat.ne_of_lt (Nat.lt_of_lt_of_le lt_ha z27)
        have ne_na_nh : na ≠ nh := Nat.ne_of_lt (Nat.lt_of_lt_of_le lt_na z27)
        have ne_v_nh : v ≠ nh := Nat.ne_of_lt (Nat.lt_of_lt_of_le lt_v z27)
        have A28 := own_A_keep A25_va K27 (ninS ne_va_nh nin0)
        have A29 := own_I_keep A25_ha K27 (ninS ne_ha_nh nin0)
        have A30 := own_A_keep A25_na K27 (ninS ne_na_nh nin0)
        have F31 := Fld.keep G25_v_base K27 (ninS ne_v_nh nin0)
        have F32 := Fld.keep G25_v_kept K27 (ninS ne_v_nh nin0)
        have F33 := Fld.keep G25_v_values K27 (ninS ne_v_nh nin0)
        have F34 := Fld.keep G25_v_held K27 (ninS ne_v_nh nin0)
        have F35 := Fld.keep G25_v_size K27 (ninS ne_v_nh nin0)
        have Q36 := Exa.keep Q25_v K27
        refine own_putF X27 (hw _ (List.mem_of_getElem? (i := 19) rfl)) F34 Q36 (Or.inl (hw _ (List.mem_of_getElem? (i := 20) rfl))) (hw _ (List.mem_of_getElem? (i := 3) rfl)) (ty := (.array .boolean)) (by decide) rfl rfl n_v d7_172 (fun h37 T37 X37 W37 => ?_)
        have G37_v_base := Fld.other W37 F31 (Or.inr (slot_ne (Or.inl (hw _ (List.mem_of_getElem? (i := 12) rfl))) (Or.inl (hw _ (List.mem_of_getElem? (i := 20) rfl))) (by decide) (t := .long) (t' := (.array .boolean)) (by decide) (by decide)))
        have G37_v_kept := Fld.other W37 F32 (Or.inr (slot_ne (Or.inl (hw _ (List.mem_of_getElem? (i := 14) rfl))) (Or.inl (hw _ (List.mem_of_getElem? (i := 20) rfl))) (by decide) (t := .long) (t' := (.array .boolean)) (by decide) (by decide)))
        have G37_v_values := Fld.other W37 F33 (Or.inr (slot_ne (Or.inl (hw _ (List.mem_of_getElem? (i := 17) rfl))) (Or.inl (hw _ (List.mem_of_getElem? (i := 20) rfl))) (by decide) (t := (.array .long)) (t' := (.array .boolean)) (by decide) (by decide)))
        have G37_v_held := Fld.same W37 F34
        have G37_v_size := Fld.other W37 F35 (Or.inr (slot_ne (Or.inl (hw _ (List.mem_of_getElem? (i := 45) rfl))) (Or.inl (hw _ (List.mem_of_getElem? (i := 20) rfl))) (by decide) (t := .int) (t' := (.array .boolean)) (by decide) (by decide)))
        have Q37_v := Exa.wr W37 Q36
        have A37_va := own_A_other A28 W37 (by first | exact ne_va_v | exact fun q => ne_v_va q.symm)
        have A37_ha := own_I_other A29 W37 (by first | exact ne_ha_v | exact fun q => ne_v_ha q.symm)
        have A37_na := own_A_other A30 W37 (by first | exact ne_na_v | exact fun q => ne_v_na q.symm)
        have A37_nh := own_I_other A27 W37 (by first | exact ne_nh_v | exact fun q => ne_v_nh q.symm)
        show own_G p e below (T37.setTop (mkF m 175 #[.val (.ref v), .val (.long f), .second, .val (.long en), .second, .val (.int gn), .val (.int ln)] [])) _
        refine own_blk X37 B7_175_177 B7_175_177d (ls' := #[.val (.ref v), .val (.long f), .second, .val (.long en), .second, .val (.int gn), .val (.int ln)]) (st' := [(.ref v), (.ref v)]) rfl ?_
        refine own_getF X37 (hw _ (List.mem_of_getElem? (i := 11) rfl)) G37_v_base d7_177 (fun T38 X38 => ?_)
        refine own_blk X38 B7_180_184 B7_180_184d (ls' := #[.val (.ref v), .val (.long f), .second, .val (.long en), .second, .val (.int gn), .val (.int ln)]) (st' := [(.long ((1 : Int64) + (gn.toInt64))), (.ref v)]) rfl ?_
        refine own_putF X38 (hw _ (List.mem_of_getElem? (i := 11) rfl)) G37_v_base Q37_v (Or.inl (hw _ (List.mem_of_getElem? (i := 12) rfl))) (hw _ (List.mem_of_getElem? (i := 3) rfl)) (ty := .long) (by decide) rfl rfl n_v d7_184 (fun h39 T39 X39 W39 => ?_)
        have G39_v_base := Fld.same W39 G37_v_base
        have G39_v_kept := Fld.other W39 G37_v_kept (Or.inr (slot_ne (Or.inl (hw _ (List.mem_of_getElem? (i := 14) rfl))) (Or.inl (hw _ (List.mem_of_getElem? (i := 12) rfl))) (by decide) (t := .long) (t' := .long) (by decide) (by decide)))
        have G39_v_values := Fld.other W39 G37_v_values (Or.inr (slot_ne (Or.inl (hw _ (List.mem_of_getElem? (i := 17) rfl))) (Or.inl (hw _ (List.mem_of_getElem? (i := 12) rfl))) (by decide) (t := (.array .long)) (t' := .long) (by decide) (by decide)))
        have G39_v_held := Fld.other W39 G37_v_held (Or.inr (slot_ne (Or.inl (hw _ (List.mem_of_getElem? (i := 20) rfl))) (Or.inl (hw _ (List.mem_of_getElem? (i := 12) rfl))) (by decide) (t := (.array .boolean)) (t' := .long) (by decide) (by decide)))
        have G39_v_size := Fld.other W39 G37_v_size (Or.inr (slot_ne (Or.inl (hw _ (List.mem_of_getElem? (i := 45) rfl))) (Or.inl (hw _ (List.mem_of_getElem? (i := 12) rfl))) (by decide) (t := .int) (t' := .long) (by decide) (by decide)))
        have Q39_v := Exa.wr W39 Q37_v
        have A39_va := own_A_other A37_va W39 (by first | exact ne_va_v | exact fun q => ne_v_va q.symm)
        have A39_ha := own_I_other A37_ha W39 (by first | exact ne_ha_v | exact fun q => ne_v_ha q.symm)
        have A39_na := own_A_other A37_na W39 (by first | exact ne_na_v | exact fun q => ne_v_na q.symm)
        have A39_nh := own_I_other A37_nh W39 (by first | exact ne_nh_v | exact fun q => ne_v_nh q.symm)
        show own_G p e below (T39.setTop (mkF m 187 #[.val (.ref v), .val (.long f), .second, .val (.long en), .second, .val (.int gn), .val (.int ln)] [])) _
        have hB' : ((1 : Int64) + (gn.toInt64)).toInt = 1 + gn.toInt := by rw [Jvm.Kit.i64_add (by rw [Jvm.Kit.i64_of_i32]; show _ ≤ (1 : Int) + _; omega) (by rw [Jvm.Kit.i64_of_i32]; show (1 : Int) + _ < _; omega), Jvm.Kit.i64_of_i32]; rfl
        exact own_retV X39 d7_187 (by decide) (by decide) (⟨rfl, X39.2.1, _, _, ((gn + ln).toInt - gn.toInt).toNat, by omega, by omega, by rw [hB']; omega, by rw [hB']; omega, rfl, na, nh, _, _, _, ⟨Q39_v, G39_v_base, G39_v_kept, G39_v_values, G39_v_held, G39_v_size, A39_na, A39_nh, n_v, n_na, n_nh, (by first | exact ne_v_na | exact fun q => ne_na_v q.symm), (by first | exact ne_v_nh | exact fun q => ne_nh_v q.symm), (by first | exact ne_na_nh | exact fun q => ne_nh_na q.symm)⟩, fun j q0 q1 => by show (if _ then _ else _) = _ ∨ (if _ then _ else _) = _; split; exact h01C _ (by omega) (by omega); exact Or.inl rfl, fun k hk => by rw [hB']; exact own_forget_mem (n' := ((gn + ln).toInt - gn.toInt).toNat) (g := gn.toInt) hmem1 hC hK3.1 hkx (by omega) (by omega) (by omega) (by omega) (fun j q0 q1 => rfl) k hk⟩)
      · have c120 : ¬ ((Int32.ofNat n).toInt ≤ ((2 : Int32) * gn).toInt) := c120
        exact own_retV X12 d7_123 (by decide) (by decide) (⟨rfl, X12.2.1, 1, _, n, hn16, hn, by decide, hK3.1, rfl, va, ha, _, fv, hvJ, ⟨Q7_v, G7_v_base, G7_v_kept, G7_v_values, G7_v_held, G7_v_size, A7_va, A7_ha, n_v, n_va, n_ha, (by first | exact ne_v_va | exact fun q => ne_va_v q.symm), (by first | exact ne_v_ha | exact fun q => ne_ha_v q.symm), (by first | exact ne_va_ha | exact fun q => ne_ha_va q.symm)⟩, fun j q0 q1 => by rw [hC j q0 q1]; split; exact Or.inl rfl; exact hv01 j q0 q1, fun k hk => by have q1 := own_forget_mem (n' := n) (g := 0) (hvN := hvJ) hmem1 hC hK3.1 hkx (by omega) (by omega) (by omega) (by omega) (fun j q0 q1 => by rw [if_pos (by omega), Int.zero_add]) k hk; rw [Int.add_zero] at q1; exact q1⟩)
    | succ r ih =>
      intro kk hJ TJ szJ hvJ hk0 hkr hke XJ EJ PbJ PkJ PvJ PhJ PsJ AvJ AhJ hC
      have hki : ∀ q : (0 : Int) ≤ kk.toInt, ((kk - (1 : Int64)).toInt32).toInt = kk.toInt - 1 := fun q => by
        have e1 : (kk - (1 : Int64)).toInt = kk.toInt - 1 := Jvm.Kit.i64_sub (by show _ ≤ _ - (1 : Int); omega) (by show _ - (1 : Int) < _; omega)
        rw [Jvm.Kit.i32_of_i64 (by omega) (by omega), e1]
      refine own_blk XJ B7_22_25 B7_22_25d (ls' := #[.val (.ref v), .val (.long f), .second, .val (.long en), .second, .val (.long kk), .second]) (st' := [(.long en), (.long kk)]) rfl ?_
      refine own_lif XJ d7_25 d7_26 (pc' := 78) (by decide) (fun c25 => ?_) (fun c25 => ?_)
      · have c25 : en.toInt ≤ kk.toInt := c25
        refine own_blk XJ B7_78_80 B7_78_80d (ls' := #[.val (.ref v), .val (.long f), .second, .val (.long en), .second, .val (.long kk), .second]) (st' := [(.ref v), (.ref v)]) rfl ?_
        refine own_getF XJ (hw _ (List.mem_of_getElem? (i := 13) rfl)) PkJ d7_80 (fun T40 X40 => ?_)
        refine own_blk X40 B7_83_84 B7_83_84d (ls' := #[.val (.ref v), .val (.long f), .second, .val (.long en), .second, .val (.long kk), .second]) (st' := [(.long f), (.long (1 : Int64)), (.ref v)]) rfl ?_
        refine own_callP X40 (hw _ (List.mem_of_getElem? (i := 61) rfl)) (hw _ (List.mem_of_getElem? (i := 62) rfl)) (hw _ (List.mem_of_getElem? (i := 59) rfl)) (hw _ (List.mem_of_getElem? (i := 63) rfl)) (by decide) (c_maxJ l Z a0 hw (1 : Int64) f hJ n0 X40.2.1) d7_84 [(.long (1 : Int64)), (.long f)] [(.ref v)] rfl rfl pd9 rfl rfl (by decide) (Nat.le_of_ble_eq_true rfl) (by decide) (by decide) (fun T41 X41 => ?_)
        show own_G p e below (T41.setTop (mkF m 87 #[.val (.ref v), .val (.long f), .second, .val (.long en), .second, .val (.long kk), .second] [(.long (own_maxJ (1 : Int64) f)), (.ref v)])) _
        refine own_putF X41 (hw _ (List.mem_of_getElem? (i := 13) rfl)) PkJ EJ (Or.inl (hw _ (List.mem_of_getElem? (i := 14) rfl))) (hw _ (List.mem_of_getElem? (i := 3) rfl)) (ty := .long) (by decide) rfl rfl n_v d7_87 (fun h42 T42 X42 W42 => ?_)
        have G42_v_base := Fld.other W42 PbJ (Or.inr (slot_ne (Or.inl (hw _ (List.mem_of_getElem? (i := 12) rfl))) (Or.inl (hw _ (List.mem_of_getElem? (i := 14) rfl))) (by decide) (t := .long) (t' := .long) (by decide) (by decide)))
        have G42_v_kept := Fld.same W42 PkJ
        have G42_v_values := Fld.other W42 PvJ (Or.inr (slot_ne (Or.inl (hw _ (List.mem_of_getElem? (i := 17) rfl))) (Or.inl (hw _ (List.mem_of_getElem? (i := 14) rfl))) (by decide) (t := (.array .long)) (t' := .long) (by decide) (by decide)))
        have G42_v_held := Fld.other W42 PhJ (Or.inr (slot_ne (Or.inl (hw _ (List.mem_of_getElem? (i := 20) rfl))) (Or.inl (hw _ (List.mem_of_getElem? (i := 14) rfl))) (by decide) (t := (.array .boolean)) (t' := .long) (by decide) (by decide)))
        have G42_v_size := Fld.other W42 PsJ (Or.inr (slot_ne (Or.inl (hw _ (List.mem_of_getElem? (i := 45) rfl))) (Or.inl (hw _ (List.mem_of_getElem? (i := 14) rfl))) (by decide) (t := .int) (t' := .long) (by decide) (by decide)))
        have Q42_v := Exa.wr W42 EJ
        have A42_va := own_A_other AvJ W42 (by first | exact ne_va_v | exact fun q => ne_v_va q.symm)
        have A42_ha := own_I_other AhJ W42 (by first | exact ne_ha_v | exact fun q => ne_v_ha q.symm)
        show own_G p e below (T42.setTop (mkF m 90 #[.val (.ref v), .val (.long f), .second, .val (.long en), .second, .val (.long kk), .second] [])) _
        have hK2 : (own_maxJ (1 : Int64) f).toInt = if 1 < f.toInt then f.toInt else 1 := by unfold own_maxJ; show (if (1 : Int) < f.toInt then f else (1 : Int64)).toInt = _; split <;> rfl
        have hK3 : 1 ≤ (own_maxJ (1 : Int64) f).toInt ∧ f.toInt ≤ (own_maxJ (1 : Int64) f).toInt ∧ (own_maxJ (1 : Int64) f).toInt ≤ 255 := by rw [hK2]; split <;> omega
        have hkx : kk.toInt ≤ (own_maxJ (1 : Int64) f).toInt := by omega
        refine own_blk X42 B7_90_91 B7_90_91d (ls' := #[.val (.ref v), .val (.long f), .second, .val (.long en), .second, .val (.long kk), .second]) (st' := [(.ref v)]) rfl ?_
        refine own_getF X42 (hw _ (List.mem_of_getElem? (i := 19) rfl)) G42_v_held d7_91 (fun T43 X43 => ?_)
        refine own_len X43 A42_ha d7_94 ?_
        refine own_blk X43 B7_95_97 B7_95_97d (ls' := #[.val (.ref v), .val (.long f), .second, .val (.long en), .second, .val (.long kk), .second]) (st' := [(.ref v), (.long ((Int32.ofNat n).toInt64))]) rfl ?_
        refine own_getF X43 (hw _ (List.mem_of_getElem? (i := 13) rfl)) G42_v_kept d7_97 (fun T44 X44 => ?_)
        refine own_blk X44 B7_100_101 B7_100_101d (ls' := #[.val (.ref v), .val (.long f), .second, .val (.long en), .second, .val (.long kk), .second]) (st' := [(.ref v), (.long (own_maxJ (1 : Int64) f)), (.long ((Int32.ofNat n).toInt64))]) rfl ?_
        refine own_getF X44 (hw _ (List.mem_of_getElem? (i := 11) rfl)) G42_v_base d7_101 (fun T45 X45 => ?_)
        refine own_blk X45 B7_104_105 B7_104_105d (ls' := #[.val (.ref v), .val (.long f), .second, .val (.long en), .second, .val (.long kk), .second]) (st' := [(.long ((own_maxJ (1 : Int64) f) - (1 : Int64))), (.long ((Int32.ofNat n).toInt64))]) rfl ?_
        refine own_callP X45 (hw _ (List.mem_of_getElem? (i := 57) rfl)) (hw _ (List.mem_of_getElem? (i := 58) rfl)) (hw _ (List.mem_of_getElem? (i := 59) rfl)) (hw _ (List.mem_of_getElem? (i := 60) rfl)) (by decide) (c_minJ l Z a0 hw ((Int32.ofNat n).toInt64) ((own_maxJ (1 : Int64) f) - (1 : Int64)) h42 n0 X45.2.1) d7_105 [(.long ((Int32.ofNat n).toInt64)), (.long ((own_maxJ (1 : Int64) f) - (1 : Int64)))] [] rfl rfl pd8 rfl rfl (by decide) (Nat.le_of_ble_eq_true rfl) (by decide) (by decide) (fun T46 X46 => ?_)
        show own_G p e below (T46.setTop (mkF m 108 #[.val (.ref v), .val (.long f), .second, .val (.long en), .second, .val (.long kk), .second] [(.long (own_minJ ((Int32.ofNat n).toInt64) ((own_maxJ (1 : Int64) f) - (1 : Int64))))])) _
        refine own_blk X46 B7_108_111 B7_108_111d (ls' := #[.val (.ref v), .val (.long f), .second, .val (.long en), .second, .val (.int ((own_minJ ((Int32.ofNat n).toInt64) ((own_maxJ (1 : Int64) f) - (1 : Int64))).toInt32)), .unset]) (st' := []) rfl ?_
        generalize egn : ((own_minJ ((Int32.ofNat n).toInt64) ((own_maxJ (1 : Int64) f) - (1 : Int64))).toInt32) = gn
        have hgn : gn.toInt ≤ (n : Int) ∧ gn.toInt ≤ (own_maxJ (1 : Int64) f).toInt - 1 ∧ (gn.toInt = (n : Int) ∨ gn.toInt = (own_maxJ (1 : Int64) f).toInt - 1) := by
          have e1 : ((own_maxJ (1 : Int64) f) - (1 : Int64)).toInt = (own_maxJ (1 : Int64) f).toInt - 1 := Jvm.Kit.i64_sub (by show _ ≤ _ - (1 : Int); omega) (by show _ - (1 : Int) < _; omega)
          have e2 : (own_minJ ((Int32.ofNat n).toInt64) ((own_maxJ (1 : Int64) f) - (1 : Int64))).toInt ≤ (n : Int) ∧ (own_minJ ((Int32.ofNat n).toInt64) ((own_maxJ (1 : Int64) f) - (1 : Int64))).toInt ≤ (own_maxJ (1 : Int64) f).toInt - 1 ∧ ((own_minJ ((Int32.ofNat n).toInt64) ((own_maxJ (1 : Int64) f) - (1 : Int64))).toInt = (n : Int) ∨ (own_minJ ((Int32.ofNat n).toInt64) ((own_maxJ (1 : Int64) f) - (1 : Int64))).toInt = (own_maxJ (1 : Int64) f).toInt - 1) := by
            unfold own_minJ; rw [e1, hN6]; split <;> omega
          rw [← egn, Jvm.Kit.i32_of_i64 (by omega) (by omega)]; exact e2
        have h2g : ((2 : Int32) * gn).toInt = 2 * gn.toInt := Jvm.Kit.i32_mul (by show _ ≤ (2 : Int) * _; omega) (by show (2 : Int) * _ < _; omega)
        refine own_blk X46 B7_111_116 B7_111_116d (ls' := #[.val (.ref v), .val (.long f), .second, .val (.long en), .second, .val (.int gn), .unset]) (st' := [(.ref v), (.int ((2 : Int32) * gn))]) rfl ?_
        refine own_getF X46 (hw _ (List.mem_of_getElem? (i := 19) rfl)) G42_v_held d7_116 (fun T47 X47 => ?_)
        refine own_len X47 A42_ha d7_119 ?_
        refine own_icmp X47 d7_120 (pc' := 124) (by decide) (fun c120 => ?_) (fun c120 => ?_)
        · have c120 : (Int32.ofNat n).toInt ≤ ((2 : Int32) * gn).toInt := c120
          refine own_blk X47 B7_124_127 B7_124_127d (ls' := #[.val (.ref v), .val (.long f), .second, .val (.long en), .second, .val (.int gn), .unset]) (st' := [(.ref v), (.int (16 : Int32))]) rfl ?_
          refine own_getF X47 (hw _ (List.mem_of_getElem? (i := 19) rfl)) G42_v_held d7_127 (fun T48 X48 => ?_)
          refine own_len X48 A42_ha d7_130 ?_
          refine own_blk X48 B7_131_134 B7_131_134d (ls' := #[.val (.ref v), .val (.long f), .second, .val (.long en), .second, .val (.int gn), .unset]) (st' := [(.int ((Int32.ofNat n) - gn)), (.int (16 : Int32))]) rfl ?_
          refine own_callP X48 (hw _ (List.mem_of_getElem? (i := 81) rfl)) (hw _ (List.mem_of_getElem? (i := 82) rfl)) (hw _ (List.mem_of_getElem? (i := 59) rfl)) (hw _ (List.mem_of_getElem? (i := 83) rfl)) (by decide) (c_maxI l Z a0 hw (16 : Int32) ((Int32.ofNat n) - gn) h42 n0 X48.2.1) d7_134 [(.int (16 : Int32)), (.int ((Int32.ofNat n) - gn))] [] rfl rfl pd13 rfl rfl (by decide) (Nat.le_of_ble_eq_true rfl) (by decide) (by decide) (fun T49 X49 => ?_)
          show own_G p e below (T49.setTop (mkF m 137 #[.val (.ref v), .val (.long f), .second, .val (.long en), .second, .val (.int gn), .unset] [(.int (own_maxI (16 : Int32) ((Int32.ofNat n) - gn)))])) _
          refine own_blk X49 B7_137_139 B7_137_139d (ls' := #[.val (.ref v), .val (.long f), .second, .val (.long en), .second, .val (.int gn), .val (.int (own_maxI (16 : Int32) ((Int32.ofNat n) - gn)))]) (st' := []) rfl ?_
          generalize eln : (own_maxI (16 : Int32) ((Int32.ofNat n) - gn)) = ln
          have hln : 16 ≤ ln.toInt ∧ (n : Int) - gn.toInt ≤ ln.toInt ∧ ln.toInt ≤ 128 := by
            have e1 : ((Int32.ofNat n) - gn).toInt = (n : Int) - gn.toInt := by rw [Jvm.Kit.i32_sub (by omega) (by omega), hN]
            have e2 : (own_maxI (16 : Int32) ((Int32.ofNat n) - gn)).toInt = if (16 : Int) < (n : Int) - gn.toInt then (n : Int) - gn.toInt else 16 := by
              unfold own_maxI
              rw [e1]
              show (if (16 : Int) < (n : Int) - gn.toInt then (Int32.ofNat n) - gn else (16 : Int32)).toInt = _
              split
              · exact e1
              · rfl
            rw [← eln, e2]
            split <;> omega
          have hgl : (gn + ln).toInt = gn.toInt + ln.toInt := Jvm.Kit.i32_add (by omega) (by omega)
          have h01C : ∀ j : Int, 0 ≤ j → j < n → hvJ j = 0 ∨ hvJ j = 1 := fun j q0 q1 => by rw [hC j q0 q1]; split; exact Or.inl rfl; exact hv01 j q0 q1
          refine own_blk X49 B7_139_141 B7_139_141d (ls' := #[.val (.ref v), .val (.long f), .second, .val (.long en), .second, .val (.int gn), .val (.int ln)]) (st' := [(.ref v), (.ref v)]) rfl ?_
          refine own_getF X49 (hw _ (List.mem_of_getElem? (i := 16) rfl)) G42_v_values d7_141 (fun T50 X50 => ?_)
          refine own_blk X50 B7_144_151 B7_144_151d (ls' := #[.val (.ref v), .val (.long f), .second, .val (.long en), .second, .val (.int gn), .val (.int ln)]) (st' := [(.int (gn + ln)), (.int gn), (.ref va), (.ref v)]) rfl ?_
          have lt_va := own_A_lt A42_va
          have lt_ha := own_A_lt A42_ha
          have lt_v := Exa.lt Q42_v
          refine own_callS X50 (hw _ (List.mem_of_getElem? (i := 84) rfl)) (hw _ (List.mem_of_getElem? (i := 85) rfl)) (hw _ (List.mem_of_getElem? (i := 69) rfl)) (hw _ (List.mem_of_getElem? (i := 86) rfl)) (by decide) (c_Rj128 l Z a0 hw va gn (gn + ln) n fv h42 n0 X50.2.1 A42_va ⟨by omega, by omega, by omega, by omega⟩) d7_151 [(.ref va), (.int gn), (.int (gn + ln))] [(.ref v)] rfl rfl pd14 rfl rfl (by decide) (Nat.le_of_ble_eq_true rfl) (by decide) (by decide) (fun _ _ q => by obtain ⟨_, _, q2, _⟩ := q; exact Nat.le_trans X50.2.1 q2.1) (fun v51 h51 T51 X51 q51 => ?_)
          obtain ⟨na, rfl, K51, z51, fv51, A51⟩ := q51
          show own_G p e below (T51.setTop (mkF m 154 #[.val (.ref v), .val (.long f), .second, .val (.long en), .second, .val (.int gn), .val (.int ln)] [(.ref na), (.ref v)])) _
          have n_na : n0 ≤ na := Nat.le_trans X50.2.1 z51
          have ne_va_na : va ≠ na := Nat.ne_of_lt (Nat.lt_of_lt_of_le lt_va z51)
          have ne_ha_na : ha ≠ na := Nat.ne_of_lt (Nat.lt_of_lt_of_le lt_ha z51)
          have ne_v_na : v ≠ na := Nat.ne_of_lt (Nat.lt_of_lt_of_le lt_v z51)
          have A52 := own_A_keep A42_va K51 (ninS ne_va_na nin0)
          have A53 := own_I_keep A42_ha K51 (ninS ne_ha_na nin0)
          have F54 := Fld.keep G42_v_base K51 (ninS ne_v_na nin0)
          have F55 := Fld.keep G42_v_kept K51 (ninS ne_v_na nin0)
          have F56 := Fld.keep G42_v_values K51 (ninS ne_v_na nin0)
          have F57 := Fld.keep G42_v_held K51 (ninS ne_v_na nin0)
          have F58 := Fld.keep G42_v_size K51 (ninS ne_v_na nin0)
          have Q59 := Exa.keep Q42_v K51
          refine own_putF X51 (hw _ (List.mem_of_getElem? (i := 16) rfl)) F56 Q59 (Or.inl (hw _ (List.mem_of_getElem? (i := 17) rfl))) (hw _ (List.mem_of_getElem? (i := 3) rfl)) (ty := (.array .long)) (by decide) rfl rfl n_v d7_154 (fun h60 T60 X60 W60 => ?_)
          have G60_v_base := Fld.other W60 F54 (Or.inr (slot_ne (Or.inl (hw _ (List.mem_of_getElem? (i := 12) rfl))) (Or.inl (hw _ (List.mem_of_getElem? (i := 17) rfl))) (by decide) (t := .long) (t' := (.array .long)) (by decide) (by decide)))
          have G60_v_kept := Fld.other W60 F55 (Or.inr (slot_ne (Or.inl (hw _ (List.mem_of_getElem? (i := 14) rfl))) (Or.inl (hw _ (List.mem_of_getElem? (i := 17) rfl))) (by decide) (t := .long) (t' := (.array .long)) (by decide) (by decide)))
          have G60_v_values := Fld.same W60 F56
          have G60_v_held := Fld.other W60 F57 (Or.inr (slot_ne (Or.inl (hw _ (List.mem_of_getElem? (i := 20) rfl))) (Or.inl (hw _ (List.mem_of_getElem? (i := 17) rfl))) (by decide) (t := (.array .boolean)) (t' := (.array .long)) (by decide) (by decide)))
          have G60_v_size := Fld.other W60 F58 (Or.inr (slot_ne (Or.inl (hw _ (List.mem_of_getElem? (i := 45) rfl))) (Or.inl (hw _ (List.mem_of_getElem? (i := 17) rfl))) (by decide) (t := .int) (t' := (.array .long)) (by decide) (by decide)))
          have Q60_v := Exa.wr W60 Q59
          have A60_va := own_A_other A52 W60 (by first | exact ne_va_v | exact fun q => ne_v_va q.symm)
          have A60_ha := own_I_other A53 W60 (by first | exact ne_ha_v | exact fun q => ne_v_ha q.symm)
          have A60_na := own_A_other A51 W60 (by first | exact ne_na_v | exact fun q => ne_v_na q.symm)
          show own_G p e below (T60.setTop (mkF m 157 #[.val (.ref v), .val (.long f), .second, .val (.long en), .second, .val (.int gn), .val (.int ln)] [])) _
          refine own_blk X60 B7_157_159 B7_157_159d (ls' := #[.val (.ref v), .val (.long f), .second, .val (.long en), .second, .val (.int gn), .val (.int ln)]) (st' := [(.ref v), (.ref v)]) rfl ?_
          refine own_getF X60 (hw _ (List.mem_of_getElem? (i := 19) rfl)) G60_v_held d7_159 (fun T61 X61 => ?_)
          refine own_blk X61 B7_162_169 B7_162_169d (ls' := #[.val (.ref v), .val (.long f), .second, .val (.long en), .second, .val (.int gn), .val (.int ln)]) (st' := [(.int (gn + ln)), (.int gn), (.ref ha), (.ref v)]) rfl ?_
          have lt_va := own_A_lt A60_va
          have lt_ha := own_A_lt A60_ha
          have lt_na := own_A_lt A60_na
          have lt_v := Exa.lt Q60_v
          refine own_callS X61 (hw _ (List.mem_of_getElem? (i := 93) rfl)) (hw _ (List.mem_of_getElem? (i := 94) rfl)) (hw _ (List.mem_of_getElem? (i := 69) rfl)) (hw _ (List.mem_of_getElem? (i := 95) rfl)) (by decide) (c_Rz128 l Z a0 hw ha gn (gn + ln) n hvJ h60 n0 X61.2.1 A60_ha h01C ⟨by omega, by omega, by omega, by omega⟩) d7_169 [(.ref ha), (.int gn), (.int (gn + ln))] [(.ref v)] rfl rfl pd17 rfl rfl (by decide) (Nat.le_of_ble_eq_true rfl) (by decide) (by decide) (fun _ _ q => by obtain ⟨_, _, q2, _⟩ := q; exact Nat.le_trans X61.2.1 q2.1) (fun v62 h62 T62 X62 q62 => ?_)
          obtain ⟨nh, rfl, K62, z62, A62⟩ := q62
          show own_G p e below (T62.setTop (mkF m 172 #[.val (.ref v), .val (.long f), .second, .val (.long en), .second, .val (.int gn), .val (.int ln)] [(.ref nh), (.ref v)])) _
          have n_nh : n0 ≤ nh := Nat.le_trans X61.2.1 z62
          have ne_va_nh : va ≠ nh := Nat.ne_of_lt (Nat.lt_of_lt_of_le lt_va z62)
          have ne_ha_nh : ha ≠ nh := Nat.ne_of_lt (Nat.lt_of_lt_of_le lt_ha z62)
          have ne_na_nh : na ≠ nh := Nat.ne_of_lt (Nat.lt_of_lt_of_le lt_na z62)
          have ne_v_nh : v ≠ nh := Nat.ne_of_lt (Nat.lt_of_lt_of_le lt_v z62)
          have A63 := own_A_keep A60_va K62 (ninS ne_va_nh nin0)
          have A64 := own_I_keep A60_ha K62 (ninS ne_ha_nh nin0)
          have A65 := own_A_keep A60_na K62 (ninS ne_na_nh nin0)
          have F66 := Fld.keep G60_v_base K62 (ninS ne_v_nh nin0)
          have F67 := Fld.keep G60_v_kept K62 (ninS ne_v_nh nin0)
          have F68 := Fld.keep G60_v_values K62 (ninS ne_v_nh nin0)
          have F69 := Fld.keep G60_v_held K62 (ninS ne_v_nh nin0)
          have F70 := Fld.keep G60_v_size K62 (ninS ne_v_nh nin0)
          have Q71 := Exa.keep Q60_v K62
          refine own_putF X62 (hw _ (List.mem_of_getElem? (i := 19) rfl)) F69 Q71 (Or.inl (hw _ (List.mem_of_getElem? (i := 20) rfl))) (hw _ (List.mem_of_getElem? (i := 3) rfl)) (ty := (.array .boolean)) (by decide) rfl rfl n_v d7_172 (fun h72 T72 X72 W72 => ?_)
          have G72_v_base := Fld.other W72 F66 (Or.inr (slot_ne (Or.inl (hw _ (List.mem_of_getElem? (i := 12) rfl))) (Or.inl (hw _ (List.mem_of_getElem? (i := 20) rfl))) (by decide) (t := .long) (t' := (.array .boolean)) (by decide) (by decide)))
          have G72_v_kept := Fld.other W72 F67 (Or.inr (slot_ne (Or.inl (hw _ (List.mem_of_getElem? (i := 14) rfl))) (Or.inl (hw _ (List.mem_of_getElem? (i := 20) rfl))) (by decide) (t := .long) (t' := (.array .boolean)) (by decide) (by decide)))
          have G72_v_values := Fld.other W72 F68 (Or.inr (slot_ne (Or.inl (hw _ (List.mem_of_getElem? (i := 17) rfl))) (Or.inl (hw _ (List.mem_of_getElem? (i := 20) rfl))) (by decide) (t := (.array .long)) (t' := (.array .boolean)) (by decide) (by decide)))
          have G72_v_held := Fld.same W72 F69
          have G72_v_size := Fld.other W72 F70 (Or.inr (slot_ne (Or.inl (hw _ (List.mem_of_getElem? (i := 45) rfl))) (Or.inl (hw _ (List.mem_of_getElem? (i := 20) rfl))) (by decide) (t := .int) (t' := (.array .boolean)) (by decide) (by decide)))
          have Q72_v := Exa.wr W72 Q71
          have A72_va := own_A_other A63 W72 (by first | exact ne_va_v | exact fun q => ne_v_va q.symm)
          have A72_ha := own_I_other A64 W72 (by first | exact ne_ha_v | exact fun q => ne_v_ha q.symm)
          have A72_na := own_A_other A65 W72 (by first | exact ne_na_v | exact fun q => ne_v_na q.symm)
          have A72_nh := own_I_other A62 W72 (by first | exact ne_nh_v | exact fun q => ne_v_nh q.symm)
          show own_G p e below (T72.setTop (mkF m 175 #[.val (.ref v), .val (.long f), .second, .val (.long en), .second, .val (.int gn), .val (.int ln)] [])) _
          refine own_blk X72 B7_175_177 B7_175_177d (ls' := #[.val (.ref v), .val (.long f), .second, .val (.long en), .second, .val (.int gn), .val (.int ln)]) (st' := [(.ref v), (.ref v)]) rfl ?_
          refine own_getF X72 (hw _ (List.mem_of_getElem? (i := 11) rfl)) G72_v_base d7_177 (fun T73 X73 => ?_)
          refine own_blk X73 B7_180_184 B7_180_184d (ls' := #[.val (.ref v), .val (.long f), .second, .val (.long en), .second, .val (.int gn), .val (.int ln)]) (st' := [(.long ((1 : Int64) + (gn.toInt64))), (.ref v)]) rfl ?_
          refine own_putF X73 (hw _ (List.mem_of_getElem? (i := 11) rfl)) G72_v_base Q72_v (Or.inl (hw _ (List.mem_of_getElem? (i := 12) rfl))) (hw _ (List.mem_of_getElem? (i := 3) rfl)) (ty := .long) (by decide) rfl rfl n_v d7_184 (fun h74 T74 X74 W74 => ?_)
          have G74_v_base := Fld.same W74 G72_v_base
          have G74_v_kept := Fld.other W74 G72_v_kept (Or.inr (slot_ne (Or.inl (hw _ (List.mem_of_getElem? (i := 14) rfl))) (Or.inl (hw _ (List.mem_of_getElem? (i := 12) rfl))) (by decide) (t := .long) (t' := .long) (by decide) (by decide)))
          have G74_v_values := Fld.other W74 G72_v_values (Or.inr (slot_ne (Or.inl (hw _ (List.mem_of_getElem? (i := 17) rfl))) (Or.inl (hw _ (List.mem_of_getElem? (i := 12) rfl))) (by decide) (t := (.array .long)) (t' := .long) (by decide) (by decide)))
          have G74_v_held := Fld.other W74 G72_v_held (Or.inr (slot_ne (Or.inl (hw _ (List.mem_of_getElem? (i := 20) rfl))) (Or.inl (hw _ (List.mem_of_getElem? (i := 12) rfl))) (by decide) (t := (.array .boolean)) (t' := .long) (by decide) (by decide)))
          have G74_v_size := Fld.other W74 G72_v_size (Or.inr (slot_ne (Or.inl (hw _ (List.mem_of_getElem? (i := 45) rfl))) (Or.inl (hw _ (List.mem_of_getElem? (i := 12) rfl))) (by decide) (t := .int) (t' := .long) (by decide) (by decide)))
          have Q74_v := Exa.wr W74 Q72_v
          have A74_va := own_A_other A72_va W74 (by first | exact ne_va_v | exact fun q => ne_v_va q.symm)
          have A74_ha := own_I_other A72_ha W74 (by first | exact ne_ha_v | exact fun q => ne_v_ha q.symm)
          have A74_na := own_A_other A72_na W74 (by first | exact ne_na_v | exact fun q => ne_v_na q.symm)
          have A74_nh := own_I_other A72_nh W74 (by first | exact ne_nh_v | exact fun q => ne_v_nh q.symm)
          show own_G p e below (T74.setTop (mkF m 187 #[.val (.ref v), .val (.long f), .second, .val (.long en), .second, .val (.int gn), .val (.int ln)] [])) _
          have hB' : ((1 : Int64) + (gn.toInt64)).toInt = 1 + gn.toInt := by rw [Jvm.Kit.i64_add (by rw [Jvm.Kit.i64_of_i32]; show _ ≤ (1 : Int) + _; omega) (by rw [Jvm.Kit.i64_of_i32]; show (1 : Int) + _ < _; omega), Jvm.Kit.i64_of_i32]; rfl
          exact own_retV X74 d7_187 (by decide) (by decide) (⟨rfl, X74.2.1, _, _, ((gn + ln).toInt - gn.toInt).toNat, by omega, by omega, by rw [hB']; omega, by rw [hB']; omega, rfl, na, nh, _, _, _, ⟨Q74_v, G74_v_base, G74_v_kept, G74_v_values, G74_v_held, G74_v_size, A74_na, A74_nh, n_v, n_na, n_nh, (by first | exact ne_v_na | exact fun q => ne_na_v q.symm), (by first | exact ne_v_nh | exact fun q => ne_nh_v q.symm), (by first | exact ne_na_nh | exact fun q => ne_nh_na q.symm)⟩, fun j q0 q1 => by show (if _ then _ else _) = _ ∨ (if _ then _ else _) = _; split; exact h01C _ (by omega) (by omega); exact Or.inl rfl, fun k hk => by rw [hB']; exact own_forget_mem (n' := ((gn + ln).toInt - gn.toInt).toNat) (g := gn.toInt) hmem1 hC hK3.1 hkx (by omega) (by omega) (by omega) (by omega) (fun j q0 q1 => rfl) k hk⟩)
        · have c120 : ¬ ((Int32.ofNat n).toInt ≤ ((2 : Int32) * gn).toInt) := c120
          exact own_retV X47 d7_123 (by decide) (by decide) (⟨rfl, X47.2.1, 1, _, n, hn16, hn, by decide, hK3.1, rfl, va, ha, _, fv, hvJ, ⟨Q42_v, G42_v_base, G42_v_kept, G42_v_values, G42_v_held, G42_v_size, A42_va, A42_ha, n_v, n_va, n_ha, (by first | exact ne_v_va | exact fun q => ne_va_v q.symm), (by first | exact ne_v_ha | exact fun q => ne_ha_v q.symm), (by first | exact ne_va_ha | exact fun q => ne_ha_va q.symm)⟩, fun j q0 q1 => by rw [hC j q0 q1]; split; exact Or.inl rfl; exact hv01 j q0 q1, fun k hk => by have q1 := own_forget_mem (n' := n) (g := 0) (hvN := hvJ) hmem1 hC hK3.1 hkx (by omega) (by omega) (by omega) (by omega) (fun j q0 q1 => by rw [if_pos (by omega), Int.zero_add]) k hk; rw [Int.add_zero] at q1; exact q1⟩)
      · have c25 : ¬ (en.toInt ≤ kk.toInt) := c25
        have hki2 := hki (by omega)
        have hk1 : (kk + (1 : Int64)).toInt = kk.toInt + 1 := by rw [Jvm.Kit.i64_add (by show _ ≤ _ + (1 : Int); omega) (by show _ + (1 : Int) < _; omega)]; rfl
        refine own_blk XJ B7_29_30 B7_29_30d (ls' := #[.val (.ref v), .val (.long f), .second, .val (.long en), .second, .val (.long kk), .second]) (st' := [(.ref v)]) rfl ?_
        refine own_getF XJ (hw _ (List.mem_of_getElem? (i := 19) rfl)) PhJ d7_30 (fun T75 X75 => ?_)
        refine own_blk X75 B7_33_36 B7_33_36d (ls' := #[.val (.ref v), .val (.long f), .second, .val (.long en), .second, .val (.long kk), .second]) (st' := [(.ref v), (.long kk), (.ref ha)]) rfl ?_
        refine own_getF X75 (hw _ (List.mem_of_getElem? (i := 11) rfl)) PbJ d7_36 (fun T76 X76 => ?_)
        refine own_blk X76 B7_39_41 B7_39_41d (ls' := #[.val (.ref v), .val (.long f), .second, .val (.long en), .second, .val (.long kk), .second]) (st' := [(.int ((kk - (1 : Int64)).toInt32)), (.ref ha)]) rfl ?_
        refine own_zald X76 AhJ d7_41 (by omega) (by omega) ?_
        show own_G p e below (T76.setTop (mkF m 42 #[.val (.ref v), .val (.long f), .second, .val (.long en), .second, .val (.long kk), .second] [(.int (hvJ ((kk - (1 : Int64)).toInt32).toInt))])) _
        refine own_if X76 d7_42 (pc' := 55) (by decide) (fun c42 => ?_) (fun c42 => ?_)
        · have c42 : (hvJ ((kk - (1 : Int64)).toInt32).toInt).toInt = 0 := c42
          refine own_blk X76 B7_55_56 B7_55_56d (ls' := #[.val (.ref v), .val (.long f), .second, .val (.long en), .second, .val (.long kk), .second]) (st' := [(.ref v)]) rfl ?_
          refine own_getF X76 (hw _ (List.mem_of_getElem? (i := 19) rfl)) PhJ d7_56 (fun T77 X77 => ?_)
          refine own_blk X77 B7_59_62 B7_59_62d (ls' := #[.val (.ref v), .val (.long f), .second, .val (.long en), .second, .val (.long kk), .second]) (st' := [(.ref v), (.long kk), (.ref ha)]) rfl ?_
          refine own_getF X77 (hw _ (List.mem_of_getElem? (i := 11) rfl)) PbJ d7_62 (fun T78 X78 => ?_)
          refine own_blk X78 B7_65_68 B7_65_68d (ls' := #[.val (.ref v), .val (.long f), .second, .val (.long en), .second, .val (.long kk), .second]) (st' := [(.int (0 : Int32)), (.int ((kk - (1 : Int64)).toInt32)), (.ref ha)]) rfl ?_
          refine own_zast X78 AhJ n_ha d7_68 (by omega) (by omega) (by decide) (fun h79 T79 X79 A79 W79 => ?_)
          have A79 : own_I Z h79 ha .boolean n (own_u hvJ (kk.toInt - 1) (0 : Int32)) := by rw [← hki2]; exact A79
          generalize eg79 : own_u hvJ (kk.toInt - 1) (0 : Int32) = g79 at A79
          have A79_va := own_A_other AvJ W79 (by first | exact ne_va_ha | exact fun q => ne_ha_va q.symm)
          have F79_v_base := Fld.other W79 PbJ (Or.inl (by first | exact ne_v_ha | exact fun q => ne_ha_v q.symm))
          have F79_v_kept := Fld.other W79 PkJ (Or.inl (by first | exact ne_v_ha | exact fun q => ne_ha_v q.symm))
          have F79_v_values := Fld.other W79 PvJ (Or.inl (by first | exact ne_v_ha | exact fun q => ne_ha_v q.symm))
          have F79_v_held := Fld.other W79 PhJ (Or.inl (by first | exact ne_v_ha | exact fun q => ne_ha_v q.symm))
          have F79_v_size := Fld.other W79 PsJ (Or.inl (by first | exact ne_v_ha | exact fun q => ne_ha_v q.symm))
          have Q79_v := Exa.wr W79 EJ
          refine own_blk X79 B7_69_75 B7_69_75d (ls' := #[.val (.ref v), .val (.long f), .second, .val (.long en), .second, .val (.long (kk + (1 : Int64))), .second]) (st' := []) rfl ?_
          refine own_goto X79 d7_75 (pc' := 22) (by decide) ?_
          refine ih _ _ _ _ _ (by omega) (by rw [hk1]; omega) (by rw [hk1]; omega) X79 Q79_v F79_v_base F79_v_kept F79_v_values F79_v_held F79_v_size A79_va A79 ?_
          rw [hk1, ← eg79]; exact own_clear hC (by omega)
        · have c42 : ¬ ((hvJ ((kk - (1 : Int64)).toInt32).toInt).toInt = 0) := c42
          refine own_blk X76 B7_45_47 B7_45_47d (ls' := #[.val (.ref v), .val (.long f), .second, .val (.long en), .second, .val (.long kk), .second]) (st' := [(.ref v), (.ref v)]) rfl ?_
          refine own_getF X76 (hw _ (List.mem_of_getElem? (i := 44) rfl)) PsJ d7_47 (fun T80 X80 => ?_)
          refine own_blk X80 B7_50_52 B7_50_52d (ls' := #[.val (.ref v), .val (.long f), .second, .val (.long en), .second, .val (.long kk), .second]) (st' := [(.int (szJ - (1 : Int32))), (.ref v)]) rfl ?_
          refine own_putF X80 (hw _ (List.mem_of_getElem? (i := 44) rfl)) PsJ EJ (Or.inl (hw _ (List.mem_of_getElem? (i := 45) rfl))) (hw _ (List.mem_of_getElem? (i := 3) rfl)) (ty := .int) (by decide) rfl rfl n_v d7_52 (fun h81 T81 X81 W81 => ?_)
          have G81_v_base := Fld.other W81 PbJ (Or.inr (slot_ne (Or.inl (hw _ (List.mem_of_getElem? (i := 12) rfl))) (Or.inl (hw _ (List.mem_of_getElem? (i := 45) rfl))) (by decide) (t := .long) (t' := .int) (by decide) (by decide)))
          have G81_v_kept := Fld.other W81 PkJ (Or.inr (slot_ne (Or.inl (hw _ (List.mem_of_getElem? (i := 14) rfl))) (Or.inl (hw _ (List.mem_of_getElem? (i := 45) rfl))) (by decide) (t := .long) (t' := .int) (by decide) (by decide)))
          have G81_v_values := Fld.other W81 PvJ (Or.inr (slot_ne (Or.inl (hw _ (List.mem_of_getElem? (i := 17) rfl))) (Or.inl (hw _ (List.mem_of_getElem? (i := 45) rfl))) (by decide) (t := (.array .long)) (t' := .int) (by decide) (by decide)))
          have G81_v_held := Fld.other W81 PhJ (Or.inr (slot_ne (Or.inl (hw _ (List.mem_of_getElem? (i := 20) rfl))) (Or.inl (hw _ (List.mem_of_getElem? (i := 45) rfl))) (by decide) (t := (.array .boolean)) (t' := .int) (by decide) (by decide)))
          have G81_v_size := Fld.same W81 PsJ
          have Q81_v := Exa.wr W81 EJ
          have A81_va := own_A_other AvJ W81 (by first | exact ne_va_v | exact fun q => ne_v_va q.symm)
          have A81_ha := own_I_other AhJ W81 (by first | exact ne_ha_v | exact fun q => ne_v_ha q.symm)
          show own_G p e below (T81.setTop (mkF m 55 #[.val (.ref v), .val (.long f), .second, .val (.long en), .second, .val (.long kk), .second] [])) _
          refine own_blk X81 B7_55_56 B7_55_56d (ls' := #[.val (.ref v), .val (.long f), .second, .val (.long en), .second, .val (.long kk), .second]) (st' := [(.ref v)]) rfl ?_
          refine own_getF X81 (hw _ (List.mem_of_getElem? (i := 19) rfl)) G81_v_held d7_56 (fun T82 X82 => ?_)
          refine own_blk X82 B7_59_62 B7_59_62d (ls' := #[.val (.ref v), .val (.long f), .second, .val (.long en), .second, .val (.long kk), .second]) (st' := [(.ref v), (.long kk), (.ref ha)]) rfl ?_
          refine own_getF X82 (hw _ (List.mem_of_getElem? (i := 11) rfl)) G81_v_base d7_62 (fun T83 X83 => ?_)
          refine own_blk X83 B7_65_68 B7_65_68d (ls' := #[.val (.ref v), .val (.long f), .second, .val (.long en), .second, .val (.long kk), .second]) (st' := [(.int (0 : Int32)), (.int ((kk - (1 : Int64)).toInt32)), (.ref ha)]) rfl ?_
          refine own_zast X83 A81_ha n_ha d7_68 (by omega) (by omega) (by decide) (fun h84 T84 X84 A84 W84 => ?_)
          have A84 : own_I Z h84 ha .boolean n (own_u hvJ (kk.toInt - 1) (0 : Int32)) := by rw [← hki2]; exact A84
          generalize eg84 : own_u hvJ (kk.toInt - 1) (0 : Int32) = g84 at A84
          have A84_va := own_A_other A81_va W84 (by first | exact ne_va_ha | exact fun q => ne_ha_va q.symm)
          have F84_v_base := Fld.other W84 G81_v_base (Or.inl (by first | exact ne_v_ha | exact fun q => ne_ha_v q.symm))
          have F84_v_kept := Fld.other W84 G81_v_kept (Or.inl (by first | exact ne_v_ha | exact fun q => ne_ha_v q.symm))
          have F84_v_values := Fld.other W84 G81_v_values (Or.inl (by first | exact ne_v_ha | exact fun q => ne_ha_v q.symm))
          have F84_v_held := Fld.other W84 G81_v_held (Or.inl (by first | exact ne_v_ha | exact fun q => ne_ha_v q.symm))
          have F84_v_size := Fld.other W84 G81_v_size (Or.inl (by first | exact ne_v_ha | exact fun q => ne_ha_v q.symm))
          have Q84_v := Exa.wr W84 Q81_v
          refine own_blk X84 B7_69_75 B7_69_75d (ls' := #[.val (.ref v), .val (.long f), .second, .val (.long en), .second, .val (.long (kk + (1 : Int64))), .second]) (st' := []) rfl ?_
          refine own_goto X84 d7_75 (pc' := 22) (by decide) ?_
          refine ih _ _ _ _ _ (by omega) (by rw [hk1]; omega) (by rw [hk1]; omega) X84 Q84_v F84_v_base F84_v_kept F84_v_values F84_v_held F84_v_size A84_va A84 ?_
          rw [hk1, ← eg84]; exact own_clear hC (by omega)
  exact L 300 _ _ _ _ _ (by decide) (by show _ ≤ (1 : Int) + 300; omega) (Or.inr rfl) X4 E Pb Pk Pv Ph Ps Av Ah (fun j q0 q1 => by rw [if_neg]; show ¬ j < (1 : Int) - 1; omega)
abbrev own_y4 : MethodName := ⟨"java/util/AbstractMap", "<init>", "()V"⟩
theorem pl4 : plainFor own_y4 = true := plainFor_of_name (by first | (simp [plainName, overriddenIn]; done) | decide +kernel)
def B4_0_1 : List (Instr × Nat) := [(.aload_n 0, 1)]
theorem B4_0_1d : own_d jdk_71_method_1_code 0 B4_0_1 1 = true := by decide +kernel
theorem d4_1 : decode jdk_71_method_1_code 1 = .ok (.invokespecial 1, 3) := by decide +kernel
theorem d4_4 : decode jdk_71_method_1_code 4 = .ok (.return_, 1) := by decide +kernel
set_option maxRecDepth 65536 in
set_option maxHeartbeats 40000000 in
theorem c_am (l : Launch) (Z : State) (a0 : Array Value) (hw : ∀ d ∈ tables_1, d.before a0 Z = true) (a : Addr) (h0 : Heap) (n0 : Nat) (Z0 : n0 ≤ h0.size)  :
    own_C l Z own_y4 jdk_71_method_1_code 1 none ({ frames := 1, cells := 0, slots := 0, locals := 12 } : Room) #[(.ref a)] h0 n0 (fun v h => v = none ∧ h = h0) := by
  refine own_body pl4 Z0 (ls := #[.val (.ref a)]) (fun m => by first | (simp [entryFrame, mkF, argsToLocals, Value.category]; done) | rfl) ?_
  intro p e s m below meth c T0 X0
  refine own_blk X0 B4_0_1 B4_0_1d (ls' := #[.val (.ref a)]) (st' := [(.ref a)]) rfl ?_
  refine own_init X0 (hw _ (List.mem_of_getElem? (i := 34) rfl)) (hw _ (List.mem_of_getElem? (i := 9) rfl)) (hw _ (List.mem_of_getElem? (i := 10) rfl)) d4_1 rfl (by decide) (Nat.le_of_ble_eq_true rfl) (fun T1 X1 => ?_)
  show own_G p e below (T1.setTop (mkF m 4 #[.val (.ref a)] [])) _
  exact own_retV X1 d4_4 (by decide) (by decide) (⟨rfl, rfl⟩)
abbrev own_y3 : MethodName := ⟨"lonewatch/model/InstanceValues$View", "<init>", "(Llonewatch/model/InstanceValues;)V"⟩
theorem pl3 : plainFor own_y3 = true := plainFor_of_name (by first | (simp [plainName, overriddenIn]; done) | decide +kernel)
def B3_0_2 : List (Instr × Nat) := [(.aload_n 0, 1), (.aload_n 1, 1)]
theorem B3_0_2d : own_d prog_111_method_1_code 0 B3_0_2 2 = true := by decide +kernel
theorem d3_2 : decode prog_111_method_1_code 2 = .ok (.putfield 1, 3) := by decide +kernel
def B3_5_6 : List (Instr × Nat) := [(.aload_n 0, 1)]
theorem B3_5_6d : own_d prog_111_method_1_code 5 B3_5_6 6 = true := by decide +kernel
theorem d3_6 : decode prog_111_method_1_code 6 = .ok (.invokespecial 7, 3) := by decide +kernel
theorem pd4 : parseMethodDescriptor "()V" = some ⟨[], none⟩ := by decide +kernel
theorem d3_9 : decode prog_111_method_1_code 9 = .ok (.return_, 1) := by decide +kernel
set_option maxRecDepth 65536 in
set_option maxHeartbeats 40000000 in
theorem c_vinit (l : Launch) (Z : State) (a0 : Array Value) (hw : ∀ d ∈ tables_1, d.before a0 Z = true) (u : Addr) (o : Addr) (h0 : Heap) (n0 : Nat) (Z0 : n0 ≤ h0.size) (n_u : n0 ≤ u) (E : Exa Z h0 u "lonewatch/model/InstanceValues$View") (P0 : Fld Z h0 u "lonewatch/model/InstanceValues$View" "this$0" "Llonewatch/model/InstanceValues;" .null) :
    own_C l Z own_y3 prog_111_method_1_code 2 none ({ frames := 2, cells := 0, slots := 0, locals := 24 } : Room) #[(.ref u), (.ref o)] h0 n0 (fun v h => v = none ∧ Keep h0 h [u]) := by
  refine own_body pl3 Z0 (ls := #[.val (.ref u), .val (.ref o)]) (fun m => by first | (simp [entryFrame, mkF, argsToLocals, Value.category]; done) | rfl) ?_
  intro p e s m below meth c T0 X0
  have K0 : Keep h0 h0 [u] := Keep.refl _ _
  refine own_blk X0 B3_0_2 B3_0_2d (ls' := #[.val (.ref u), .val (.ref o)]) (st' := [(.ref o), (.ref u)]) rfl ?_
  refine own_putF X0 (hw _ (List.mem_of_getElem? (i := 27) rfl)) P0 E (Or.inr ⟨(hw _ (List.mem_of_getElem? (i := 28) rfl)), rfl, rfl⟩) (hw _ (List.mem_of_getElem? (i := 22) rfl)) (ty := (.object "lonewatch/model/InstanceValues")) (by decide) rfl rfl n_u d3_2 (fun h1 T1 X1 W1 => ?_)
  have K1 := K0.wr W1 (Or.inl (by simp))
  have G1_u_this_0 := Fld.same W1 P0
  have Q1_u := Exa.wr W1 E
  show own_G p e below (T1.setTop (mkF m 5 #[.val (.ref u), .val (.ref o)] [])) _
  refine own_blk X1 B3_5_6 B3_5_6d (ls' := #[.val (.ref u), .val (.ref o)]) (st' := [(.ref u)]) rfl ?_
  refine own_callN X1 rfl (hw _ (List.mem_of_getElem? (i := 29) rfl)) (hw _ (List.mem_of_getElem? (i := 30) rfl)) (hw _ (List.mem_of_getElem? (i := 32) rfl)) (hw _ (List.mem_of_getElem? (i := 33) rfl)) (by decide) (c_am l Z a0 hw u h1 n0 X1.2.1) d3_6 [] [] rfl rfl pd4 rfl rfl (by decide) (Nat.le_of_ble_eq_true rfl) (by decide) (by decide) (fun _ _ q => by rw [q.2]; exact X1.2.1) (fun v2 h2 T2 X2 q2 => ?_)
  obtain ⟨rfl, e2⟩ := q2
  rw [e2] at X2
  show own_G p e below (T2.setTop (mkF m 9 #[.val (.ref u), .val (.ref o)] [])) _
  exact own_retV X2 d3_9 (by decide) (by decide) (⟨rfl, K1⟩)
abbrev own_y1 : MethodName := ⟨"lonewatch/model/InstanceValues", "<init>", "()V"⟩
theorem pl1 : plainFor own_y1 = true := plainFor_of_name (by first | (simp [plainName, overriddenIn]; done) | decide +kernel)
def B1_0_1 : List (Instr × Nat) := [(.aload_n 0, 1)]
theorem B1_0_1d : own_d prog_110_method_1_code 0 B1_0_1 1 = true := by decide +kernel
theorem d1_1 : decode prog_110_method_1_code 1 = .ok (.invokespecial 3, 3) := by decide +kernel
def B1_4_6 : List (Instr × Nat) := [(.aload_n 0, 1), (.lconst 1, 1)]
theorem B1_4_6d : own_d prog_110_method_1_code 4 B1_4_6 6 = true := by decide +kernel
theorem d1_6 : decode prog_110_method_1_code 6 = .ok (.putfield 9, 3) := by decide +kernel
def B1_9_11 : List (Instr × Nat) := [(.aload_n 0, 1), (.lconst 1, 1)]
theorem B1_9_11d : own_d prog_110_method_1_code 9 B1_9_11 11 = true := by decide +kernel
theorem d1_11 : decode prog_110_method_1_code 11 = .ok (.putfield 15, 3) := by decide +kernel
def B1_14_17 : List (Instr × Nat) := [(.aload_n 0, 1), (.bipush 16, 2)]
theorem B1_14_17d : own_d prog_110_method_1_code 14 B1_14_17 17 = true := by decide +kernel
theorem d1_17 : decode prog_110_method_1_code 17 = .ok (.newarray .long, 2) := by decide +kernel
theorem d1_19 : decode prog_110_method_1_code 19 = .ok (.putfield 18, 3) := by decide +kernel
def B1_22_25 : List (Instr × Nat) := [(.aload_n 0, 1), (.bipush 16, 2)]
theorem B1_22_25d : own_d prog_110_method_1_code 22 B1_22_25 25 = true := by decide +kernel
theorem d1_25 : decode prog_110_method_1_code 25 = .ok (.newarray .boolean, 2) := by decide +kernel
theorem d1_27 : decode prog_110_method_1_code 27 = .ok (.putfield 22, 3) := by decide +kernel
def B1_30_31 : List (Instr × Nat) := [(.aload_n 0, 1)]
theorem B1_30_31d : own_d prog_110_method_1_code 30 B1_30_31 31 = true := by decide +kernel
theorem d1_31 : decode prog_110_method_1_code 31 = .ok (.new 26, 3) := by decide +kernel
def B1_34_36 : List (Instr × Nat) := [(.dup, 1), (.aload_n 0, 1)]
theorem B1_34_36d : own_d prog_110_method_1_code 34 B1_34_36 36 = true := by decide +kernel
theorem d1_36 : decode prog_110_method_1_code 36 = .ok (.invokespecial 28, 3) := by decide +kernel
theorem pd3 : parseMethodDescriptor "(Llonewatch/model/InstanceValues;)V" = some ⟨[(.object "lonewatch/model/InstanceValues")], none⟩ := by decide +kernel
theorem d1_39 : decode prog_110_method_1_code 39 = .ok (.putfield 31, 3) := by decide +kernel
theorem d1_42 : decode prog_110_method_1_code 42 = .ok (.return_, 1) := by decide +kernel
set_option maxRecDepth 65536 in
set_option maxHeartbeats 40000000 in
theorem c_init (l : Launch) (Z : State) (a0 : Array Value) (hw : ∀ d ∈ tables_1, d.before a0 Z = true) (v : Addr) (h0 : Heap) (n0 : Nat) (Z0 : n0 ≤ h0.size) (n_v : n0 ≤ v) (E : Exa Z h0 v "lonewatch/model/InstanceValues") (P_base : Fld Z h0 v "lonewatch/model/InstanceValues" "base" "J" (.long (0 : Int64))) (P_kept : Fld Z h0 v "lonewatch/model/InstanceValues" "kept" "J" (.long (0 : Int64))) (P_values : Fld Z h0 v "lonewatch/model/InstanceValues" "values" "[J" .null) (P_held : Fld Z h0 v "lonewatch/model/InstanceValues" "held" "[Z" .null) (P_size : Fld Z h0 v "lonewatch/model/InstanceValues" "size" "I" (.int (0 : Int32))) (P_view : Fld Z h0 v "lonewatch/model/InstanceValues" "view" "Ljava/util/Map;" .null) :
    own_C l Z own_y1 prog_110_method_1_code 1 none ({ frames := 3, cells := 3, slots := 35, locals := 44 } : Room) #[(.ref v)] h0 n0 (fun v' h => v' = none ∧ n0 ≤ h.size ∧ own_S Z h n0 v 1 1 16 (fun _ => False)) := by
  refine own_body pl1 Z0 (ls := #[.val (.ref v)]) (fun m => by first | (simp [entryFrame, mkF, argsToLocals, Value.category]; done) | rfl) ?_
  intro p e s m below meth c T0 X0
  refine own_blk X0 B1_0_1 B1_0_1d (ls' := #[.val (.ref v)]) (st' := [(.ref v)]) rfl ?_
  refine own_init X0 (hw _ (List.mem_of_getElem? (i := 8) rfl)) (hw _ (List.mem_of_getElem? (i := 9) rfl)) (hw _ (List.mem_of_getElem? (i := 10) rfl)) d1_1 rfl (by decide) (Nat.le_of_ble_eq_true rfl) (fun T1 X1 => ?_)
  show own_G p e below (T1.setTop (mkF m 4 #[.val (.ref v)] [])) _
  refine own_blk X1 B1_4_6 B1_4_6d (ls' := #[.val (.ref v)]) (st' := [(.long (1 : Int64)), (.ref v)]) rfl ?_
  refine own_putF X1 (hw _ (List.mem_of_getElem? (i := 11) rfl)) P_base E (Or.inl (hw _ (List.mem_of_getElem? (i := 12) rfl))) (hw _ (List.mem_of_getElem? (i := 3) rfl)) (ty := .long) (by decide) rfl rfl n_v d1_6 (fun h2 T2 X2 W2 => ?_)
  have G2_v_base := Fld.same W2 P_base
  have G2_v_kept := Fld.other W2 P_kept (Or.inr (slot_ne (Or.inl (hw _ (List.mem_of_getElem? (i := 14) rfl))) (Or.inl (hw _ (List.mem_of_getElem? (i := 12) rfl))) (by decide) (t := .long) (t' := .long) (by decide) (by decide)))
  have G2_v_values := Fld.other W2 P_values (Or.inr (slot_ne (Or.inl (hw _ (List.mem_of_getElem? (i := 17) rfl))) (Or.inl (hw _ (List.mem_of_getElem? (i := 12) rfl))) (by decide) (t := (.array .long)) (t' := .long) (by decide) (by decide)))
  have G2_v_held := Fld.other W2 P_held (Or.inr (slot_ne (Or.inl (hw _ (List.mem_of_getElem? (i := 20) rfl))) (Or.inl (hw _ (List.mem_of_getElem? (i := 12) rfl))) (by decide) (t := (.array .boolean)) (t' := .long) (by decide) (by decide)))
  have G2_v_size := Fld.other W2 P_size (Or.inr (slot_ne (Or.inl (hw _ (List.mem_of_getElem? (i := 45) rfl))) (Or.inl (hw _ (List.mem_of_getElem? (i := 12) rfl))) (by decide) (t := .int) (t' := .long) (by decide) (by decide)))
  have G2_v_view := Fld.other W2 P_view (Or.inr (slot_ne (Or.inr (hw _ (List.mem_of_getElem? (i := 36) rfl))) (Or.inl (hw _ (List.mem_of_getElem? (i := 12) rfl))) (by decide) (t := (.object "java/util/Map")) (t' := .long) (by decide) (by decide)))
  have Q2_v := Exa.wr W2 E
  show own_G p e below (T2.setTop (mkF m 9 #[.val (.ref v)] [])) _
  refine own_blk X2 B1_9_11 B1_9_11d (ls' := #[.val (.ref v)]) (st' := [(.long (1 : Int64)), (.ref v)]) rfl ?_
  refine own_putF X2 (hw _ (List.mem_of_getElem? (i := 13) rfl)) G2_v_kept Q2_v (Or.inl (hw _ (List.mem_of_getElem? (i := 14) rfl))) (hw _ (List.mem_of_getElem? (i := 3) rfl)) (ty := .long) (by decide) rfl rfl n_v d1_11 (fun h3 T3 X3 W3 => ?_)
  have G3_v_base := Fld.other W3 G2_v_base (Or.inr (slot_ne (Or.inl (hw _ (List.mem_of_getElem? (i := 12) rfl))) (Or.inl (hw _ (List.mem_of_getElem? (i := 14) rfl))) (by decide) (t := .long) (t' := .long) (by decide) (by decide)))
  have G3_v_kept := Fld.same W3 G2_v_kept
  have G3_v_values := Fld.other W3 G2_v_values (Or.inr (slot_ne (Or.inl (hw _ (List.mem_of_getElem? (i := 17) rfl))) (Or.inl (hw _ (List.mem_of_getElem? (i := 14) rfl))) (by decide) (t := (.array .long)) (t' := .long) (by decide) (by decide)))
  have G3_v_held := Fld.other W3 G2_v_held (Or.inr (slot_ne (Or.inl (hw _ (List.mem_of_getElem? (i := 20) rfl))) (Or.inl (hw _ (List.mem_of_getElem? (i := 14) rfl))) (by decide) (t := (.array .boolean)) (t' := .long) (by decide) (by decide)))
  have G3_v_size := Fld.other W3 G2_v_size (Or.inr (slot_ne (Or.inl (hw _ (List.mem_of_getElem? (i := 45) rfl))) (Or.inl (hw _ (List.mem_of_getElem? (i := 14) rfl))) (by decide) (t := .int) (t' := .long) (by decide) (by decide)))
  have G3_v_view := Fld.other W3 G2_v_view (Or.inr (slot_ne (Or.inr (hw _ (List.mem_of_getElem? (i := 36) rfl))) (Or.inl (hw _ (List.mem_of_getElem? (i := 14) rfl))) (by decide) (t := (.object "java/util/Map")) (t' := .long) (by decide) (by decide)))
  have Q3_v := Exa.wr W3 Q2_v
  show own_G p e below (T3.setTop (mkF m 14 #[.val (.ref v)] [])) _
  refine own_blk X3 B1_14_17 B1_14_17d (ls' := #[.val (.ref v)]) (st' := [(.int (16 : Int32)), (.ref v)]) rfl ?_
  have lt_v := Exa.lt Q3_v
  refine own_newP X3 (hw _ (List.mem_of_getElem? (i := 15) rfl)) d1_17 (by decide) 16 (by decide) (by decide) (by decide) (by decide) (fun h4 T4 X4 E4 A4 => ?_)
  have n_va : n0 ≤ h3.size := X3.2.1
  have A4 : own_A Z h4 h3.size .long 16 (fun j => .long ((fun _ => (0 : Int64)) j)) := A4
  generalize ez_va : h3.size = va at A4 n_va lt_v ⊢
  have F5 := Fld.ext E4 G3_v_base
  have F6 := Fld.ext E4 G3_v_kept
  have F7 := Fld.ext E4 G3_v_values
  have F8 := Fld.ext E4 G3_v_held
  have F9 := Fld.ext E4 G3_v_size
  have F10 := Fld.ext E4 G3_v_view
  have Q11 := Exa.ext E4 Q3_v
  have ne_v_va : v ≠ va := Nat.ne_of_lt lt_v
  show own_G p e below (T4.setTop (mkF m 19 #[.val (.ref v)] [(.ref va), (.ref v)])) _
  refine own_putF X4 (hw _ (List.mem_of_getElem? (i := 16) rfl)) F7 Q11 (Or.inl (hw _ (List.mem_of_getElem? (i := 17) rfl))) (hw _ (List.mem_of_getElem? (i := 3) rfl)) (ty := (.array .long)) (by decide) rfl rfl n_v d1_19 (fun h12 T12 X12 W12 => ?_)
  have G12_v_base := Fld.other W12 F5 (Or.inr (slot_ne (Or.inl (hw _ (List.mem_of_getElem? (i := 12) rfl))) (Or.inl (hw _ (List.mem_of_getElem? (i := 17) rfl))) (by decide) (t := .long) (t' := (.array .long)) (by decide) (by decide)))
  have G12_v_kept := Fld.other W12 F6 (Or.inr (slot_ne (Or.inl (hw _ (List.mem_of_getElem? (i := 14) rfl))) (Or.inl (hw _ (List.mem_of_getElem? (i := 17) rfl))) (by decide) (t := .long) (t' := (.array .long)) (by decide) (by decide)))
  have G12_v_values := Fld.same W12 F7
  have G12_v_held := Fld.other W12 F8 (Or.inr (slot_ne (Or.inl (hw _ (List.mem_of_getElem? (i := 20) rfl))) (Or.inl (hw _ (List.mem_of_getElem? (i := 17) rfl))) (by decide) (t := (.array .boolean)) (t' := (.array .long)) (by decide) (by decide)))
  have G12_v_size := Fld.other W12 F9 (Or.inr (slot_ne (Or.inl (hw _ (List.mem_of_getElem? (i := 45) rfl))) (Or.inl (hw _ (List.mem_of_getElem? (i := 17) rfl))) (by decide) (t := .int) (t' := (.array .long)) (by decide) (by decide)))
  have G12_v_view := Fld.other W12 F10 (Or.inr (slot_ne (Or.inr (hw _ (List.mem_of_getElem? (i := 36) rfl))) (Or.inl (hw _ (List.mem_of_getElem? (i := 17) rfl))) (by decide) (t := (.object "java/util/Map")) (t' := (.array .long)) (by decide) (by decide)))
  have Q12_v := Exa.wr W12 Q11
  have A12_va := own_A_other A4 W12 (by first | exact ne_va_v | exact fun q => ne_v_va q.symm)
  show own_G p e below (T12.setTop (mkF m 22 #[.val (.ref v)] [])) _
  refine own_blk X12 B1_22_25 B1_22_25d (ls' := #[.val (.ref v)]) (st' := [(.int (16 : Int32)), (.ref v)]) rfl ?_
  have lt_va := own_A_lt A12_va
  have lt_v := Exa.lt Q12_v
  refine own_newI X12 (hw _ (List.mem_of_getElem? (i := 18) rfl)) rfl d1_25 (by decide) 16 (by decide) (by decide) (by decide) (by decide) (fun h13 T13 X13 E13 A13 => ?_)
  have n_ha : n0 ≤ h12.size := X12.2.1
  have A13 : own_I Z h13 h12.size .boolean 16 (fun _ => (0 : Int32)) := A13
  generalize ez_ha : h12.size = ha at A13 n_ha lt_va lt_v ⊢
  have A14 := own_A_ext A12_va E13
  have F15 := Fld.ext E13 G12_v_base
  have F16 := Fld.ext E13 G12_v_kept
  have F17 := Fld.ext E13 G12_v_values
  have F18 := Fld.ext E13 G12_v_held
  have F19 := Fld.ext E13 G12_v_size
  have F20 := Fld.ext E13 G12_v_view
  have Q21 := Exa.ext E13 Q12_v
  have ne_va_ha : va ≠ ha := Nat.ne_of_lt lt_va
  have ne_v_ha : v ≠ ha := Nat.ne_of_lt lt_v
  show own_G p e below (T13.setTop (mkF m 27 #[.val (.ref v)] [(.ref ha), (.ref v)])) _
  refine own_putF X13 (hw _ (List.mem_of_getElem? (i := 19) rfl)) F18 Q21 (Or.inl (hw _ (List.mem_of_getElem? (i := 20) rfl))) (hw _ (List.mem_of_getElem? (i := 3) rfl)) (ty := (.array .boolean)) (by decide) rfl rfl n_v d1_27 (fun h22 T22 X22 W22 => ?_)
  have G22_v_base := Fld.other W22 F15 (Or.inr (slot_ne (Or.inl (hw _ (List.mem_of_getElem? (i := 12) rfl))) (Or.inl (hw _ (List.mem_of_getElem? (i := 20) rfl))) (by decide) (t := .long) (t' := (.array .boolean)) (by decide) (by decide)))
  have G22_v_kept := Fld.other W22 F16 (Or.inr (slot_ne (Or.inl (hw _ (List.mem_of_getElem? (i := 14) rfl))) (Or.inl (hw _ (List.mem_of_getElem? (i := 20) rfl))) (by decide) (t := .long) (t' := (.array .boolean)) (by decide) (by decide)))
  have G22_v_values := Fld.other W22 F17 (Or.inr (slot_ne (Or.inl (hw _ (List.mem_of_getElem? (i := 17) rfl))) (Or.inl (hw _ (List.mem_of_getElem? (i := 20) rfl))) (by decide) (t := (.array .long)) (t' := (.array .boolean)) (by decide) (by decide)))
  have G22_v_held := Fld.same W22 F18
  have G22_v_size := Fld.other W22 F19 (Or.inr (slot_ne (Or.inl (hw _ (List.mem_of_getElem? (i := 45) rfl))) (Or.inl (hw _ (List.mem_of_getElem? (i := 20) rfl))) (by decide) (t := .int) (t' := (.array .boolean)) (by decide) (by decide)))
  have G22_v_view := Fld.other W22 F20 (Or.inr (slot_ne (Or.inr (hw _ (List.mem_of_getElem? (i := 36) rfl))) (Or.inl (hw _ (List.mem_of_getElem? (i := 20) rfl))) (by decide) (t := (.object "java/util/Map")) (t' := (.array .boolean)) (by decide) (by decide)))
  have Q22_v := Exa.wr W22 Q21
  have A22_va := own_A_other A14 W22 (by first | exact ne_va_v | exact fun q => ne_v_va q.symm)
  have A22_ha := own_I_other A13 W22 (by first | exact ne_ha_v | exact fun q => ne_v_ha q.symm)
  show own_G p e below (T22.setTop (mkF m 30 #[.val (.ref v)] [])) _
  refine own_blk X22 B1_30_31 B1_30_31d (ls' := #[.val (.ref v)]) (st' := [(.ref v)]) rfl ?_
  have lt_va := own_A_lt A22_va
  have lt_ha := own_A_lt A22_ha
  have lt_v := Exa.lt Q22_v
  refine own_newO X22 (hw _ (List.mem_of_getElem? (i := 21) rfl)) (hw _ (List.mem_of_getElem? (i := 22) rfl)) (hw _ (List.mem_of_getElem? (i := 23) rfl)) d1_31 (by decide) (by decide) (fun h23 T23 X23 E23 Q23 D23 => ?_)
  have n_u : n0 ≤ h22.size := X22.2.1
  have F23_this_0 : Fld Z h23 h22.size "lonewatch/model/InstanceValues$View" "this$0" "Llonewatch/model/InstanceValues;" .null := D23 (Or.inr (hw _ (List.mem_of_getElem? (i := 28) rfl))) (ty := (.object "lonewatch/model/InstanceValues")) (by decide)
  clear D23
  generalize ez_u : h22.size = u at Q23 n_u F23_this_0 lt_va lt_ha lt_v ⊢
  have A24 := own_A_ext A22_va E23
  have A25 := own_I_ext A22_ha E23
  have F26 := Fld.ext E23 G22_v_base
  have F27 := Fld.ext E23 G22_v_kept
  have F28 := Fld.ext E23 G22_v_values
  have F29 := Fld.ext E23 G22_v_held
  have F30 := Fld.ext E23 G22_v_size
  have F31 := Fld.ext E23 G22_v_view
  have Q32 := Exa.ext E23 Q22_v
  have ne_va_u : va ≠ u := Nat.ne_of_lt lt_va
  have ne_ha_u : ha ≠ u := Nat.ne_of_lt lt_ha
  have ne_v_u : v ≠ u := Nat.ne_of_lt lt_v
  show own_G p e below (T23.setTop (mkF m 34 #[.val (.ref v)] [(.ref u), (.ref v)])) _
  refine own_blk X23 B1_34_36 B1_34_36d (ls' := #[.val (.ref v)]) (st' := [(.ref v), (.ref u), (.ref u), (.ref v)]) rfl ?_
  refine own_callR X23 rfl (hw _ (List.mem_of_getElem? (i := 24) rfl)) (hw _ (List.mem_of_getElem? (i := 25) rfl)) (hw _ (List.mem_of_getElem? (i := 23) rfl)) (hw _ (List.mem_of_getElem? (i := 26) rfl)) (by decide) (c_vinit l Z a0 hw u v h23 n0 X23.2.1 n_u Q23 F23_this_0) d1_36 [(.ref v)] [(.ref u), (.ref v)] rfl rfl pd3 rfl rfl (by decide) (Nat.le_of_ble_eq_true rfl) (by decide) (by decide) (fun _ _ q => Nat.le_trans X23.2.1 q.2.1) (fun v33 h33 T33 X33 q33 => ?_)
  obtain ⟨rfl, K33⟩ := q33
  have A34 := own_A_keep A24 K33 (ninS ne_va_u nin0)
  have A35 := own_I_keep A25 K33 (ninS ne_ha_u nin0)
  have F36 := Fld.keep F26 K33 (ninS ne_v_u nin0)
  have F37 := Fld.keep F27 K33 (ninS ne_v_u nin0)
  have F38 := Fld.keep F28 K33 (ninS ne_v_u nin0)
  have F39 := Fld.keep F29 K33 (ninS ne_v_u nin0)
  have F40 := Fld.keep F30 K33 (ninS ne_v_u nin0)
  have F41 := Fld.keep F31 K33 (ninS ne_v_u nin0)
  have Q42 := Exa.keep Q32 K33
  show own_G p e below (T33.setTop (mkF m 39 #[.val (.ref v)] [(.ref u), (.ref v)])) _
  refine own_putF X33 (hw _ (List.mem_of_getElem? (i := 35) rfl)) F41 Q42 (Or.inr ⟨(hw _ (List.mem_of_getElem? (i := 36) rfl)), rfl, rfl⟩) (hw _ (List.mem_of_getElem? (i := 3) rfl)) (ty := (.object "java/util/Map")) (by decide) rfl rfl n_v d1_39 (fun h43 T43 X43 W43 => ?_)
  have G43_v_base := Fld.other W43 F36 (Or.inr (slot_ne (Or.inl (hw _ (List.mem_of_getElem? (i := 12) rfl))) (Or.inr (hw _ (List.mem_of_getElem? (i := 36) rfl))) (by decide) (t := .long) (t' := (.object "java/util/Map")) (by decide) (by decide)))
  have G43_v_kept := Fld.other W43 F37 (Or.inr (slot_ne (Or.inl (hw _ (List.mem_of_getElem? (i := 14) rfl))) (Or.inr (hw _ (List.mem_of_getElem? (i := 36) rfl))) (by decide) (t := .long) (t' := (.object "java/util/Map")) (by decide) (by decide)))
  have G43_v_values := Fld.other W43 F38 (Or.inr (slot_ne (Or.inl (hw _ (List.mem_of_getElem? (i := 17) rfl))) (Or.inr (hw _ (List.mem_of_getElem? (i := 36) rfl))) (by decide) (t := (.array .long)) (t' := (.object "java/util/Map")) (by decide) (by decide)))
  have G43_v_held := Fld.other W43 F39 (Or.inr (slot_ne (Or.inl (hw _ (List.mem_of_getElem? (i := 20) rfl))) (Or.inr (hw _ (List.mem_of_getElem? (i := 36) rfl))) (by decide) (t := (.array .boolean)) (t' := (.object "java/util/Map")) (by decide) (by decide)))
  have G43_v_size := Fld.other W43 F40 (Or.inr (slot_ne (Or.inl (hw _ (List.mem_of_getElem? (i := 45) rfl))) (Or.inr (hw _ (List.mem_of_getElem? (i := 36) rfl))) (by decide) (t := .int) (t' := (.object "java/util/Map")) (by decide) (by decide)))
  have G43_v_view := Fld.same W43 F41
  have Q43_v := Exa.wr W43 Q42
  have A43_va := own_A_other A34 W43 (by first | exact ne_va_v | exact fun q => ne_v_va q.symm)
  have A43_ha := own_I_other A35 W43 (by first | exact ne_ha_v | exact fun q => ne_v_ha q.symm)
  show own_G p e below (T43.setTop (mkF m 42 #[.val (.ref v)] [])) _
  exact own_retV X43 d1_42 (by decide) (by decide) (⟨rfl, X43.2.1, va, ha, _, _, _, ⟨Q43_v, G43_v_base, G43_v_kept, G43_v_values, G43_v_held, G43_v_size, A43_va, A43_ha, n_v, n_va, n_ha, (by first | exact ne_v_va | exact fun q => ne_va_v q.symm), (by first | exact ne_v_ha | exact fun q => ne_ha_v q.symm), (by first | exact ne_va_ha | exact fun q => ne_ha_va q.symm)⟩, fun _ _ _ => Or.inl rfl, fun k hk => ⟨fun q => q.elim, fun q => absurd q.2 (by decide)⟩⟩)
theorem pl0 : plainFor x = true := plainFor_of_name (by first | (simp [plainName, overriddenIn]; done) | decide +kernel)
theorem own_S_exa {Z : State} {h : Heap} {n0 : Nat} {v : Addr} {B K : Int64} {n : Nat} {mem : Int → Prop} (S : own_S Z h n0 v B K n mem) : Exa Z h v "lonewatch/model/InstanceValues" := by
  obtain ⟨_, _, _, _, _, V, -⟩ := S; exact V.1
def B0_0_18 : List (Instr × Nat) := [(.lconst 1, 1), (.iload_n 2, 1), (.bipush 63, 2), (.iand, 1), (.i2l, 1), (.ladd, 1), (.lstore 7, 2), (.lconst 1, 1), (.iload_n 3, 1), (.bipush 127, 2), (.iand, 1), (.i2l, 1), (.ladd, 1), (.lstore 9, 2)]
theorem B0_0_18d : own_d code 0 B0_0_18 18 = true := by decide +kernel
def B0_18_22 : List (Instr × Nat) := [(.iload 6, 2), (.iconst 1, 1), (.iand, 1)]
theorem B0_18_22d : own_d code 18 B0_18_22 22 = true := by decide +kernel
theorem d0_22 : decode code 22 = .ok (.ifCond .eq 7, 3) := by decide +kernel
def B0_29_36 : List (Instr × Nat) := [(.iconst 0, 1), (.istore 11, 2), (.iload 6, 2), (.iconst 2, 1), (.iand, 1)]
theorem B0_29_36d : own_d code 29 B0_29_36 36 = true := by decide +kernel
theorem d0_36 : decode code 36 = .ok (.ifCond .eq 7, 3) := by decide +kernel
def B0_43_46 : List (Instr × Nat) := [(.iconst 0, 1), (.istore 12, 2)]
theorem B0_43_46d : own_d code 43 B0_43_46 46 = true := by decide +kernel
def B0_87_89 : List (Instr × Nat) := [(.lstore 16, 2)]
theorem B0_87_89d : own_d code 87 B0_87_89 89 = true := by decide +kernel
theorem d0_89 : decode code 89 = .ok (.new 11, 3) := by decide +kernel
def B0_92_93 : List (Instr × Nat) := [(.dup, 1)]
theorem B0_92_93d : own_d code 92 B0_92_93 93 = true := by decide +kernel
theorem d0_93 : decode code 93 = .ok (.invokespecial 13, 3) := by decide +kernel
theorem pd1 : parseMethodDescriptor "()V" = some ⟨[], none⟩ := by decide +kernel
def B0_96_102 : List (Instr × Nat) := [(.astore 18, 2), (.aload 18, 2), (.lload 7, 2)]
theorem B0_96_102d : own_d code 96 B0_96_102 102 = true := by decide +kernel
theorem d0_102 : decode code 102 = .ok (.ldc2_w 14, 3) := by decide +kernel
theorem d0_105 : decode code 105 = .ok (.invokevirtual 16, 3) := by decide +kernel
theorem pd5 : parseMethodDescriptor "(JJ)V" = some ⟨[.long, .long], none⟩ := by decide +kernel
def B0_108_112 : List (Instr × Nat) := [(.aload 18, 2), (.lload 9, 2)]
theorem B0_108_112d : own_d code 108 B0_108_112 112 = true := by decide +kernel
theorem d0_112 : decode code 112 = .ok (.ldc2_w 20, 3) := by decide +kernel
theorem d0_115 : decode code 115 = .ok (.invokevirtual 16, 3) := by decide +kernel
def B0_118_123 : List (Instr × Nat) := [(.lconst 1, 1), (.lstore 19, 2), (.iload 11, 2)]
theorem B0_118_123d : own_d code 118 B0_118_123 123 = true := by decide +kernel
theorem d0_123 : decode code 123 = .ok (.ifCond .eq 18, 3) := by decide +kernel
def B0_141_152 : List (Instr × Nat) := [(.lload 19, 2), (.iload 5, 2), (.bipush 127, 2), (.iand, 1), (.i2l, 1), (.ladd, 1), (.lstore 21, 2)]
theorem B0_141_152d : own_d code 141 B0_141_152 152 = true := by decide +kernel
def B0_152_154 : List (Instr × Nat) := [(.iload 12, 2)]
theorem B0_152_154d : own_d code 152 B0_152_154 154 = true := by decide +kernel
theorem d0_154 : decode code 154 = .ok (.ifCond .eq 13, 3) := by decide +kernel
def B0_167_171 : List (Instr × Nat) := [(.lload 16, 2), (.lload 7, 2)]
theorem B0_167_171d : own_d code 167 B0_167_171 171 = true := by decide +kernel
theorem d0_171 : decode code 171 = .ok (.lcmp, 1) := by decide +kernel
theorem d0_172 : decode code 172 = .ok (.ifCond .eq 11, 3) := by decide +kernel
def B0_183_187 : List (Instr × Nat) := [(.lload 16, 2), (.lload 19, 2)]
theorem B0_183_187d : own_d code 183 B0_183_187 187 = true := by decide +kernel
theorem d0_187 : decode code 187 = .ok (.lcmp, 1) := by decide +kernel
theorem d0_188 : decode code 188 = .ok (.ifCond .ge 16, 3) := by decide +kernel
def B0_204_205 : List (Instr × Nat) := [(.iconst 1, 1)]
theorem B0_204_205d : own_d code 204 B0_204_205 205 = true := by decide +kernel
theorem d0_205 : decode code 205 = .ok (.goto 4, 3) := by decide +kernel
def B0_209_215 : List (Instr × Nat) := [(.istore 23, 2), (.aload 18, 2), (.lload 16, 2)]
theorem B0_209_215d : own_d code 209 B0_209_215 215 = true := by decide +kernel
theorem d0_215 : decode code 215 = .ok (.invokevirtual 34, 3) := by decide +kernel
theorem pd6 : parseMethodDescriptor "(J)Z" = some ⟨[.long], some .boolean⟩ := by decide +kernel
def B0_218_220 : List (Instr × Nat) := [(.iload 23, 2)]
theorem B0_218_220d : own_d code 218 B0_218_220 220 = true := by decide +kernel
theorem d0_220 : decode code 220 = .ok (.if_icmp .ne 7, 3) := by decide +kernel
def B0_223_224 : List (Instr × Nat) := [(.iconst 1, 1)]
theorem B0_223_224d : own_d code 223 B0_223_224 224 = true := by decide +kernel
theorem d0_224 : decode code 224 = .ok (.goto 4, 3) := by decide +kernel
theorem d0_228 : decode code 228 = .ok (.ireturn, 1) := by decide +kernel
def B0_191_193 : List (Instr × Nat) := [(.iload 12, 2)]
theorem B0_191_193d : own_d code 191 B0_191_193 193 = true := by decide +kernel
theorem d0_193 : decode code 193 = .ok (.ifCond .eq 15, 3) := by decide +kernel
def B0_208_215 : List (Instr × Nat) := [(.iconst 0, 1), (.istore 23, 2), (.aload 18, 2), (.lload 16, 2)]
theorem B0_208_215d : own_d code 208 B0_208_215 215 = true := by decide +kernel
def B0_175_179 : List (Instr × Nat) := [(.lload 16, 2), (.lload 9, 2)]
theorem B0_175_179d : own_d code 175 B0_175_179 179 = true := by decide +kernel
theorem d0_179 : decode code 179 = .ok (.lcmp, 1) := by decide +kernel
theorem d0_180 : decode code 180 = .ok (.ifCond .ne 11, 3) := by decide +kernel
def B0_46_50 : List (Instr × Nat) := [(.iload 6, 2), (.iconst 4, 1), (.iand, 1)]
theorem B0_46_50d : own_d code 46 B0_46_50 50 = true := by decide +kernel
theorem d0_50 : decode code 50 = .ok (.ifCond .eq 7, 3) := by decide +kernel
def B0_57_71 : List (Instr × Nat) := [(.iconst 0, 1), (.istore 13, 2), (.iload 4, 2), (.sipush 255, 3), (.iand, 1), (.i2l, 1), (.lstore 14, 2), (.iload 13, 2)]
theorem B0_57_71d : own_d code 57 B0_57_71 71 = true := by decide +kernel
theorem d0_71 : decode code 71 = .ok (.ifCond .eq 7, 3) := by decide +kernel
def B0_78_79 : List (Instr × Nat) := [(.lload_n 0, 1)]
theorem B0_78_79d : own_d code 78 B0_78_79 79 = true := by decide +kernel
theorem d0_79 : decode code 79 = .ok (.ldc2_w 7, 3) := by decide +kernel
def B0_82_83 : List (Instr × Nat) := [(.land, 1)]
theorem B0_82_83d : own_d code 82 B0_82_83 83 = true := by decide +kernel
theorem d0_83 : decode code 83 = .ok (.ldc2_w 9, 3) := by decide +kernel
def B0_86_87 : List (Instr × Nat) := [(.lsub, 1)]
theorem B0_86_87d : own_d code 86 B0_86_87 87 = true := by decide +kernel
def B0_53_54 : List (Instr × Nat) := [(.iconst 1, 1)]
theorem B0_53_54d : own_d code 53 B0_53_54 54 = true := by decide +kernel
theorem d0_54 : decode code 54 = .ok (.goto 4, 3) := by decide +kernel
def B0_58_71 : List (Instr × Nat) := [(.istore 13, 2), (.iload 4, 2), (.sipush 255, 3), (.iand, 1), (.i2l, 1), (.lstore 14, 2), (.iload 13, 2)]
theorem B0_58_71d : own_d code 58 B0_58_71 71 = true := by decide +kernel
def B0_74_75 : List (Instr × Nat) := [(.lload_n 0, 1)]
theorem B0_74_75d : own_d code 74 B0_74_75 75 = true := by decide +kernel
theorem d0_75 : decode code 75 = .ok (.goto 12, 3) := by decide +kernel
def B0_39_40 : List (Instr × Nat) := [(.iconst 1, 1)]
theorem B0_39_40d : own_d code 39 B0_39_40 40 = true := by decide +kernel
theorem d0_40 : decode code 40 = .ok (.goto 4, 3) := by decide +kernel
def B0_44_46 : List (Instr × Nat) := [(.istore 12, 2)]
theorem B0_44_46d : own_d code 44 B0_44_46 46 = true := by decide +kernel
def B0_157_161 : List (Instr × Nat) := [(.aload 18, 2), (.lload 21, 2)]
theorem B0_157_161d : own_d code 157 B0_157_161 161 = true := by decide +kernel
theorem d0_161 : decode code 161 = .ok (.ldc2_w 32, 3) := by decide +kernel
theorem d0_164 : decode code 164 = .ok (.invokevirtual 16, 3) := by decide +kernel
def B0_196_200 : List (Instr × Nat) := [(.lload 16, 2), (.lload 21, 2)]
theorem B0_196_200d : own_d code 196 B0_196_200 200 = true := by decide +kernel
theorem d0_200 : decode code 200 = .ok (.lcmp, 1) := by decide +kernel
theorem d0_201 : decode code 201 = .ok (.ifCond .ne 7, 3) := by decide +kernel
def B0_25_26 : List (Instr × Nat) := [(.iconst 1, 1)]
theorem B0_25_26d : own_d code 25 B0_25_26 26 = true := by decide +kernel
theorem d0_26 : decode code 26 = .ok (.goto 4, 3) := by decide +kernel
def B0_30_36 : List (Instr × Nat) := [(.istore 11, 2), (.iload 6, 2), (.iconst 2, 1), (.iand, 1)]
theorem B0_30_36d : own_d code 30 B0_30_36 36 = true := by decide +kernel
def B0_126_130 : List (Instr × Nat) := [(.aload 18, 2), (.lload 14, 2)]
theorem B0_126_130d : own_d code 126 B0_126_130 130 = true := by decide +kernel
theorem d0_130 : decode code 130 = .ok (.invokevirtual 22, 3) := by decide +kernel
theorem pd7 : parseMethodDescriptor "(J)V" = some ⟨[.long], none⟩ := by decide +kernel
def B0_133_136 : List (Instr × Nat) := [(.lconst 1, 1), (.lload 14, 2)]
theorem B0_133_136d : own_d code 133 B0_133_136 136 = true := by decide +kernel
theorem d0_136 : decode code 136 = .ok (.invokestatic 26, 3) := by decide +kernel
def B0_139_152 : List (Instr × Nat) := [(.lstore 19, 2), (.lload 19, 2), (.iload 5, 2), (.bipush 127, 2), (.iand, 1), (.i2l, 1), (.ladd, 1), (.lstore 21, 2)]
theorem B0_139_152d : own_d code 139 B0_139_152 152 = true := by decide +kernel
set_option maxRecDepth 65536 in
set_option maxHeartbeats 40000000 in
theorem c_law (l : Launch) (Z : State) (a0 : Array Value) (hw : ∀ d ∈ tables_1, d.before a0 Z = true) (q0 : Int64) (a1 : Int32) (b1 : Int32) (f1 : Int32) (c1 : Int32) (fl : Int32) (h0 : Heap) (n0 : Nat) (Z0 : n0 ≤ h0.size)  :
    own_C l Z x code maxLocals ret room_1 #[(.long q0), (.int a1), (.int b1), (.int f1), (.int c1), (.int fl)] h0 n0 (fun v h => v = some (.int 1)) := by
  refine own_body pl0 Z0 (ls := #[.val (.long q0), .second, .val (.int a1), .val (.int b1), .val (.int f1), .val (.int c1), .val (.int fl), .unset, .unset, .unset, .unset, .unset, .unset, .unset, .unset, .unset, .unset, .unset, .unset, .unset, .unset, .unset, .unset, .unset]) (fun m => by first | (simp [entryFrame, mkF, argsToLocals, Value.category, maxLocals]; done) | rfl) ?_
  intro p e s m below meth c T0 X0
  refine own_blk X0 B0_0_18 B0_0_18d (ls' := #[.val (.long q0), .second, .val (.int a1), .val (.int b1), .val (.int f1), .val (.int c1), .val (.int fl), .val (.long ((1 : Int64) + ((a1 &&& (63 : Int32)).toInt64))), .second, .val (.long ((1 : Int64) + ((b1 &&& (127 : Int32)).toInt64))), .second, .unset, .unset, .unset, .unset, .unset, .unset, .unset, .unset, .unset, .unset, .unset, .unset, .unset]) (st' := []) rfl ?_
  generalize ea : ((1 : Int64) + ((a1 &&& (63 : Int32)).toInt64)) = a
  have ha : 1 ≤ a.toInt ∧ a.toInt ≤ 64 := by
    have e0 := own_mask a1 63 6 (by decide) (by decide)
    have e1 := Jvm.Kit.i64_of_i32 (a1 &&& 63)
    rw [← ea, Jvm.Kit.i64_add (by rw [e1]; show _ ≤ (1 : Int) + _; omega) (by rw [e1]; show (1 : Int) + _ < _; omega), e1]
    show _ ≤ (1 : Int) + _ ∧ (1 : Int) + _ ≤ _
    omega
  generalize eb : ((1 : Int64) + ((b1 &&& (127 : Int32)).toInt64)) = b
  have hb : 1 ≤ b.toInt ∧ b.toInt ≤ 128 := by
    have e0 := own_mask b1 127 7 (by decide) (by decide)
    have e1 := Jvm.Kit.i64_of_i32 (b1 &&& 127)
    rw [← eb, Jvm.Kit.i64_add (by rw [e1]; show _ ≤ (1 : Int) + _; omega) (by rw [e1]; show (1 : Int) + _ < _; omega), e1]
    show _ ≤ (1 : Int) + _ ∧ (1 : Int) + _ ≤ _
    omega
  refine own_blk X0 B0_18_22 B0_18_22d (ls' := #[.val (.long q0), .second, .val (.int a1), .val (.int b1), .val (.int f1), .val (.int c1), .val (.int fl), .val (.long a), .second, .val (.long b), .second, .unset, .unset, .unset, .unset, .unset, .unset, .unset, .unset, .unset, .unset, .unset, .unset, .unset]) (st' := [(.int (fl &&& (1 : Int32)))]) rfl ?_
  refine own_if X0 d0_22 (pc' := 29) (by decide) (fun c22 => ?_) (fun c22 => ?_)
  · have c22 : (fl &&& (1 : Int32)).toInt = 0 := c22
    refine own_blk X0 B0_29_36 B0_29_36d (ls' := #[.val (.long q0), .second, .val (.int a1), .val (.int b1), .val (.int f1), .val (.int c1), .val (.int fl), .val (.long a), .second, .val (.long b), .second, .val (.int (0 : Int32)), .unset, .unset, .unset, .unset, .unset, .unset, .unset, .unset, .unset, .unset, .unset, .unset]) (st' := [(.int (fl &&& (2 : Int32)))]) rfl ?_
    refine own_if X0 d0_36 (pc' := 43) (by decide) (fun c36 => ?_) (fun c36 => ?_)
    · have c36 : (fl &&& (2 : Int32)).toInt = 0 := c36
      refine own_blk X0 B0_43_46 B0_43_46d (ls' := #[.val (.long q0), .second, .val (.int a1), .val (.int b1), .val (.int f1), .val (.int c1), .val (.int fl), .val (.long a), .second, .val (.long b), .second, .val (.int (0 : Int32)), .val (.int (0 : Int32)), .unset, .unset, .unset, .unset, .unset, .unset, .unset, .unset, .unset, .unset, .unset]) (st' := []) rfl ?_
      have J87 : ∀ (q : Int64) (s13 : Slot), own_G p e below (T0.setTop (mkF m 87 #[.val (.long q0), .second, .val (.int a1), .val (.int b1), .val (.int f1), .val (.int c1), .val (.int fl), .val (.long a), .second, .val (.long b), .second, .val (.int (0 : Int32)), .val (.int (0 : Int32)), s13, .val (.long ((f1 &&& (255 : Int32)).toInt64)), .second, .unset, .unset, .unset, .unset, .unset, .unset, .unset, .unset] [.long q])) (own_E s n0 (fun v h => v = some (.int 1)) room_1.cells room_1.slots) := by
        intro q s13
        refine own_blk X0 B0_87_89 B0_87_89d (ls' := #[.val (.long q0), .second, .val (.int a1), .val (.int b1), .val (.int f1), .val (.int c1), .val (.int fl), .val (.long a), .second, .val (.long b), .second, .val (.int (0 : Int32)), .val (.int (0 : Int32)), s13, .val (.long ((f1 &&& (255 : Int32)).toInt64)), .second, .val (.long q), .second, .unset, .unset, .unset, .unset, .unset, .unset]) (st' := []) rfl ?_
        generalize ef : ((f1 &&& (255 : Int32)).toInt64) = f
        have hf : 0 ≤ f.toInt ∧ f.toInt ≤ 255 := by rw [← ef, Jvm.Kit.i64_of_i32, own_m255]; omega
        refine own_newO X0 (hw _ (List.mem_of_getElem? (i := 2) rfl)) (hw _ (List.mem_of_getElem? (i := 3) rfl)) (hw _ (List.mem_of_getElem? (i := 4) rfl)) d0_89 (by decide) (by decide) (fun h1 T1 X1 E1 Q1 D1 => ?_)
        have n_v : n0 ≤ h0.size := X0.2.1
        have F1_base : Fld Z h1 h0.size "lonewatch/model/InstanceValues" "base" "J" (.long (0 : Int64)) := D1 (Or.inl (hw _ (List.mem_of_getElem? (i := 12) rfl))) (ty := .long) (by decide)
        have F1_kept : Fld Z h1 h0.size "lonewatch/model/InstanceValues" "kept" "J" (.long (0 : Int64)) := D1 (Or.inl (hw _ (List.mem_of_getElem? (i := 14) rfl))) (ty := .long) (by decide)
        have F1_values : Fld Z h1 h0.size "lonewatch/model/InstanceValues" "values" "[J" .null := D1 (Or.inl (hw _ (List.mem_of_getElem? (i := 17) rfl))) (ty := (.array .long)) (by decide)
        have F1_held : Fld Z h1 h0.size "lonewatch/model/InstanceValues" "held" "[Z" .null := D1 (Or.inl (hw _ (List.mem_of_getElem? (i := 20) rfl))) (ty := (.array .boolean)) (by decide)
        have F1_size : Fld Z h1 h0.size "lonewatch/model/InstanceValues" "size" "I" (.int (0 : Int32)) := D1 (Or.inl (hw _ (List.mem_of_getElem? (i := 45) rfl))) (ty := .int) (by decide)
        have F1_view : Fld Z h1 h0.size "lonewatch/model/InstanceValues" "view" "Ljava/util/Map;" .null := D1 (Or.inr (hw _ (List.mem_of_getElem? (i := 36) rfl))) (ty := (.object "java/util/Map")) (by decide)
        clear D1
        generalize ez_v : h0.size = v at Q1 n_v F1_base F1_kept F1_values F1_held F1_size F1_view ⊢
        show own_G p e below (T1.setTop (mkF m 92 #[.val (.long q0), .second, .val (.int a1), .val (.int b1), .val (.int f1), .val (.int c1), .val (.int fl), .val (.long a), .second, .val (.long b), .second, .val (.int (0 : Int32)), .val (.int (0 : Int32)), s13, .val (.long f), .second, .val (.long q), .second, .unset, .unset, .unset, .unset, .unset, .unset] [(.ref v)])) _
        refine own_blk X1 B0_92_93 B0_92_93d (ls' := #[.val (.long q0), .second, .val (.int a1), .val (.int b1), .val (.int f1), .val (.int c1), .val (.int fl), .val (.long a), .second, .val (.long b), .second, .val (.int (0 : Int32)), .val (.int (0 : Int32)), s13, .val (.long f), .second, .val (.long q), .second, .unset, .unset, .unset, .unset, .unset, .unset]) (st' := [(.ref v), (.ref v)]) rfl ?_
        refine own_callN X1 rfl (hw _ (List.mem_of_getElem? (i := 5) rfl)) (hw _ (List.mem_of_getElem? (i := 6) rfl)) (hw _ (List.mem_of_getElem? (i := 4) rfl)) (hw _ (List.mem_of_getElem? (i := 7) rfl)) (by decide) (c_init l Z a0 hw v h1 n0 X1.2.1 n_v Q1 F1_base F1_kept F1_values F1_held F1_size F1_view) d0_93 [] [(.ref v)] rfl rfl pd1 rfl rfl (by decide) (Nat.le_of_ble_eq_true rfl) (by decide) (by decide) (fun _ _ q => q.2.1) (fun v2 h2 T2 X2 q2 => ?_)
        obtain ⟨rfl, _, S2⟩ := q2
        show own_G p e below (T2.setTop (mkF m 96 #[.val (.long q0), .second, .val (.int a1), .val (.int b1), .val (.int f1), .val (.int c1), .val (.int fl), .val (.long a), .second, .val (.long b), .second, .val (.int (0 : Int32)), .val (.int (0 : Int32)), s13, .val (.long f), .second, .val (.long q), .second, .unset, .unset, .unset, .unset, .unset, .unset] [(.ref v)])) _
        refine own_blk X2 B0_96_102 B0_96_102d (ls' := #[.val (.long q0), .second, .val (.int a1), .val (.int b1), .val (.int f1), .val (.int c1), .val (.int fl), .val (.long a), .second, .val (.long b), .second, .val (.int (0 : Int32)), .val (.int (0 : Int32)), s13, .val (.long f), .second, .val (.long q), .second, .val (.ref v), .unset, .unset, .unset, .unset, .unset]) (st' := [(.long a), (.ref v)]) rfl ?_
        refine own_ldc2 X2 (hw _ (List.mem_of_getElem? (i := 37) rfl)) d0_102 ?_
        refine own_callV X2 (hw _ (List.mem_of_getElem? (i := 38) rfl)) (hw _ (List.mem_of_getElem? (i := 39) rfl)) (hw _ (List.mem_of_getElem? (i := 41) rfl)) (hw _ (List.mem_of_getElem? (i := 40) rfl)) (hw _ (List.mem_of_getElem? (i := 4) rfl)) (hw _ (List.mem_of_getElem? (i := 42) rfl)) (by decide) (own_S_exa S2) (c_put64 l Z a0 hw v a (7 : Int64) (1 : Int64) (1 : Int64) 16 (fun _ => False) h2 n0 X2.2.1 S2 (by decide) (by decide) ha.1 (by show _ - (1 : Int) < _; omega) (by omega) (by decide) (by decide)) d0_105 [(.long a), (.long (7 : Int64))] [] rfl rfl pd5 rfl rfl (by decide) (Nat.le_of_ble_eq_true rfl) (by decide) (by decide) (fun _ _ q => q.2.1) (fun v3 h3 T3 X3 q3 => ?_)
        obtain ⟨rfl, _, n3, hl3, hu3, S3⟩ := q3
        show own_G p e below (T3.setTop (mkF m 108 #[.val (.long q0), .second, .val (.int a1), .val (.int b1), .val (.int f1), .val (.int c1), .val (.int fl), .val (.long a), .second, .val (.long b), .second, .val (.int (0 : Int32)), .val (.int (0 : Int32)), s13, .val (.long f), .second, .val (.long q), .second, .val (.ref v), .unset, .unset, .unset, .unset, .unset] [])) _
        have R3 : own_S Z h3 n0 v (1 : Int64) (1 : Int64) n3 (fun k => k = a.toInt) := own_S_iff S3 (fun k => by simp)
        refine own_blk X3 B0_108_112 B0_108_112d (ls' := #[.val (.long q0), .second, .val (.int a1), .val (.int b1), .val (.int f1), .val (.int c1), .val (.int fl), .val (.long a), .second, .val (.long b), .second, .val (.int (0 : Int32)), .val (.int (0 : Int32)), s13, .val (.long f), .second, .val (.long q), .second, .val (.ref v), .unset, .unset, .unset, .unset, .unset]) (st' := [(.long b), (.ref v)]) rfl ?_
        refine own_ldc2 X3 (hw _ (List.mem_of_getElem? (i := 46) rfl)) d0_112 ?_
        refine own_callV X3 (hw _ (List.mem_of_getElem? (i := 38) rfl)) (hw _ (List.mem_of_getElem? (i := 39) rfl)) (hw _ (List.mem_of_getElem? (i := 41) rfl)) (hw _ (List.mem_of_getElem? (i := 40) rfl)) (hw _ (List.mem_of_getElem? (i := 4) rfl)) (hw _ (List.mem_of_getElem? (i := 42) rfl)) (by decide) (own_S_exa R3) (c_put128 l Z a0 hw v b (9 : Int64) (1 : Int64) (1 : Int64) n3 (fun k => k = a.toInt) h3 n0 X3.2.1 R3 (by decide) (by decide) hb.1 (by show _ - (1 : Int) < _; omega) (by omega) (by omega) hl3) d0_115 [(.long b), (.long (9 : Int64))] [] rfl rfl pd5 rfl rfl (by decide) (Nat.le_of_ble_eq_true rfl) (by decide) (by decide) (fun _ _ q => q.2.1) (fun v4 h4 T4 X4 q4 => ?_)
        obtain ⟨rfl, _, n4, hl4, hu4, S4⟩ := q4
        show own_G p e below (T4.setTop (mkF m 118 #[.val (.long q0), .second, .val (.int a1), .val (.int b1), .val (.int f1), .val (.int c1), .val (.int fl), .val (.long a), .second, .val (.long b), .second, .val (.int (0 : Int32)), .val (.int (0 : Int32)), s13, .val (.long f), .second, .val (.long q), .second, .val (.ref v), .unset, .unset, .unset, .unset, .unset] [])) _
        have R4 : own_S Z h4 n0 v (1 : Int64) (1 : Int64) n4 (fun k => k = a.toInt ∨ k = b.toInt) := own_S_iff S4 (fun k => by simp)
        refine own_blk X4 B0_118_123 B0_118_123d (ls' := #[.val (.long q0), .second, .val (.int a1), .val (.int b1), .val (.int f1), .val (.int c1), .val (.int fl), .val (.long a), .second, .val (.long b), .second, .val (.int (0 : Int32)), .val (.int (0 : Int32)), s13, .val (.long f), .second, .val (.long q), .second, .val (.ref v), .val (.long (1 : Int64)), .second, .unset, .unset, .unset]) (st' := [(.int (0 : Int32))]) rfl ?_
        refine own_if X4 d0_123 (pc' := 141) (by decide) (fun c123 => ?_) (fun (c123 : ¬ ((0 : Int) = 0)) => by exfalso; omega)
        have c123 : (0 : Int) = 0 := c123
        refine own_blk X4 B0_141_152 B0_141_152d (ls' := #[.val (.long q0), .second, .val (.int a1), .val (.int b1), .val (.int f1), .val (.int c1), .val (.int fl), .val (.long a), .second, .val (.long b), .second, .val (.int (0 : Int32)), .val (.int (0 : Int32)), s13, .val (.long f), .second, .val (.long q), .second, .val (.ref v), .val (.long (1 : Int64)), .second, .val (.long ((1 : Int64) + ((c1 &&& (127 : Int32)).toInt64))), .second, .unset]) (st' := []) rfl ?_
        generalize ec2 : ((1 : Int64) + ((c1 &&& (127 : Int32)).toInt64)) = c2
        have hc2 : 1 ≤ c2.toInt ∧ c2.toInt ≤ 1 + 127 := by
          have e0 := own_mask c1 127 7 (by decide) (by decide)
          have e1 := Jvm.Kit.i64_of_i32 (c1 &&& 127)
          rw [← ec2, Jvm.Kit.i64_add (by rw [e1]; show _ ≤ (1 : Int) + _; omega) (by rw [e1]; show (1 : Int) + _ < _; omega), e1]
          show _ ≤ (1 : Int) + _ ∧ (1 : Int) + _ ≤ _
          omega
        refine own_blk X4 B0_152_154 B0_152_154d (ls' := #[.val (.long q0), .second, .val (.int a1), .val (.int b1), .val (.int f1), .val (.int c1), .val (.int fl), .val (.long a), .second, .val (.long b), .second, .val (.int (0 : Int32)), .val (.int (0 : Int32)), s13, .val (.long f), .second, .val (.long q), .second, .val (.ref v), .val (.long (1 : Int64)), .second, .val (.long c2), .second, .unset]) (st' := [(.int (0 : Int32))]) rfl ?_
        refine own_if X4 d0_154 (pc' := 167) (by decide) (fun c154 => ?_) (fun (c154 : ¬ ((0 : Int) = 0)) => by exfalso; omega)
        have c154 : (0 : Int) = 0 := c154
        refine own_blk X4 B0_167_171 B0_167_171d (ls' := #[.val (.long q0), .second, .val (.int a1), .val (.int b1), .val (.int f1), .val (.int c1), .val (.int fl), .val (.long a), .second, .val (.long b), .second, .val (.int (0 : Int32)), .val (.int (0 : Int32)), s13, .val (.long f), .second, .val (.long q), .second, .val (.ref v), .val (.long (1 : Int64)), .second, .val (.long c2), .second, .unset]) (st' := [(.long a), (.long q)]) rfl ?_
        refine own_lif X4 d0_171 d0_172 (pc' := 183) (by decide) (fun c171 => ?_) (fun c171 => ?_)
        · have c171 : q.toInt = a.toInt := c171
          refine own_blk X4 B0_183_187 B0_183_187d (ls' := #[.val (.long q0), .second, .val (.int a1), .val (.int b1), .val (.int f1), .val (.int c1), .val (.int fl), .val (.long a), .second, .val (.long b), .second, .val (.int (0 : Int32)), .val (.int (0 : Int32)), s13, .val (.long f), .second, .val (.long q), .second, .val (.ref v), .val (.long (1 : Int64)), .second, .val (.long c2), .second, .unset]) (st' := [(.long (1 : Int64)), (.long q)]) rfl ?_
          refine own_lif X4 d0_187 d0_188 (pc' := 204) (by decide) (fun c187 => ?_) (fun c187 => ?_)
          · have c187 : 1 ≤ q.toInt := c187
            refine own_blk X4 B0_204_205 B0_204_205d (ls' := #[.val (.long q0), .second, .val (.int a1), .val (.int b1), .val (.int f1), .val (.int c1), .val (.int fl), .val (.long a), .second, .val (.long b), .second, .val (.int (0 : Int32)), .val (.int (0 : Int32)), s13, .val (.long f), .second, .val (.long q), .second, .val (.ref v), .val (.long (1 : Int64)), .second, .val (.long c2), .second, .unset]) (st' := [(.int (1 : Int32))]) rfl ?_
            refine own_goto X4 d0_205 (pc' := 209) (by decide) ?_
            refine own_blk X4 B0_209_215 B0_209_215d (ls' := #[.val (.long q0), .second, .val (.int a1), .val (.int b1), .val (.int f1), .val (.int c1), .val (.int fl), .val (.long a), .second, .val (.long b), .second, .val (.int (0 : Int32)), .val (.int (0 : Int32)), s13, .val (.long f), .second, .val (.long q), .second, .val (.ref v), .val (.long (1 : Int64)), .second, .val (.long c2), .second, .val (.int (1 : Int32))]) (st' := [(.long q), (.ref v)]) rfl ?_
            refine own_callV X4 (hw _ (List.mem_of_getElem? (i := 47) rfl)) (hw _ (List.mem_of_getElem? (i := 48) rfl)) (hw _ (List.mem_of_getElem? (i := 50) rfl)) (hw _ (List.mem_of_getElem? (i := 49) rfl)) (hw _ (List.mem_of_getElem? (i := 4) rfl)) (hw _ (List.mem_of_getElem? (i := 51) rfl)) (by decide) (own_S_exa R4) (c_holds l Z a0 hw v q (1 : Int64) (1 : Int64) n4 (fun k => k = a.toInt ∨ k = b.toInt) h4 n0 X4.2.1 R4 (by decide) (by decide)) d0_215 [(.long q)] [] rfl rfl pd6 rfl rfl (by decide) (Nat.le_of_ble_eq_true rfl) (by decide) (by decide) (fun _ _ q => by obtain ⟨_, _, q2, _⟩ := q; rw [q2]; exact X4.2.1) (fun v5 h5 T5 X5 q5 => ?_)
            obtain ⟨z5, rfl, e5, hz5⟩ := q5
            rw [e5] at X5
            show own_G p e below (T5.setTop (mkF m 218 #[.val (.long q0), .second, .val (.int a1), .val (.int b1), .val (.int f1), .val (.int c1), .val (.int fl), .val (.long a), .second, .val (.long b), .second, .val (.int (0 : Int32)), .val (.int (0 : Int32)), s13, .val (.long f), .second, .val (.long q), .second, .val (.ref v), .val (.long (1 : Int64)), .second, .val (.long c2), .second, .val (.int (1 : Int32))] [(.int z5)])) _
            have hz5 : (z5.toInt = 1 ∧ 1 ≤ q.toInt ∧ (q.toInt = a.toInt ∨ q.toInt = b.toInt)) ∨ (z5.toInt = 0 ∧ ¬ (1 ≤ q.toInt ∧ (q.toInt = a.toInt ∨ q.toInt = b.toInt))) := hz5
            refine own_blk X5 B0_218_220 B0_218_220d (ls' := #[.val (.long q0), .second, .val (.int a1), .val (.int b1), .val (.int f1), .val (.int c1), .val (.int fl), .val (.long a), .second, .val (.long b), .second, .val (.int (0 : Int32)), .val (.int (0 : Int32)), s13, .val (.long f), .second, .val (.long q), .second, .val (.ref v), .val (.long (1 : Int64)), .second, .val (.long c2), .second, .val (.int (1 : Int32))]) (st' := [(.int (1 : Int32)), (.int z5)]) rfl ?_
            refine own_icmp X5 d0_220 (pc' := 227) (by decide) (fun (c220 : ¬ z5.toInt = 1) => by exfalso; omega) (fun c220 => ?_)
            have c220 : ¬ (¬ z5.toInt = 1) := c220
            refine own_blk X5 B0_223_224 B0_223_224d (ls' := #[.val (.long q0), .second, .val (.int a1), .val (.int b1), .val (.int f1), .val (.int c1), .val (.int fl), .val (.long a), .second, .val (.long b), .second, .val (.int (0 : Int32)), .val (.int (0 : Int32)), s13, .val (.long f), .second, .val (.long q), .second, .val (.ref v), .val (.long (1 : Int64)), .second, .val (.long c2), .second, .val (.int (1 : Int32))]) (st' := [(.int (1 : Int32))]) rfl ?_
            refine own_goto X5 d0_224 (pc' := 228) (by decide) ?_
            exact own_retN X5 (by simp) d0_228 (v' := (1 : Int32)) (rfl) (by decide) (by decide) (rfl)
          · have c187 : ¬ (1 ≤ q.toInt) := c187
            refine own_blk X4 B0_191_193 B0_191_193d (ls' := #[.val (.long q0), .second, .val (.int a1), .val (.int b1), .val (.int f1), .val (.int c1), .val (.int fl), .val (.long a), .second, .val (.long b), .second, .val (.int (0 : Int32)), .val (.int (0 : Int32)), s13, .val (.long f), .second, .val (.long q), .second, .val (.ref v), .val (.long (1 : Int64)), .second, .val (.long c2), .second, .unset]) (st' := [(.int (0 : Int32))]) rfl ?_
            refine own_if X4 d0_193 (pc' := 208) (by decide) (fun c193 => ?_) (fun (c193 : ¬ ((0 : Int) = 0)) => by exfalso; omega)
            have c193 : (0 : Int) = 0 := c193
            refine own_blk X4 B0_208_215 B0_208_215d (ls' := #[.val (.long q0), .second, .val (.int a1), .val (.int b1), .val (.int f1), .val (.int c1), .val (.int fl), .val (.long a), .second, .val (.long b), .second, .val (.int (0 : Int32)), .val (.int (0 : Int32)), s13, .val (.long f), .second, .val (.long q), .second, .val (.ref v), .val (.long (1 : Int64)), .second, .val (.long c2), .second, .val (.int (0 : Int32))]) (st' := [(.long q), (.ref v)]) rfl ?_
            refine own_callV X4 (hw _ (List.mem_of_getElem? (i := 47) rfl)) (hw _ (List.mem_of_getElem? (i := 48) rfl)) (hw _ (List.mem_of_getElem? (i := 50) rfl)) (hw _ (List.mem_of_getElem? (i := 49) rfl)) (hw _ (List.mem_of_getElem? (i := 4) rfl)) (hw _ (List.mem_of_getElem? (i := 51) rfl)) (by decide) (own_S_exa R4) (c_holds l Z a0 hw v q (1 : Int64) (1 : Int64) n4 (fun k => k = a.toInt ∨ k = b.toInt) h4 n0 X4.2.1 R4 (by decide) (by decide)) d0_215 [(.long q)] [] rfl rfl pd6 rfl rfl (by decide) (Nat.le_of_ble_eq_true rfl) (by decide) (by decide) (fun _ _ q => by obtain ⟨_, _, q2, _⟩ := q; rw [q2]; exact X4.2.1) (fun v6 h6 T6 X6 q6 => ?_)
            obtain ⟨z6, rfl, e6, hz6⟩ := q6
            rw [e6] at X6
            show own_G p e below (T6.setTop (mkF m 218 #[.val (.long q0), .second, .val (.int a1), .val (.int b1), .val (.int f1), .val (.int c1), .val (.int fl), .val (.long a), .second, .val (.long b), .second, .val (.int (0 : Int32)), .val (.int (0 : Int32)), s13, .val (.long f), .second, .val (.long q), .second, .val (.ref v), .val (.long (1 : Int64)), .second, .val (.long c2), .second, .val (.int (0 : Int32))] [(.int z6)])) _
            have hz6 : (z6.toInt = 1 ∧ 1 ≤ q.toInt ∧ (q.toInt = a.toInt ∨ q.toInt = b.toInt)) ∨ (z6.toInt = 0 ∧ ¬ (1 ≤ q.toInt ∧ (q.toInt = a.toInt ∨ q.toInt = b.toInt))) := hz6
            refine own_blk X6 B0_218_220 B0_218_220d (ls' := #[.val (.long q0), .second, .val (.int a1), .val (.int b1), .val (.int f1), .val (.int c1), .val (.int fl), .val (.long a), .second, .val (.long b), .second, .val (.int (0 : Int32)), .val (.int (0 : Int32)), s13, .val (.long f), .second, .val (.long q), .second, .val (.ref v), .val (.long (1 : Int64)), .second, .val (.long c2), .second, .val (.int (0 : Int32))]) (st' := [(.int (0 : Int32)), (.int z6)]) rfl ?_
            refine own_icmp X6 d0_220 (pc' := 227) (by decide) (fun (c220 : ¬ z6.toInt = 0) => by exfalso; omega) (fun c220 => ?_)
            have c220 : ¬ (¬ z6.toInt = 0) := c220
            refine own_blk X6 B0_223_224 B0_223_224d (ls' := #[.val (.long q0), .second, .val (.int a1), .val (.int b1), .val (.int f1), .val (.int c1), .val (.int fl), .val (.long a), .second, .val (.long b), .second, .val (.int (0 : Int32)), .val (.int (0 : Int32)), s13, .val (.long f), .second, .val (.long q), .second, .val (.ref v), .val (.long (1 : Int64)), .second, .val (.long c2), .second, .val (.int (0 : Int32))]) (st' := [(.int (1 : Int32))]) rfl ?_
            refine own_goto X6 d0_224 (pc' := 228) (by decide) ?_
            exact own_retN X6 (by simp) d0_228 (v' := (1 : Int32)) (rfl) (by decide) (by decide) (rfl)
        · have c171 : ¬ (q.toInt = a.toInt) := c171
          refine own_blk X4 B0_175_179 B0_175_179d (ls' := #[.val (.long q0), .second, .val (.int a1), .val (.int b1), .val (.int f1), .val (.int c1), .val (.int fl), .val (.long a), .second, .val (.long b), .second, .val (.int (0 : Int32)), .val (.int (0 : Int32)), s13, .val (.long f), .second, .val (.long q), .second, .val (.ref v), .val (.long (1 : Int64)), .second, .val (.long c2), .second, .unset]) (st' := [(.long b), (.long q)]) rfl ?_
          refine own_lif X4 d0_179 d0_180 (pc' := 191) (by decide) (fun c179 => ?_) (fun c179 => ?_)
          · have c179 : ¬ q.toInt = b.toInt := c179
            refine own_blk X4 B0_191_193 B0_191_193d (ls' := #[.val (.long q0), .second, .val (.int a1), .val (.int b1), .val (.int f1), .val (.int c1), .val (.int fl), .val (.long a), .second, .val (.long b), .second, .val (.int (0 : Int32)), .val (.int (0 : Int32)), s13, .val (.long f), .second, .val (.long q), .second, .val (.ref v), .val (.long (1 : Int64)), .second, .val (.long c2), .second, .unset]) (st' := [(.int (0 : Int32))]) rfl ?_
            refine own_if X4 d0_193 (pc' := 208) (by decide) (fun c193 => ?_) (fun (c193 : ¬ ((0 : Int) = 0)) => by exfalso; omega)
            have c193 : (0 : Int) = 0 := c193
            refine own_blk X4 B0_208_215 B0_208_215d (ls' := #[.val (.long q0), .second, .val (.int a1), .val (.int b1), .val (.int f1), .val (.int c1), .val (.int fl), .val (.long a), .second, .val (.long b), .second, .val (.int (0 : Int32)), .val (.int (0 : Int32)), s13, .val (.long f), .second, .val (.long q), .second, .val (.ref v), .val (.long (1 : Int64)), .second, .val (.long c2), .second, .val (.int (0 : Int32))]) (st' := [(.long q), (.ref v)]) rfl ?_
            refine own_callV X4 (hw _ (List.mem_of_getElem? (i := 47) rfl)) (hw _ (List.mem_of_getElem? (i := 48) rfl)) (hw _ (List.mem_of_getElem? (i := 50) rfl)) (hw _ (List.mem_of_getElem? (i := 49) rfl)) (hw _ (List.mem_of_getElem? (i := 4) rfl)) (hw _ (List.mem_of_getElem? (i := 51) rfl)) (by decide) (own_S_exa R4) (c_holds l Z a0 hw v q (1 : Int64) (1 : Int64) n4 (fun k => k = a.toInt ∨ k = b.toInt) h4 n0 X4.2.1 R4 (by decide) (by decide)) d0_215 [(.long q)] [] rfl rfl pd6 rfl rfl (by decide) (Nat.le_of_ble_eq_true rfl) (by decide) (by decide) (fun _ _ q => by obtain ⟨_, _, q2, _⟩ := q; rw [q2]; exact X4.2.1) (fun v7 h7 T7 X7 q7 => ?_)
            obtain ⟨z7, rfl, e7, hz7⟩ := q7
            rw [e7] at X7
            show own_G p e below (T7.setTop (mkF m 218 #[.val (.long q0), .second, .val (.int a1), .val (.int b1), .val (.int f1), .val (.int c1), .val (.int fl), .val (.long a), .second, .val (.long b), .second, .val (.int (0 : Int32)), .val (.int (0 : Int32)), s13, .val (.long f), .second, .val (.long q), .second, .val (.ref v), .val (.long (1 : Int64)), .second, .val (.long c2), .second, .val (.int (0 : Int32))] [(.int z7)])) _
            have hz7 : (z7.toInt = 1 ∧ 1 ≤ q.toInt ∧ (q.toInt = a.toInt ∨ q.toInt = b.toInt)) ∨ (z7.toInt = 0 ∧ ¬ (1 ≤ q.toInt ∧ (q.toInt = a.toInt ∨ q.toInt = b.toInt))) := hz7
            refine own_blk X7 B0_218_220 B0_218_220d (ls' := #[.val (.long q0), .second, .val (.int a1), .val (.int b1), .val (.int f1), .val (.int c1), .val (.int fl), .val (.long a), .second, .val (.long b), .second, .val (.int (0 : Int32)), .val (.int (0 : Int32)), s13, .val (.long f), .second, .val (.long q), .second, .val (.ref v), .val (.long (1 : Int64)), .second, .val (.long c2), .second, .val (.int (0 : Int32))]) (st' := [(.int (0 : Int32)), (.int z7)]) rfl ?_
            refine own_icmp X7 d0_220 (pc' := 227) (by decide) (fun (c220 : ¬ z7.toInt = 0) => by exfalso; omega) (fun c220 => ?_)
            have c220 : ¬ (¬ z7.toInt = 0) := c220
            refine own_blk X7 B0_223_224 B0_223_224d (ls' := #[.val (.long q0), .second, .val (.int a1), .val (.int b1), .val (.int f1), .val (.int c1), .val (.int fl), .val (.long a), .second, .val (.long b), .second, .val (.int (0 : Int32)), .val (.int (0 : Int32)), s13, .val (.long f), .second, .val (.long q), .second, .val (.ref v), .val (.long (1 : Int64)), .second, .val (.long c2), .second, .val (.int (0 : Int32))]) (st' := [(.int (1 : Int32))]) rfl ?_
            refine own_goto X7 d0_224 (pc' := 228) (by decide) ?_
            exact own_retN X7 (by simp) d0_228 (v' := (1 : Int32)) (rfl) (by decide) (by decide) (rfl)
          · have c179 : ¬ (¬ q.toInt = b.toInt) := c179
            refine own_blk X4 B0_183_187 B0_183_187d (ls' := #[.val (.long q0), .second, .val (.int a1), .val (.int b1), .val (.int f1), .val (.int c1), .val (.int fl), .val (.long a), .second, .val (.long b), .second, .val (.int (0 : Int32)), .val (.int (0 : Int32)), s13, .val (.long f), .second, .val (.long q), .second, .val (.ref v), .val (.long (1 : Int64)), .second, .val (.long c2), .second, .unset]) (st' := [(.long (1 : Int64)), (.long q)]) rfl ?_
            refine own_lif X4 d0_187 d0_188 (pc' := 204) (by decide) (fun c187 => ?_) (fun c187 => ?_)
            · have c187 : 1 ≤ q.toInt := c187
              refine own_blk X4 B0_204_205 B0_204_205d (ls' := #[.val (.long q0), .second, .val (.int a1), .val (.int b1), .val (.int f1), .val (.int c1), .val (.int fl), .val (.long a), .second, .val (.long b), .second, .val (.int (0 : Int32)), .val (.int (0 : Int32)), s13, .val (.long f), .second, .val (.long q), .second, .val (.ref v), .val (.long (1 : Int64)), .second, .val (.long c2), .second, .unset]) (st' := [(.int (1 : Int32))]) rfl ?_
              refine own_goto X4 d0_205 (pc' := 209) (by decide) ?_
              refine own_blk X4 B0_209_215 B0_209_215d (ls' := #[.val (.long q0), .second, .val (.int a1), .val (.int b1), .val (.int f1), .val (.int c1), .val (.int fl), .val (.long a), .second, .val (.long b), .second, .val (.int (0 : Int32)), .val (.int (0 : Int32)), s13, .val (.long f), .second, .val (.long q), .second, .val (.ref v), .val (.long (1 : Int64)), .second, .val (.long c2), .second, .val (.int (1 : Int32))]) (st' := [(.long q), (.ref v)]) rfl ?_
              refine own_callV X4 (hw _ (List.mem_of_getElem? (i := 47) rfl)) (hw _ (List.mem_of_getElem? (i := 48) rfl)) (hw _ (List.mem_of_getElem? (i := 50) rfl)) (hw _ (List.mem_of_getElem? (i := 49) rfl)) (hw _ (List.mem_of_getElem? (i := 4) rfl)) (hw _ (List.mem_of_getElem? (i := 51) rfl)) (by decide) (own_S_exa R4) (c_holds l Z a0 hw v q (1 : Int64) (1 : Int64) n4 (fun k => k = a.toInt ∨ k = b.toInt) h4 n0 X4.2.1 R4 (by decide) (by decide)) d0_215 [(.long q)] [] rfl rfl pd6 rfl rfl (by decide) (Nat.le_of_ble_eq_true rfl) (by decide) (by decide) (fun _ _ q => by obtain ⟨_, _, q2, _⟩ := q; rw [q2]; exact X4.2.1) (fun v8 h8 T8 X8 q8 => ?_)
              obtain ⟨z8, rfl, e8, hz8⟩ := q8
              rw [e8] at X8
              show own_G p e below (T8.setTop (mkF m 218 #[.val (.long q0), .second, .val (.int a1), .val (.int b1), .val (.int f1), .val (.int c1), .val (.int fl), .val (.long a), .second, .val (.long b), .second, .val (.int (0 : Int32)), .val (.int (0 : Int32)), s13, .val (.long f), .second, .val (.long q), .second, .val (.ref v), .val (.long (1 : Int64)), .second, .val (.long c2), .second, .val (.int (1 : Int32))] [(.int z8)])) _
              have hz8 : (z8.toInt = 1 ∧ 1 ≤ q.toInt ∧ (q.toInt = a.toInt ∨ q.toInt = b.toInt)) ∨ (z8.toInt = 0 ∧ ¬ (1 ≤ q.toInt ∧ (q.toInt = a.toInt ∨ q.toInt = b.toInt))) := hz8
              refine own_blk X8 B0_218_220 B0_218_220d (ls' := #[.val (.long q0), .second, .val (.int a1), .val (.int b1), .val (.int f1), .val (.int c1), .val (.int fl), .val (.long a), .second, .val (.long b), .second, .val (.int (0 : Int32)), .val (.int (0 : Int32)), s13, .val (.long f), .second, .val (.long q), .second, .val (.ref v), .val (.long (1 : Int64)), .second, .val (.long c2), .second, .val (.int (1 : Int32))]) (st' := [(.int (1 : Int32)), (.int z8)]) rfl ?_
              refine own_icmp X8 d0_220 (pc' := 227) (by decide) (fun (c220 : ¬ z8.toInt = 1) => by exfalso; omega) (fun c220 => ?_)
              have c220 : ¬ (¬ z8.toInt = 1) := c220
              refine own_blk X8 B0_223_224 B0_223_224d (ls' := #[.val (.long q0), .second, .val (.int a1), .val (.int b1), .val (.int f1), .val (.int c1), .val (.int fl), .val (.long a), .second, .val (.long b), .second, .val (.int (0 : Int32)), .val (.int (0 : Int32)), s13, .val (.long f), .second, .val (.long q), .second, .val (.ref v), .val (.long (1 : Int64)), .second, .val (.long c2), .second, .val (.int (1 : Int32))]) (st' := [(.int (1 : Int32))]) rfl ?_
              refine own_goto X8 d0_224 (pc' := 228) (by decide) ?_
              exact own_retN X8 (by simp) d0_228 (v' := (1 : Int32)) (rfl) (by decide) (by decide) (rfl)
            · have c187 : ¬ (1 ≤ q.toInt) := c187
              refine own_blk X4 B0_191_193 B0_191_193d (ls' := #[.val (.long q0), .second, .val (.int a1), .val (.int b1), .val (.int f1), .val (.int c1), .val (.int fl), .val (.long a), .second, .val (.long b), .second, .val (.int (0 : Int32)), .val (.int (0 : Int32)), s13, .val (.long f), .second, .val (.long q), .second, .val (.ref v), .val (.long (1 : Int64)), .second, .val (.long c2), .second, .unset]) (st' := [(.int (0 : Int32))]) rfl ?_
              refine own_if X4 d0_193 (pc' := 208) (by decide) (fun c193 => ?_) (fun (c193 : ¬ ((0 : Int) = 0)) => by exfalso; omega)
              have c193 : (0 : Int) = 0 := c193
              refine own_blk X4 B0_208_215 B0_208_215d (ls' := #[.val (.long q0), .second, .val (.int a1), .val (.int b1), .val (.int f1), .val (.int c1), .val (.int fl), .val (.long a), .second, .val (.long b), .second, .val (.int (0 : Int32)), .val (.int (0 : Int32)), s13, .val (.long f), .second, .val (.long q), .second, .val (.ref v), .val (.long (1 : Int64)), .second, .val (.long c2), .second, .val (.int (0 : Int32))]) (st' := [(.long q), (.ref v)]) rfl ?_
              refine own_callV X4 (hw _ (List.mem_of_getElem? (i := 47) rfl)) (hw _ (List.mem_of_getElem? (i := 48) rfl)) (hw _ (List.mem_of_getElem? (i := 50) rfl)) (hw _ (List.mem_of_getElem? (i := 49) rfl)) (hw _ (List.mem_of_getElem? (i := 4) rfl)) (hw _ (List.mem_of_getElem? (i := 51) rfl)) (by decide) (own_S_exa R4) (c_holds l Z a0 hw v q (1 : Int64) (1 : Int64) n4 (fun k => k = a.toInt ∨ k = b.toInt) h4 n0 X4.2.1 R4 (by decide) (by decide)) d0_215 [(.long q)] [] rfl rfl pd6 rfl rfl (by decide) (Nat.le_of_ble_eq_true rfl) (by decide) (by decide) (fun _ _ q => by obtain ⟨_, _, q2, _⟩ := q; rw [q2]; exact X4.2.1) (fun v9 h9 T9 X9 q9 => ?_)
              obtain ⟨z9, rfl, e9, hz9⟩ := q9
              rw [e9] at X9
              show own_G p e below (T9.setTop (mkF m 218 #[.val (.long q0), .second, .val (.int a1), .val (.int b1), .val (.int f1), .val (.int c1), .val (.int fl), .val (.long a), .second, .val (.long b), .second, .val (.int (0 : Int32)), .val (.int (0 : Int32)), s13, .val (.long f), .second, .val (.long q), .second, .val (.ref v), .val (.long (1 : Int64)), .second, .val (.long c2), .second, .val (.int (0 : Int32))] [(.int z9)])) _
              have hz9 : (z9.toInt = 1 ∧ 1 ≤ q.toInt ∧ (q.toInt = a.toInt ∨ q.toInt = b.toInt)) ∨ (z9.toInt = 0 ∧ ¬ (1 ≤ q.toInt ∧ (q.toInt = a.toInt ∨ q.toInt = b.toInt))) := hz9
              refine own_blk X9 B0_218_220 B0_218_220d (ls' := #[.val (.long q0), .second, .val (.int a1), .val (.int b1), .val (.int f1), .val (.int c1), .val (.int fl), .val (.long a), .second, .val (.long b), .second, .val (.int (0 : Int32)), .val (.int (0 : Int32)), s13, .val (.long f), .second, .val (.long q), .second, .val (.ref v), .val (.long (1 : Int64)), .second, .val (.long c2), .second, .val (.int (0 : Int32))]) (st' := [(.int (0 : Int32)), (.int z9)]) rfl ?_
              refine own_icmp X9 d0_220 (pc' := 227) (by decide) (fun (c220 : ¬ z9.toInt = 0) => by exfalso; omega) (fun c220 => ?_)
              have c220 : ¬ (¬ z9.toInt = 0) := c220
              refine own_blk X9 B0_223_224 B0_223_224d (ls' := #[.val (.long q0), .second, .val (.int a1), .val (.int b1), .val (.int f1), .val (.int c1), .val (.int fl), .val (.long a), .second, .val (.long b), .second, .val (.int (0 : Int32)), .val (.int (0 : Int32)), s13, .val (.long f), .second, .val (.long q), .second, .val (.ref v), .val (.long (1 : Int64)), .second, .val (.long c2), .second, .val (.int (0 : Int32))]) (st' := [(.int (1 : Int32))]) rfl ?_
              refine own_goto X9 d0_224 (pc' := 228) (by decide) ?_
              exact own_retN X9 (by simp) d0_228 (v' := (1 : Int32)) (rfl) (by decide) (by decide) (rfl)
      refine own_blk X0 B0_46_50 B0_46_50d (ls' := #[.val (.long q0), .second, .val (.int a1), .val (.int b1), .val (.int f1), .val (.int c1), .val (.int fl), .val (.long a), .second, .val (.long b), .second, .val (.int (0 : Int32)), .val (.int (0 : Int32)), .unset, .unset, .unset, .unset, .unset, .unset, .unset, .unset, .unset, .unset, .unset]) (st' := [(.int (fl &&& (4 : Int32)))]) rfl ?_
      refine own_if X0 d0_50 (pc' := 57) (by decide) (fun c50 => ?_) (fun c50 => ?_)
      · have c50 : (fl &&& (4 : Int32)).toInt = 0 := c50
        refine own_blk X0 B0_57_71 B0_57_71d (ls' := #[.val (.long q0), .second, .val (.int a1), .val (.int b1), .val (.int f1), .val (.int c1), .val (.int fl), .val (.long a), .second, .val (.long b), .second, .val (.int (0 : Int32)), .val (.int (0 : Int32)), .val (.int (0 : Int32)), .val (.long ((f1 &&& (255 : Int32)).toInt64)), .second, .unset, .unset, .unset, .unset, .unset, .unset, .unset, .unset]) (st' := [(.int (0 : Int32))]) rfl ?_
        refine own_if X0 d0_71 (pc' := 78) (by decide) (fun c71 => ?_) (fun (c71 : ¬ ((0 : Int) = 0)) => by exfalso; omega)
        have c71 : (0 : Int) = 0 := c71
        refine own_blk X0 B0_78_79 B0_78_79d (ls' := #[.val (.long q0), .second, .val (.int a1), .val (.int b1), .val (.int f1), .val (.int c1), .val (.int fl), .val (.long a), .second, .val (.long b), .second, .val (.int (0 : Int32)), .val (.int (0 : Int32)), .val (.int (0 : Int32)), .val (.long ((f1 &&& (255 : Int32)).toInt64)), .second, .unset, .unset, .unset, .unset, .unset, .unset, .unset, .unset]) (st' := [(.long q0)]) rfl ?_
        refine own_ldc2 X0 (hw _ (List.mem_of_getElem? (i := 0) rfl)) d0_79 ?_
        refine own_blk X0 B0_82_83 B0_82_83d (ls' := #[.val (.long q0), .second, .val (.int a1), .val (.int b1), .val (.int f1), .val (.int c1), .val (.int fl), .val (.long a), .second, .val (.long b), .second, .val (.int (0 : Int32)), .val (.int (0 : Int32)), .val (.int (0 : Int32)), .val (.long ((f1 &&& (255 : Int32)).toInt64)), .second, .unset, .unset, .unset, .unset, .unset, .unset, .unset, .unset]) (st' := [(.long (q0 &&& (511 : Int64)))]) rfl ?_
        refine own_ldc2 X0 (hw _ (List.mem_of_getElem? (i := 1) rfl)) d0_83 ?_
        refine own_blk X0 B0_86_87 B0_86_87d (ls' := #[.val (.long q0), .second, .val (.int a1), .val (.int b1), .val (.int f1), .val (.int c1), .val (.int fl), .val (.long a), .second, .val (.long b), .second, .val (.int (0 : Int32)), .val (.int (0 : Int32)), .val (.int (0 : Int32)), .val (.long ((f1 &&& (255 : Int32)).toInt64)), .second, .unset, .unset, .unset, .unset, .unset, .unset, .unset, .unset]) (st' := [(.long ((q0 &&& (511 : Int64)) - (8 : Int64)))]) rfl ?_
        exact J87 _ _
      · have c50 : ¬ ((fl &&& (4 : Int32)).toInt = 0) := c50
        refine own_blk X0 B0_53_54 B0_53_54d (ls' := #[.val (.long q0), .second, .val (.int a1), .val (.int b1), .val (.int f1), .val (.int c1), .val (.int fl), .val (.long a), .second, .val (.long b), .second, .val (.int (0 : Int32)), .val (.int (0 : Int32)), .unset, .unset, .unset, .unset, .unset, .unset, .unset, .unset, .unset, .unset, .unset]) (st' := [(.int (1 : Int32))]) rfl ?_
        refine own_goto X0 d0_54 (pc' := 58) (by decide) ?_
        refine own_blk X0 B0_58_71 B0_58_71d (ls' := #[.val (.long q0), .second, .val (.int a1), .val (.int b1), .val (.int f1), .val (.int c1), .val (.int fl), .val (.long a), .second, .val (.long b), .second, .val (.int (0 : Int32)), .val (.int (0 : Int32)), .val (.int (1 : Int32)), .val (.long ((f1 &&& (255 : Int32)).toInt64)), .second, .unset, .unset, .unset, .unset, .unset, .unset, .unset, .unset]) (st' := [(.int (1 : Int32))]) rfl ?_
        refine own_if X0 d0_71 (pc' := 78) (by decide) (fun (c71 : (1 : Int) = 0) => by exfalso; omega) (fun c71 => ?_)
        have c71 : ¬ ((1 : Int) = 0) := c71
        refine own_blk X0 B0_74_75 B0_74_75d (ls' := #[.val (.long q0), .second, .val (.int a1), .val (.int b1), .val (.int f1), .val (.int c1), .val (.int fl), .val (.long a), .second, .val (.long b), .second, .val (.int (0 : Int32)), .val (.int (0 : Int32)), .val (.int (1 : Int32)), .val (.long ((f1 &&& (255 : Int32)).toInt64)), .second, .unset, .unset, .unset, .unset, .unset, .unset, .unset, .unset]) (st' := [(.long q0)]) rfl ?_
        refine own_goto X0 d0_75 (pc' := 87) (by decide) ?_
        exact J87 _ _
    · have c36 : ¬ ((fl &&& (2 : Int32)).toInt = 0) := c36
      refine own_blk X0 B0_39_40 B0_39_40d (ls' := #[.val (.long q0), .second, .val (.int a1), .val (.int b1), .val (.int f1), .val (.int c1), .val (.int fl), .val (.long a), .second, .val (.long b), .second, .val (.int (0 : Int32)), .unset, .unset, .unset, .unset, .unset, .unset, .unset, .unset, .unset, .unset, .unset, .unset]) (st' := [(.int (1 : Int32))]) rfl ?_
      refine own_goto X0 d0_40 (pc' := 44) (by decide) ?_
      refine own_blk X0 B0_44_46 B0_44_46d (ls' := #[.val (.long q0), .second, .val (.int a1), .val (.int b1), .val (.int f1), .val (.int c1), .val (.int fl), .val (.long a), .second, .val (.long b), .second, .val (.int (0 : Int32)), .val (.int (1 : Int32)), .unset, .unset, .unset, .unset, .unset, .unset, .unset, .unset, .unset, .unset, .unset]) (st' := []) rfl ?_
      have J87 : ∀ (q : Int64) (s13 : Slot), own_G p e below (T0.setTop (mkF m 87 #[.val (.long q0), .second, .val (.int a1), .val (.int b1), .val (.int f1), .val (.int c1), .val (.int fl), .val (.long a), .second, .val (.long b), .second, .val (.int (0 : Int32)), .val (.int (1 : Int32)), s13, .val (.long ((f1 &&& (255 : Int32)).toInt64)), .second, .unset, .unset, .unset, .unset, .unset, .unset, .unset, .unset] [.long q])) (own_E s n0 (fun v h => v = some (.int 1)) room_1.cells room_1.slots) := by
        intro q s13
        refine own_blk X0 B0_87_89 B0_87_89d (ls' := #[.val (.long q0), .second, .val (.int a1), .val (.int b1), .val (.int f1), .val (.int c1), .val (.int fl), .val (.long a), .second, .val (.long b), .second, .val (.int (0 : Int32)), .val (.int (1 : Int32)), s13, .val (.long ((f1 &&& (255 : Int32)).toInt64)), .second, .val (.long q), .second, .unset, .unset, .unset, .unset, .unset, .unset]) (st' := []) rfl ?_
        generalize ef : ((f1 &&& (255 : Int32)).toInt64) = f
        have hf : 0 ≤ f.toInt ∧ f.toInt ≤ 255 := by rw [← ef, Jvm.Kit.i64_of_i32, own_m255]; omega
        refine own_newO X0 (hw _ (List.mem_of_getElem? (i := 2) rfl)) (hw _ (List.mem_of_getElem? (i := 3) rfl)) (hw _ (List.mem_of_getElem? (i := 4) rfl)) d0_89 (by decide) (by decide) (fun h10 T10 X10 E10 Q10 D10 => ?_)
        have n_v : n0 ≤ h0.size := X0.2.1
        have F10_base : Fld Z h10 h0.size "lonewatch/model/InstanceValues" "base" "J" (.long (0 : Int64)) := D10 (Or.inl (hw _ (List.mem_of_getElem? (i := 12) rfl))) (ty := .long) (by decide)
        have F10_kept : Fld Z h10 h0.size "lonewatch/model/InstanceValues" "kept" "J" (.long (0 : Int64)) := D10 (Or.inl (hw _ (List.mem_of_getElem? (i := 14) rfl))) (ty := .long) (by decide)
        have F10_values : Fld Z h10 h0.size "lonewatch/model/InstanceValues" "values" "[J" .null := D10 (Or.inl (hw _ (List.mem_of_getElem? (i := 17) rfl))) (ty := (.array .long)) (by decide)
        have F10_held : Fld Z h10 h0.size "lonewatch/model/InstanceValues" "held" "[Z" .null := D10 (Or.inl (hw _ (List.mem_of_getElem? (i := 20) rfl))) (ty := (.array .boolean)) (by decide)
        have F10_size : Fld Z h10 h0.size "lonewatch/model/InstanceValues" "size" "I" (.int (0 : Int32)) := D10 (Or.inl (hw _ (List.mem_of_getElem? (i := 45) rfl))) (ty := .int) (by decide)
        have F10_view : Fld Z h10 h0.size "lonewatch/model/InstanceValues" "view" "Ljava/util/Map;" .null := D10 (Or.inr (hw _ (List.mem_of_getElem? (i := 36) rfl))) (ty := (.object "java/util/Map")) (by decide)
        clear D10
        generalize ez_v : h0.size = v at Q10 n_v F10_base F10_kept F10_values F10_held F10_size F10_view ⊢
        show own_G p e below (T10.setTop (mkF m 92 #[.val (.long q0), .second, .val (.int a1), .val (.int b1), .val (.int f1), .val (.int c1), .val (.int fl), .val (.long a), .second, .val (.long b), .second, .val (.int (0 : Int32)), .val (.int (1 : Int32)), s13, .val (.long f), .second, .val (.long q), .second, .unset, .unset, .unset, .unset, .unset, .unset] [(.ref v)])) _
        refine own_blk X10 B0_92_93 B0_92_93d (ls' := #[.val (.long q0), .second, .val (.int a1), .val (.int b1), .val (.int f1), .val (.int c1), .val (.int fl), .val (.long a), .second, .val (.long b), .second, .val (.int (0 : Int32)), .val (.int (1 : Int32)), s13, .val (.long f), .second, .val (.long q), .second, .unset, .unset, .unset, .unset, .unset, .unset]) (st' := [(.ref v), (.ref v)]) rfl ?_
        refine own_callN X10 rfl (hw _ (List.mem_of_getElem? (i := 5) rfl)) (hw _ (List.mem_of_getElem? (i := 6) rfl)) (hw _ (List.mem_of_getElem? (i := 4) rfl)) (hw _ (List.mem_of_getElem? (i := 7) rfl)) (by decide) (c_init l Z a0 hw v h10 n0 X10.2.1 n_v Q10 F10_base F10_kept F10_values F10_held F10_size F10_view) d0_93 [] [(.ref v)] rfl rfl pd1 rfl rfl (by decide) (Nat.le_of_ble_eq_true rfl) (by decide) (by decide) (fun _ _ q => q.2.1) (fun v11 h11 T11 X11 q11 => ?_)
        obtain ⟨rfl, _, S11⟩ := q11
        show own_G p e below (T11.setTop (mkF m 96 #[.val (.long q0), .second, .val (.int a1), .val (.int b1), .val (.int f1), .val (.int c1), .val (.int fl), .val (.long a), .second, .val (.long b), .second, .val (.int (0 : Int32)), .val (.int (1 : Int32)), s13, .val (.long f), .second, .val (.long q), .second, .unset, .unset, .unset, .unset, .unset, .unset] [(.ref v)])) _
        refine own_blk X11 B0_96_102 B0_96_102d (ls' := #[.val (.long q0), .second, .val (.int a1), .val (.int b1), .val (.int f1), .val (.int c1), .val (.int fl), .val (.long a), .second, .val (.long b), .second, .val (.int (0 : Int32)), .val (.int (1 : Int32)), s13, .val (.long f), .second, .val (.long q), .second, .val (.ref v), .unset, .unset, .unset, .unset, .unset]) (st' := [(.long a), (.ref v)]) rfl ?_
        refine own_ldc2 X11 (hw _ (List.mem_of_getElem? (i := 37) rfl)) d0_102 ?_
        refine own_callV X11 (hw _ (List.mem_of_getElem? (i := 38) rfl)) (hw _ (List.mem_of_getElem? (i := 39) rfl)) (hw _ (List.mem_of_getElem? (i := 41) rfl)) (hw _ (List.mem_of_getElem? (i := 40) rfl)) (hw _ (List.mem_of_getElem? (i := 4) rfl)) (hw _ (List.mem_of_getElem? (i := 42) rfl)) (by decide) (own_S_exa S11) (c_put64 l Z a0 hw v a (7 : Int64) (1 : Int64) (1 : Int64) 16 (fun _ => False) h11 n0 X11.2.1 S11 (by decide) (by decide) ha.1 (by show _ - (1 : Int) < _; omega) (by omega) (by decide) (by decide)) d0_105 [(.long a), (.long (7 : Int64))] [] rfl rfl pd5 rfl rfl (by decide) (Nat.le_of_ble_eq_true rfl) (by decide) (by decide) (fun _ _ q => q.2.1) (fun v12 h12 T12 X12 q12 => ?_)
        obtain ⟨rfl, _, n12, hl12, hu12, S12⟩ := q12
        show own_G p e below (T12.setTop (mkF m 108 #[.val (.long q0), .second, .val (.int a1), .val (.int b1), .val (.int f1), .val (.int c1), .val (.int fl), .val (.long a), .second, .val (.long b), .second, .val (.int (0 : Int32)), .val (.int (1 : Int32)), s13, .val (.long f), .second, .val (.long q), .second, .val (.ref v), .unset, .unset, .unset, .unset, .unset] [])) _
        have R12 : own_S Z h12 n0 v (1 : Int64) (1 : Int64) n12 (fun k => k = a.toInt) := own_S_iff S12 (fun k => by simp)
        refine own_blk X12 B0_108_112 B0_108_112d (ls' := #[.val (.long q0), .second, .val (.int a1), .val (.int b1), .val (.int f1), .val (.int c1), .val (.int fl), .val (.long a), .second, .val (.long b), .second, .val (.int (0 : Int32)), .val (.int (1 : Int32)), s13, .val (.long f), .second, .val (.long q), .second, .val (.ref v), .unset, .unset, .unset, .unset, .unset]) (st' := [(.long b), (.ref v)]) rfl ?_
        refine own_ldc2 X12 (hw _ (List.mem_of_getElem? (i := 46) rfl)) d0_112 ?_
        refine own_callV X12 (hw _ (List.mem_of_getElem? (i := 38) rfl)) (hw _ (List.mem_of_getElem? (i := 39) rfl)) (hw _ (List.mem_of_getElem? (i := 41) rfl)) (hw _ (List.mem_of_getElem? (i := 40) rfl)) (hw _ (List.mem_of_getElem? (i := 4) rfl)) (hw _ (List.mem_of_getElem? (i := 42) rfl)) (by decide) (own_S_exa R12) (c_put128 l Z a0 hw v b (9 : Int64) (1 : Int64) (1 : Int64) n12 (fun k => k = a.toInt) h12 n0 X12.2.1 R12 (by decide) (by decide) hb.1 (by show _ - (1 : Int) < _; omega) (by omega) (by omega) hl12) d0_115 [(.long b), (.long (9 : Int64))] [] rfl rfl pd5 rfl rfl (by decide) (Nat.le_of_ble_eq_true rfl) (by decide) (by decide) (fun _ _ q => q.2.1) (fun v13 h13 T13 X13 q13 => ?_)
        obtain ⟨rfl, _, n13, hl13, hu13, S13⟩ := q13
        show own_G p e below (T13.setTop (mkF m 118 #[.val (.long q0), .second, .val (.int a1), .val (.int b1), .val (.int f1), .val (.int c1), .val (.int fl), .val (.long a), .second, .val (.long b), .second, .val (.int (0 : Int32)), .val (.int (1 : Int32)), s13, .val (.long f), .second, .val (.long q), .second, .val (.ref v), .unset, .unset, .unset, .unset, .unset] [])) _
        have R13 : own_S Z h13 n0 v (1 : Int64) (1 : Int64) n13 (fun k => k = a.toInt ∨ k = b.toInt) := own_S_iff S13 (fun k => by simp)
        refine own_blk X13 B0_118_123 B0_118_123d (ls' := #[.val (.long q0), .second, .val (.int a1), .val (.int b1), .val (.int f1), .val (.int c1), .val (.int fl), .val (.long a), .second, .val (.long b), .second, .val (.int (0 : Int32)), .val (.int (1 : Int32)), s13, .val (.long f), .second, .val (.long q), .second, .val (.ref v), .val (.long (1 : Int64)), .second, .unset, .unset, .unset]) (st' := [(.int (0 : Int32))]) rfl ?_
        refine own_if X13 d0_123 (pc' := 141) (by decide) (fun c123 => ?_) (fun (c123 : ¬ ((0 : Int) = 0)) => by exfalso; omega)
        have c123 : (0 : Int) = 0 := c123
        refine own_blk X13 B0_141_152 B0_141_152d (ls' := #[.val (.long q0), .second, .val (.int a1), .val (.int b1), .val (.int f1), .val (.int c1), .val (.int fl), .val (.long a), .second, .val (.long b), .second, .val (.int (0 : Int32)), .val (.int (1 : Int32)), s13, .val (.long f), .second, .val (.long q), .second, .val (.ref v), .val (.long (1 : Int64)), .second, .val (.long ((1 : Int64) + ((c1 &&& (127 : Int32)).toInt64))), .second, .unset]) (st' := []) rfl ?_
        generalize ec2 : ((1 : Int64) + ((c1 &&& (127 : Int32)).toInt64)) = c2
        have hc2 : 1 ≤ c2.toInt ∧ c2.toInt ≤ 1 + 127 := by
          have e0 := own_mask c1 127 7 (by decide) (by decide)
          have e1 := Jvm.Kit.i64_of_i32 (c1 &&& 127)
          rw [← ec2, Jvm.Kit.i64_add (by rw [e1]; show _ ≤ (1 : Int) + _; omega) (by rw [e1]; show (1 : Int) + _ < _; omega), e1]
          show _ ≤ (1 : Int) + _ ∧ (1 : Int) + _ ≤ _
          omega
        refine own_blk X13 B0_152_154 B0_152_154d (ls' := #[.val (.long q0), .second, .val (.int a1), .val (.int b1), .val (.int f1), .val (.int c1), .val (.int fl), .val (.long a), .second, .val (.long b), .second, .val (.int (0 : Int32)), .val (.int (1 : Int32)), s13, .val (.long f), .second, .val (.long q), .second, .val (.ref v), .val (.long (1 : Int64)), .second, .val (.long c2), .second, .unset]) (st' := [(.int (1 : Int32))]) rfl ?_
        refine own_if X13 d0_154 (pc' := 167) (by decide) (fun (c154 : (1 : Int) = 0) => by exfalso; omega) (fun c154 => ?_)
        have c154 : ¬ ((1 : Int) = 0) := c154
        refine own_blk X13 B0_157_161 B0_157_161d (ls' := #[.val (.long q0), .second, .val (.int a1), .val (.int b1), .val (.int f1), .val (.int c1), .val (.int fl), .val (.long a), .second, .val (.long b), .second, .val (.int (0 : Int32)), .val (.int (1 : Int32)), s13, .val (.long f), .second, .val (.long q), .second, .val (.ref v), .val (.long (1 : Int64)), .second, .val (.long c2), .second, .unset]) (st' := [(.long c2), (.ref v)]) rfl ?_
        refine own_ldc2 X13 (hw _ (List.mem_of_getElem? (i := 65) rfl)) d0_161 ?_
        refine own_callV X13 (hw _ (List.mem_of_getElem? (i := 38) rfl)) (hw _ (List.mem_of_getElem? (i := 39) rfl)) (hw _ (List.mem_of_getElem? (i := 41) rfl)) (hw _ (List.mem_of_getElem? (i := 40) rfl)) (hw _ (List.mem_of_getElem? (i := 4) rfl)) (hw _ (List.mem_of_getElem? (i := 42) rfl)) (by decide) (own_S_exa R13) (c_put382 l Z a0 hw v c2 (11 : Int64) (1 : Int64) (1 : Int64) n13 (fun k => k = a.toInt ∨ k = b.toInt) h13 n0 X13.2.1 R13 (by decide) (by decide) hc2.1 (by show _ - (1 : Int) < _; omega) (by omega) (by omega) hl13) d0_164 [(.long c2), (.long (11 : Int64))] [] rfl rfl pd5 rfl rfl (by decide) (Nat.le_of_ble_eq_true rfl) (by decide) (by decide) (fun _ _ q => q.2.1) (fun v14 h14 T14 X14 q14 => ?_)
        obtain ⟨rfl, _, n14, hl14, hu14, S14⟩ := q14
        show own_G p e below (T14.setTop (mkF m 167 #[.val (.long q0), .second, .val (.int a1), .val (.int b1), .val (.int f1), .val (.int c1), .val (.int fl), .val (.long a), .second, .val (.long b), .second, .val (.int (0 : Int32)), .val (.int (1 : Int32)), s13, .val (.long f), .second, .val (.long q), .second, .val (.ref v), .val (.long (1 : Int64)), .second, .val (.long c2), .second, .unset] [])) _
        have R14 : own_S Z h14 n0 v (1 : Int64) (1 : Int64) n14 (fun k => k = a.toInt ∨ k = b.toInt ∨ k = c2.toInt) := own_S_iff S14 (fun k => by simp [or_assoc])
        refine own_blk X14 B0_167_171 B0_167_171d (ls' := #[.val (.long q0), .second, .val (.int a1), .val (.int b1), .val (.int f1), .val (.int c1), .val (.int fl), .val (.long a), .second, .val (.long b), .second, .val (.int (0 : Int32)), .val (.int (1 : Int32)), s13, .val (.long f), .second, .val (.long q), .second, .val (.ref v), .val (.long (1 : Int64)), .second, .val (.long c2), .second, .unset]) (st' := [(.long a), (.long q)]) rfl ?_
        refine own_lif X14 d0_171 d0_172 (pc' := 183) (by decide) (fun c171 => ?_) (fun c171 => ?_)
        · have c171 : q.toInt = a.toInt := c171
          refine own_blk X14 B0_183_187 B0_183_187d (ls' := #[.val (.long q0), .second, .val (.int a1), .val (.int b1), .val (.int f1), .val (.int c1), .val (.int fl), .val (.long a), .second, .val (.long b), .second, .val (.int (0 : Int32)), .val (.int (1 : Int32)), s13, .val (.long f), .second, .val (.long q), .second, .val (.ref v), .val (.long (1 : Int64)), .second, .val (.long c2), .second, .unset]) (st' := [(.long (1 : Int64)), (.long q)]) rfl ?_
          refine own_lif X14 d0_187 d0_188 (pc' := 204) (by decide) (fun c187 => ?_) (fun c187 => ?_)
          · have c187 : 1 ≤ q.toInt := c187
            refine own_blk X14 B0_204_205 B0_204_205d (ls' := #[.val (.long q0), .second, .val (.int a1), .val (.int b1), .val (.int f1), .val (.int c1), .val (.int fl), .val (.long a), .second, .val (.long b), .second, .val (.int (0 : Int32)), .val (.int (1 : Int32)), s13, .val (.long f), .second, .val (.long q), .second, .val (.ref v), .val (.long (1 : Int64)), .second, .val (.long c2), .second, .unset]) (st' := [(.int (1 : Int32))]) rfl ?_
            refine own_goto X14 d0_205 (pc' := 209) (by decide) ?_
            refine own_blk X14 B0_209_215 B0_209_215d (ls' := #[.val (.long q0), .second, .val (.int a1), .val (.int b1), .val (.int f1), .val (.int c1), .val (.int fl), .val (.long a), .second, .val (.long b), .second, .val (.int (0 : Int32)), .val (.int (1 : Int32)), s13, .val (.long f), .second, .val (.long q), .second, .val (.ref v), .val (.long (1 : Int64)), .second, .val (.long c2), .second, .val (.int (1 : Int32))]) (st' := [(.long q), (.ref v)]) rfl ?_
            refine own_callV X14 (hw _ (List.mem_of_getElem? (i := 47) rfl)) (hw _ (List.mem_of_getElem? (i := 48) rfl)) (hw _ (List.mem_of_getElem? (i := 50) rfl)) (hw _ (List.mem_of_getElem? (i := 49) rfl)) (hw _ (List.mem_of_getElem? (i := 4) rfl)) (hw _ (List.mem_of_getElem? (i := 51) rfl)) (by decide) (own_S_exa R14) (c_holds l Z a0 hw v q (1 : Int64) (1 : Int64) n14 (fun k => k = a.toInt ∨ k = b.toInt ∨ k = c2.toInt) h14 n0 X14.2.1 R14 (by decide) (by decide)) d0_215 [(.long q)] [] rfl rfl pd6 rfl rfl (by decide) (Nat.le_of_ble_eq_true rfl) (by decide) (by decide) (fun _ _ q => by obtain ⟨_, _, q2, _⟩ := q; rw [q2]; exact X14.2.1) (fun v15 h15 T15 X15 q15 => ?_)
            obtain ⟨z15, rfl, e15, hz15⟩ := q15
            rw [e15] at X15
            show own_G p e below (T15.setTop (mkF m 218 #[.val (.long q0), .second, .val (.int a1), .val (.int b1), .val (.int f1), .val (.int c1), .val (.int fl), .val (.long a), .second, .val (.long b), .second, .val (.int (0 : Int32)), .val (.int (1 : Int32)), s13, .val (.long f), .second, .val (.long q), .second, .val (.ref v), .val (.long (1 : Int64)), .second, .val (.long c2), .second, .val (.int (1 : Int32))] [(.int z15)])) _
            have hz15 : (z15.toInt = 1 ∧ 1 ≤ q.toInt ∧ (q.toInt = a.toInt ∨ q.toInt = b.toInt ∨ q.toInt = c2.toInt)) ∨ (z15.toInt = 0 ∧ ¬ (1 ≤ q.toInt ∧ (q.toInt = a.toInt ∨ q.toInt = b.toInt ∨ q.toInt = c2.toInt))) := hz15
            refine own_blk X15 B0_218_220 B0_218_220d (ls' := #[.val (.long q0), .second, .val (.int a1), .val (.int b1), .val (.int f1), .val (.int c1), .val (.int fl), .val (.long a), .second, .val (.long b), .second, .val (.int (0 : Int32)), .val (.int (1 : Int32)), s13, .val (.long f), .second, .val (.long q), .second, .val (.ref v), .val (.long (1 : Int64)), .second, .val (.long c2), .second, .val (.int (1 : Int32))]) (st' := [(.int (1 : Int32)), (.int z15)]) rfl ?_
            refine own_icmp X15 d0_220 (pc' := 227) (by decide) (fun (c220 : ¬ z15.toInt = 1) => by exfalso; omega) (fun c220 => ?_)
            have c220 : ¬ (¬ z15.toInt = 1) := c220
            refine own_blk X15 B0_223_224 B0_223_224d (ls' := #[.val (.long q0), .second, .val (.int a1), .val (.int b1), .val (.int f1), .val (.int c1), .val (.int fl), .val (.long a), .second, .val (.long b), .second, .val (.int (0 : Int32)), .val (.int (1 : Int32)), s13, .val (.long f), .second, .val (.long q), .second, .val (.ref v), .val (.long (1 : Int64)), .second, .val (.long c2), .second, .val (.int (1 : Int32))]) (st' := [(.int (1 : Int32))]) rfl ?_
            refine own_goto X15 d0_224 (pc' := 228) (by decide) ?_
            exact own_retN X15 (by simp) d0_228 (v' := (1 : Int32)) (rfl) (by decide) (by decide) (rfl)
          · have c187 : ¬ (1 ≤ q.toInt) := c187
            refine own_blk X14 B0_191_193 B0_191_193d (ls' := #[.val (.long q0), .second, .val (.int a1), .val (.int b1), .val (.int f1), .val (.int c1), .val (.int fl), .val (.long a), .second, .val (.long b), .second, .val (.int (0 : Int32)), .val (.int (1 : Int32)), s13, .val (.long f), .second, .val (.long q), .second, .val (.ref v), .val (.long (1 : Int64)), .second, .val (.long c2), .second, .unset]) (st' := [(.int (1 : Int32))]) rfl ?_
            refine own_if X14 d0_193 (pc' := 208) (by decide) (fun (c193 : (1 : Int) = 0) => by exfalso; omega) (fun c193 => ?_)
            have c193 : ¬ ((1 : Int) = 0) := c193
            refine own_blk X14 B0_196_200 B0_196_200d (ls' := #[.val (.long q0), .second, .val (.int a1), .val (.int b1), .val (.int f1), .val (.int c1), .val (.int fl), .val (.long a), .second, .val (.long b), .second, .val (.int (0 : Int32)), .val (.int (1 : Int32)), s13, .val (.long f), .second, .val (.long q), .second, .val (.ref v), .val (.long (1 : Int64)), .second, .val (.long c2), .second, .unset]) (st' := [(.long c2), (.long q)]) rfl ?_
            refine own_lif X14 d0_200 d0_201 (pc' := 208) (by decide) (fun c200 => ?_) (fun c200 => ?_)
            · have c200 : ¬ q.toInt = c2.toInt := c200
              refine own_blk X14 B0_208_215 B0_208_215d (ls' := #[.val (.long q0), .second, .val (.int a1), .val (.int b1), .val (.int f1), .val (.int c1), .val (.int fl), .val (.long a), .second, .val (.long b), .second, .val (.int (0 : Int32)), .val (.int (1 : Int32)), s13, .val (.long f), .second, .val (.long q), .second, .val (.ref v), .val (.long (1 : Int64)), .second, .val (.long c2), .second, .val (.int (0 : Int32))]) (st' := [(.long q), (.ref v)]) rfl ?_
              refine own_callV X14 (hw _ (List.mem_of_getElem? (i := 47) rfl)) (hw _ (List.mem_of_getElem? (i := 48) rfl)) (hw _ (List.mem_of_getElem? (i := 50) rfl)) (hw _ (List.mem_of_getElem? (i := 49) rfl)) (hw _ (List.mem_of_getElem? (i := 4) rfl)) (hw _ (List.mem_of_getElem? (i := 51) rfl)) (by decide) (own_S_exa R14) (c_holds l Z a0 hw v q (1 : Int64) (1 : Int64) n14 (fun k => k = a.toInt ∨ k = b.toInt ∨ k = c2.toInt) h14 n0 X14.2.1 R14 (by decide) (by decide)) d0_215 [(.long q)] [] rfl rfl pd6 rfl rfl (by decide) (Nat.le_of_ble_eq_true rfl) (by decide) (by decide) (fun _ _ q => by obtain ⟨_, _, q2, _⟩ := q; rw [q2]; exact X14.2.1) (fun v16 h16 T16 X16 q16 => ?_)
              obtain ⟨z16, rfl, e16, hz16⟩ := q16
              rw [e16] at X16
              show own_G p e below (T16.setTop (mkF m 218 #[.val (.long q0), .second, .val (.int a1), .val (.int b1), .val (.int f1), .val (.int c1), .val (.int fl), .val (.long a), .second, .val (.long b), .second, .val (.int (0 : Int32)), .val (.int (1 : Int32)), s13, .val (.long f), .second, .val (.long q), .second, .val (.ref v), .val (.long (1 : Int64)), .second, .val (.long c2), .second, .val (.int (0 : Int32))] [(.int z16)])) _
              have hz16 : (z16.toInt = 1 ∧ 1 ≤ q.toInt ∧ (q.toInt = a.toInt ∨ q.toInt = b.toInt ∨ q.toInt = c2.toInt)) ∨ (z16.toInt = 0 ∧ ¬ (1 ≤ q.toInt ∧ (q.toInt = a.toInt ∨ q.toInt = b.toInt ∨ q.toInt = c2.toInt))) := hz16
              refine own_blk X16 B0_218_220 B0_218_220d (ls' := #[.val (.long q0), .second, .val (.int a1), .val (.int b1), .val (.int f1), .val (.int c1), .val (.int fl), .val (.long a), .second, .val (.long b), .second, .val (.int (0 : Int32)), .val (.int (1 : Int32)), s13, .val (.long f), .second, .val (.long q), .second, .val (.ref v), .val (.long (1 : Int64)), .second, .val (.long c2), .second, .val (.int (0 : Int32))]) (st' := [(.int (0 : Int32)), (.int z16)]) rfl ?_
              refine own_icmp X16 d0_220 (pc' := 227) (by decide) (fun (c220 : ¬ z16.toInt = 0) => by exfalso; omega) (fun c220 => ?_)
              have c220 : ¬ (¬ z16.toInt = 0) := c220
              refine own_blk X16 B0_223_224 B0_223_224d (ls' := #[.val (.long q0), .second, .val (.int a1), .val (.int b1), .val (.int f1), .val (.int c1), .val (.int fl), .val (.long a), .second, .val (.long b), .second, .val (.int (0 : Int32)), .val (.int (1 : Int32)), s13, .val (.long f), .second, .val (.long q), .second, .val (.ref v), .val (.long (1 : Int64)), .second, .val (.long c2), .second, .val (.int (0 : Int32))]) (st' := [(.int (1 : Int32))]) rfl ?_
              refine own_goto X16 d0_224 (pc' := 228) (by decide) ?_
              exact own_retN X16 (by simp) d0_228 (v' := (1 : Int32)) (rfl) (by decide) (by decide) (rfl)
            · have c200 : ¬ (¬ q.toInt = c2.toInt) := c200
              refine own_blk X14 B0_204_205 B0_204_205d (ls' := #[.val (.long q0), .second, .val (.int a1), .val (.int b1), .val (.int f1), .val (.int c1), .val (.int fl), .val (.long a), .second, .val (.long b), .second, .val (.int (0 : Int32)), .val (.int (1 : Int32)), s13, .val (.long f), .second, .val (.long q), .second, .val (.ref v), .val (.long (1 : Int64)), .second, .val (.long c2), .second, .unset]) (st' := [(.int (1 : Int32))]) rfl ?_
              refine own_goto X14 d0_205 (pc' := 209) (by decide) ?_
              refine own_blk X14 B0_209_215 B0_209_215d (ls' := #[.val (.long q0), .second, .val (.int a1), .val (.int b1), .val (.int f1), .val (.int c1), .val (.int fl), .val (.long a), .second, .val (.long b), .second, .val (.int (0 : Int32)), .val (.int (1 : Int32)), s13, .val (.long f), .second, .val (.long q), .second, .val (.ref v), .val (.long (1 : Int64)), .second, .val (.long c2), .second, .val (.int (1 : Int32))]) (st' := [(.long q), (.ref v)]) rfl ?_
              refine own_callV X14 (hw _ (List.mem_of_getElem? (i := 47) rfl)) (hw _ (List.mem_of_getElem? (i := 48) rfl)) (hw _ (List.mem_of_getElem? (i := 50) rfl)) (hw _ (List.mem_of_getElem? (i := 49) rfl)) (hw _ (List.mem_of_getElem? (i := 4) rfl)) (hw _ (List.mem_of_getElem? (i := 51) rfl)) (by decide) (own_S_exa R14) (c_holds l Z a0 hw v q (1 : Int64) (1 : Int64) n14 (fun k => k = a.toInt ∨ k = b.toInt ∨ k = c2.toInt) h14 n0 X14.2.1 R14 (by decide) (by decide)) d0_215 [(.long q)] [] rfl rfl pd6 rfl rfl (by decide) (Nat.le_of_ble_eq_true rfl) (by decide) (by decide) (fun _ _ q => by obtain ⟨_, _, q2, _⟩ := q; rw [q2]; exact X14.2.1) (fun v17 h17 T17 X17 q17 => ?_)
              obtain ⟨z17, rfl, e17, hz17⟩ := q17
              rw [e17] at X17
              show own_G p e below (T17.setTop (mkF m 218 #[.val (.long q0), .second, .val (.int a1), .val (.int b1), .val (.int f1), .val (.int c1), .val (.int fl), .val (.long a), .second, .val (.long b), .second, .val (.int (0 : Int32)), .val (.int (1 : Int32)), s13, .val (.long f), .second, .val (.long q), .second, .val (.ref v), .val (.long (1 : Int64)), .second, .val (.long c2), .second, .val (.int (1 : Int32))] [(.int z17)])) _
              have hz17 : (z17.toInt = 1 ∧ 1 ≤ q.toInt ∧ (q.toInt = a.toInt ∨ q.toInt = b.toInt ∨ q.toInt = c2.toInt)) ∨ (z17.toInt = 0 ∧ ¬ (1 ≤ q.toInt ∧ (q.toInt = a.toInt ∨ q.toInt = b.toInt ∨ q.toInt = c2.toInt))) := hz17
              refine own_blk X17 B0_218_220 B0_218_220d (ls' := #[.val (.long q0), .second, .val (.int a1), .val (.int b1), .val (.int f1), .val (.int c1), .val (.int fl), .val (.long a), .second, .val (.long b), .second, .val (.int (0 : Int32)), .val (.int (1 : Int32)), s13, .val (.long f), .second, .val (.long q), .second, .val (.ref v), .val (.long (1 : Int64)), .second, .val (.long c2), .second, .val (.int (1 : Int32))]) (st' := [(.int (1 : Int32)), (.int z17)]) rfl ?_
              refine own_icmp X17 d0_220 (pc' := 227) (by decide) (fun (c220 : ¬ z17.toInt = 1) => by exfalso; omega) (fun c220 => ?_)
              have c220 : ¬ (¬ z17.toInt = 1) := c220
              refine own_blk X17 B0_223_224 B0_223_224d (ls' := #[.val (.long q0), .second, .val (.int a1), .val (.int b1), .val (.int f1), .val (.int c1), .val (.int fl), .val (.long a), .second, .val (.long b), .second, .val (.int (0 : Int32)), .val (.int (1 : Int32)), s13, .val (.long f), .second, .val (.long q), .second, .val (.ref v), .val (.long (1 : Int64)), .second, .val (.long c2), .second, .val (.int (1 : Int32))]) (st' := [(.int (1 : Int32))]) rfl ?_
              refine own_goto X17 d0_224 (pc' := 228) (by decide) ?_
              exact own_retN X17 (by simp) d0_228 (v' := (1 : Int32)) (rfl) (by decide) (by decide) (rfl)
        · have c171 : ¬ (q.toInt = a.toInt) := c171
          refine own_blk X14 B0_175_179 B0_175_179d (ls' := #[.val (.long q0), .second, .val (.int a1), .val (.int b1), .val (.int f1), .val (.int c1), .val (.int fl), .val (.long a), .second, .val (.long b), .second, .val (.int (0 : Int32)), .val (.int (1 : Int32)), s13, .val (.long f), .second, .val (.long q), .second, .val (.ref v), .val (.long (1 : Int64)), .second, .val (.long c2), .second, .unset]) (st' := [(.long b), (.long q)]) rfl ?_
          refine own_lif X14 d0_179 d0_180 (pc' := 191) (by decide) (fun c179 => ?_) (fun c179 => ?_)
          · have c179 : ¬ q.toInt = b.toInt := c179
            refine own_blk X14 B0_191_193 B0_191_193d (ls' := #[.val (.long q0), .second, .val (.int a1), .val (.int b1), .val (.int f1), .val (.int c1), .val (.int fl), .val (.long a), .second, .val (.long b), .second, .val (.int (0 : Int32)), .val (.int (1 : Int32)), s13, .val (.long f), .second, .val (.long q), .second, .val (.ref v), .val (.long (1 : Int64)), .second, .val (.long c2), .second, .unset]) (st' := [(.int (1 : Int32))]) rfl ?_
            refine own_if X14 d0_193 (pc' := 208) (by decide) (fun (c193 : (1 : Int) = 0) => by exfalso; omega) (fun c193 => ?_)
            have c193 : ¬ ((1 : Int) = 0) := c193
            refine own_blk X14 B0_196_200 B0_196_200d (ls' := #[.val (.long q0), .second, .val (.int a1), .val (.int b1), .val (.int f1), .val (.int c1), .val (.int fl), .val (.long a), .second, .val (.long b), .second, .val (.int (0 : Int32)), .val (.int (1 : Int32)), s13, .val (.long f), .second, .val (.long q), .second, .val (.ref v), .val (.long (1 : Int64)), .second, .val (.long c2), .second, .unset]) (st' := [(.long c2), (.long q)]) rfl ?_
            refine own_lif X14 d0_200 d0_201 (pc' := 208) (by decide) (fun c200 => ?_) (fun c200 => ?_)
            · have c200 : ¬ q.toInt = c2.toInt := c200
              refine own_blk X14 B0_208_215 B0_208_215d (ls' := #[.val (.long q0), .second, .val (.int a1), .val (.int b1), .val (.int f1), .val (.int c1), .val (.int fl), .val (.long a), .second, .val (.long b), .second, .val (.int (0 : Int32)), .val (.int (1 : Int32)), s13, .val (.long f), .second, .val (.long q), .second, .val (.ref v), .val (.long (1 : Int64)), .second, .val (.long c2), .second, .val (.int (0 : Int32))]) (st' := [(.long q), (.ref v)]) rfl ?_
              refine own_callV X14 (hw _ (List.mem_of_getElem? (i := 47) rfl)) (hw _ (List.mem_of_getElem? (i := 48) rfl)) (hw _ (List.mem_of_getElem? (i := 50) rfl)) (hw _ (List.mem_of_getElem? (i := 49) rfl)) (hw _ (List.mem_of_getElem? (i := 4) rfl)) (hw _ (List.mem_of_getElem? (i := 51) rfl)) (by decide) (own_S_exa R14) (c_holds l Z a0 hw v q (1 : Int64) (1 : Int64) n14 (fun k => k = a.toInt ∨ k = b.toInt ∨ k = c2.toInt) h14 n0 X14.2.1 R14 (by decide) (by decide)) d0_215 [(.long q)] [] rfl rfl pd6 rfl rfl (by decide) (Nat.le_of_ble_eq_true rfl) (by decide) (by decide) (fun _ _ q => by obtain ⟨_, _, q2, _⟩ := q; rw [q2]; exact X14.2.1) (fun v18 h18 T18 X18 q18 => ?_)
              obtain ⟨z18, rfl, e18, hz18⟩ := q18
              rw [e18] at X18
              show own_G p e below (T18.setTop (mkF m 218 #[.val (.long q0), .second, .val (.int a1), .val (.int b1), .val (.int f1), .val (.int c1), .val (.int fl), .val (.long a), .second, .val (.long b), .second, .val (.int (0 : Int32)), .val (.int (1 : Int32)), s13, .val (.long f), .second, .val (.long q), .second, .val (.ref v), .val (.long (1 : Int64)), .second, .val (.long c2), .second, .val (.int (0 : Int32))] [(.int z18)])) _
              have hz18 : (z18.toInt = 1 ∧ 1 ≤ q.toInt ∧ (q.toInt = a.toInt ∨ q.toInt = b.toInt ∨ q.toInt = c2.toInt)) ∨ (z18.toInt = 0 ∧ ¬ (1 ≤ q.toInt ∧ (q.toInt = a.toInt ∨ q.toInt = b.toInt ∨ q.toInt = c2.toInt))) := hz18
              refine own_blk X18 B0_218_220 B0_218_220d (ls' := #[.val (.long q0), .second, .val (.int a1), .val (.int b1), .val (.int f1), .val (.int c1), .val (.int fl), .val (.long a), .second, .val (.long b), .second, .val (.int (0 : Int32)), .val (.int (1 : Int32)), s13, .val (.long f), .second, .val (.long q), .second, .val (.ref v), .val (.long (1 : Int64)), .second, .val (.long c2), .second, .val (.int (0 : Int32))]) (st' := [(.int (0 : Int32)), (.int z18)]) rfl ?_
              refine own_icmp X18 d0_220 (pc' := 227) (by decide) (fun (c220 : ¬ z18.toInt = 0) => by exfalso; omega) (fun c220 => ?_)
              have c220 : ¬ (¬ z18.toInt = 0) := c220
              refine own_blk X18 B0_223_224 B0_223_224d (ls' := #[.val (.long q0), .second, .val (.int a1), .val (.int b1), .val (.int f1), .val (.int c1), .val (.int fl), .val (.long a), .second, .val (.long b), .second, .val (.int (0 : Int32)), .val (.int (1 : Int32)), s13, .val (.long f), .second, .val (.long q), .second, .val (.ref v), .val (.long (1 : Int64)), .second, .val (.long c2), .second, .val (.int (0 : Int32))]) (st' := [(.int (1 : Int32))]) rfl ?_
              refine own_goto X18 d0_224 (pc' := 228) (by decide) ?_
              exact own_retN X18 (by simp) d0_228 (v' := (1 : Int32)) (rfl) (by decide) (by decide) (rfl)
            · have c200 : ¬ (¬ q.toInt = c2.toInt) := c200
              refine own_blk X14 B0_204_205 B0_204_205d (ls' := #[.val (.long q0), .second, .val (.int a1), .val (.int b1), .val (.int f1), .val (.int c1), .val (.int fl), .val (.long a), .second, .val (.long b), .second, .val (.int (0 : Int32)), .val (.int (1 : Int32)), s13, .val (.long f), .second, .val (.long q), .second, .val (.ref v), .val (.long (1 : Int64)), .second, .val (.long c2), .second, .unset]) (st' := [(.int (1 : Int32))]) rfl ?_
              refine own_goto X14 d0_205 (pc' := 209) (by decide) ?_
              refine own_blk X14 B0_209_215 B0_209_215d (ls' := #[.val (.long q0), .second, .val (.int a1), .val (.int b1), .val (.int f1), .val (.int c1), .val (.int fl), .val (.long a), .second, .val (.long b), .second, .val (.int (0 : Int32)), .val (.int (1 : Int32)), s13, .val (.long f), .second, .val (.long q), .second, .val (.ref v), .val (.long (1 : Int64)), .second, .val (.long c2), .second, .val (.int (1 : Int32))]) (st' := [(.long q), (.ref v)]) rfl ?_
              refine own_callV X14 (hw _ (List.mem_of_getElem? (i := 47) rfl)) (hw _ (List.mem_of_getElem? (i := 48) rfl)) (hw _ (List.mem_of_getElem? (i := 50) rfl)) (hw _ (List.mem_of_getElem? (i := 49) rfl)) (hw _ (List.mem_of_getElem? (i := 4) rfl)) (hw _ (List.mem_of_getElem? (i := 51) rfl)) (by decide) (own_S_exa R14) (c_holds l Z a0 hw v q (1 : Int64) (1 : Int64) n14 (fun k => k = a.toInt ∨ k = b.toInt ∨ k = c2.toInt) h14 n0 X14.2.1 R14 (by decide) (by decide)) d0_215 [(.long q)] [] rfl rfl pd6 rfl rfl (by decide) (Nat.le_of_ble_eq_true rfl) (by decide) (by decide) (fun _ _ q => by obtain ⟨_, _, q2, _⟩ := q; rw [q2]; exact X14.2.1) (fun v19 h19 T19 X19 q19 => ?_)
              obtain ⟨z19, rfl, e19, hz19⟩ := q19
              rw [e19] at X19
              show own_G p e below (T19.setTop (mkF m 218 #[.val (.long q0), .second, .val (.int a1), .val (.int b1), .val (.int f1), .val (.int c1), .val (.int fl), .val (.long a), .second, .val (.long b), .second, .val (.int (0 : Int32)), .val (.int (1 : Int32)), s13, .val (.long f), .second, .val (.long q), .second, .val (.ref v), .val (.long (1 : Int64)), .second, .val (.long c2), .second, .val (.int (1 : Int32))] [(.int z19)])) _
              have hz19 : (z19.toInt = 1 ∧ 1 ≤ q.toInt ∧ (q.toInt = a.toInt ∨ q.toInt = b.toInt ∨ q.toInt = c2.toInt)) ∨ (z19.toInt = 0 ∧ ¬ (1 ≤ q.toInt ∧ (q.toInt = a.toInt ∨ q.toInt = b.toInt ∨ q.toInt = c2.toInt))) := hz19
              refine own_blk X19 B0_218_220 B0_218_220d (ls' := #[.val (.long q0), .second, .val (.int a1), .val (.int b1), .val (.int f1), .val (.int c1), .val (.int fl), .val (.long a), .second, .val (.long b), .second, .val (.int (0 : Int32)), .val (.int (1 : Int32)), s13, .val (.long f), .second, .val (.long q), .second, .val (.ref v), .val (.long (1 : Int64)), .second, .val (.long c2), .second, .val (.int (1 : Int32))]) (st' := [(.int (1 : Int32)), (.int z19)]) rfl ?_
              refine own_icmp X19 d0_220 (pc' := 227) (by decide) (fun (c220 : ¬ z19.toInt = 1) => by exfalso; omega) (fun c220 => ?_)
              have c220 : ¬ (¬ z19.toInt = 1) := c220
              refine own_blk X19 B0_223_224 B0_223_224d (ls' := #[.val (.long q0), .second, .val (.int a1), .val (.int b1), .val (.int f1), .val (.int c1), .val (.int fl), .val (.long a), .second, .val (.long b), .second, .val (.int (0 : Int32)), .val (.int (1 : Int32)), s13, .val (.long f), .second, .val (.long q), .second, .val (.ref v), .val (.long (1 : Int64)), .second, .val (.long c2), .second, .val (.int (1 : Int32))]) (st' := [(.int (1 : Int32))]) rfl ?_
              refine own_goto X19 d0_224 (pc' := 228) (by decide) ?_
              exact own_retN X19 (by simp) d0_228 (v' := (1 : Int32)) (rfl) (by decide) (by decide) (rfl)
          · have c179 : ¬ (¬ q.toInt = b.toInt) := c179
            refine own_blk X14 B0_183_187 B0_183_187d (ls' := #[.val (.long q0), .second, .val (.int a1), .val (.int b1), .val (.int f1), .val (.int c1), .val (.int fl), .val (.long a), .second, .val (.long b), .second, .val (.int (0 : Int32)), .val (.int (1 : Int32)), s13, .val (.long f), .second, .val (.long q), .second, .val (.ref v), .val (.long (1 : Int64)), .second, .val (.long c2), .second, .unset]) (st' := [(.long (1 : Int64)), (.long q)]) rfl ?_
            refine own_lif X14 d0_187 d0_188 (pc' := 204) (by decide) (fun c187 => ?_) (fun c187 => ?_)
            · have c187 : 1 ≤ q.toInt := c187
              refine own_blk X14 B0_204_205 B0_204_205d (ls' := #[.val (.long q0), .second, .val (.int a1), .val (.int b1), .val (.int f1), .val (.int c1), .val (.int fl), .val (.long a), .second, .val (.long b), .second, .val (.int (0 : Int32)), .val (.int (1 : Int32)), s13, .val (.long f), .second, .val (.long q), .second, .val (.ref v), .val (.long (1 : Int64)), .second, .val (.long c2), .second, .unset]) (st' := [(.int (1 : Int32))]) rfl ?_
              refine own_goto X14 d0_205 (pc' := 209) (by decide) ?_
              refine own_blk X14 B0_209_215 B0_209_215d (ls' := #[.val (.long q0), .second, .val (.int a1), .val (.int b1), .val (.int f1), .val (.int c1), .val (.int fl), .val (.long a), .second, .val (.long b), .second, .val (.int (0 : Int32)), .val (.int (1 : Int32)), s13, .val (.long f), .second, .val (.long q), .second, .val (.ref v), .val (.long (1 : Int64)), .second, .val (.long c2), .second, .val (.int (1 : Int32))]) (st' := [(.long q), (.ref v)]) rfl ?_
              refine own_callV X14 (hw _ (List.mem_of_getElem? (i := 47) rfl)) (hw _ (List.mem_of_getElem? (i := 48) rfl)) (hw _ (List.mem_of_getElem? (i := 50) rfl)) (hw _ (List.mem_of_getElem? (i := 49) rfl)) (hw _ (List.mem_of_getElem? (i := 4) rfl)) (hw _ (List.mem_of_getElem? (i := 51) rfl)) (by decide) (own_S_exa R14) (c_holds l Z a0 hw v q (1 : Int64) (1 : Int64) n14 (fun k => k = a.toInt ∨ k = b.toInt ∨ k = c2.toInt) h14 n0 X14.2.1 R14 (by decide) (by decide)) d0_215 [(.long q)] [] rfl rfl pd6 rfl rfl (by decide) (Nat.le_of_ble_eq_true rfl) (by decide) (by decide) (fun _ _ q => by obtain ⟨_, _, q2, _⟩ := q; rw [q2]; exact X14.2.1) (fun v20 h20 T20 X20 q20 => ?_)
              obtain ⟨z20, rfl, e20, hz20⟩ := q20
              rw [e20] at X20
              show own_G p e below (T20.setTop (mkF m 218 #[.val (.long q0), .second, .val (.int a1), .val (.int b1), .val (.int f1), .val (.int c1), .val (.int fl), .val (.long a), .second, .val (.long b), .second, .val (.int (0 : Int32)), .val (.int (1 : Int32)), s13, .val (.long f), .second, .val (.long q), .second, .val (.ref v), .val (.long (1 : Int64)), .second, .val (.long c2), .second, .val (.int (1 : Int32))] [(.int z20)])) _
              have hz20 : (z20.toInt = 1 ∧ 1 ≤ q.toInt ∧ (q.toInt = a.toInt ∨ q.toInt = b.toInt ∨ q.toInt = c2.toInt)) ∨ (z20.toInt = 0 ∧ ¬ (1 ≤ q.toInt ∧ (q.toInt = a.toInt ∨ q.toInt = b.toInt ∨ q.toInt = c2.toInt))) := hz20
              refine own_blk X20 B0_218_220 B0_218_220d (ls' := #[.val (.long q0), .second, .val (.int a1), .val (.int b1), .val (.int f1), .val (.int c1), .val (.int fl), .val (.long a), .second, .val (.long b), .second, .val (.int (0 : Int32)), .val (.int (1 : Int32)), s13, .val (.long f), .second, .val (.long q), .second, .val (.ref v), .val (.long (1 : Int64)), .second, .val (.long c2), .second, .val (.int (1 : Int32))]) (st' := [(.int (1 : Int32)), (.int z20)]) rfl ?_
              refine own_icmp X20 d0_220 (pc' := 227) (by decide) (fun (c220 : ¬ z20.toInt = 1) => by exfalso; omega) (fun c220 => ?_)
              have c220 : ¬ (¬ z20.toInt = 1) := c220
              refine own_blk X20 B0_223_224 B0_223_224d (ls' := #[.val (.long q0), .second, .val (.int a1), .val (.int b1), .val (.int f1), .val (.int c1), .val (.int fl), .val (.long a), .second, .val (.long b), .second, .val (.int (0 : Int32)), .val (.int (1 : Int32)), s13, .val (.long f), .second, .val (.long q), .second, .val (.ref v), .val (.long (1 : Int64)), .second, .val (.long c2), .second, .val (.int (1 : Int32))]) (st' := [(.int (1 : Int32))]) rfl ?_
              refine own_goto X20 d0_224 (pc' := 228) (by decide) ?_
              exact own_retN X20 (by simp) d0_228 (v' := (1 : Int32)) (rfl) (by decide) (by decide) (rfl)
            · have c187 : ¬ (1 ≤ q.toInt) := c187
              refine own_blk X14 B0_191_193 B0_191_193d (ls' := #[.val (.long q0), .second, .val (.int a1), .val (.int b1), .val (.int f1), .val (.int c1), .val (.int fl), .val (.long a), .second, .val (.long b), .second, .val (.int (0 : Int32)), .val (.int (1 : Int32)), s13, .val (.long f), .second, .val (.long q), .second, .val (.ref v), .val (.long (1 : Int64)), .second, .val (.long c2), .second, .unset]) (st' := [(.int (1 : Int32))]) rfl ?_
              refine own_if X14 d0_193 (pc' := 208) (by decide) (fun (c193 : (1 : Int) = 0) => by exfalso; omega) (fun c193 => ?_)
              have c193 : ¬ ((1 : Int) = 0) := c193
              refine own_blk X14 B0_196_200 B0_196_200d (ls' := #[.val (.long q0), .second, .val (.int a1), .val (.int b1), .val (.int f1), .val (.int c1), .val (.int fl), .val (.long a), .second, .val (.long b), .second, .val (.int (0 : Int32)), .val (.int (1 : Int32)), s13, .val (.long f), .second, .val (.long q), .second, .val (.ref v), .val (.long (1 : Int64)), .second, .val (.long c2), .second, .unset]) (st' := [(.long c2), (.long q)]) rfl ?_
              refine own_lif X14 d0_200 d0_201 (pc' := 208) (by decide) (fun c200 => ?_) (fun c200 => ?_)
              · have c200 : ¬ q.toInt = c2.toInt := c200
                refine own_blk X14 B0_208_215 B0_208_215d (ls' := #[.val (.long q0), .second, .val (.int a1), .val (.int b1), .val (.int f1), .val (.int c1), .val (.int fl), .val (.long a), .second, .val (.long b), .second, .val (.int (0 : Int32)), .val (.int (1 : Int32)), s13, .val (.long f), .second, .val (.long q), .second, .val (.ref v), .val (.long (1 : Int64)), .second, .val (.long c2), .second, .val (.int (0 : Int32))]) (st' := [(.long q), (.ref v)]) rfl ?_
                refine own_callV X14 (hw _ (List.mem_of_getElem? (i := 47) rfl)) (hw _ (List.mem_of_getElem? (i := 48) rfl)) (hw _ (List.mem_of_getElem? (i := 50) rfl)) (hw _ (List.mem_of_getElem? (i := 49) rfl)) (hw _ (List.mem_of_getElem? (i := 4) rfl)) (hw _ (List.mem_of_getElem? (i := 51) rfl)) (by decide) (own_S_exa R14) (c_holds l Z a0 hw v q (1 : Int64) (1 : Int64) n14 (fun k => k = a.toInt ∨ k = b.toInt ∨ k = c2.toInt) h14 n0 X14.2.1 R14 (by decide) (by decide)) d0_215 [(.long q)] [] rfl rfl pd6 rfl rfl (by decide) (Nat.le_of_ble_eq_true rfl) (by decide) (by decide) (fun _ _ q => by obtain ⟨_, _, q2, _⟩ := q; rw [q2]; exact X14.2.1) (fun v21 h21 T21 X21 q21 => ?_)
                obtain ⟨z21, rfl, e21, hz21⟩ := q21
                rw [e21] at X21
                show own_G p e below (T21.setTop (mkF m 218 #[.val (.long q0), .second, .val (.int a1), .val (.int b1), .val (.int f1), .val (.int c1), .val (.int fl), .val (.long a), .second, .val (.long b), .second, .val (.int (0 : Int32)), .val (.int (1 : Int32)), s13, .val (.long f), .second, .val (.long q), .second, .val (.ref v), .val (.long (1 : Int64)), .second, .val (.long c2), .second, .val (.int (0 : Int32))] [(.int z21)])) _
                have hz21 : (z21.toInt = 1 ∧ 1 ≤ q.toInt ∧ (q.toInt = a.toInt ∨ q.toInt = b.toInt ∨ q.toInt = c2.toInt)) ∨ (z21.toInt = 0 ∧ ¬ (1 ≤ q.toInt ∧ (q.toInt = a.toInt ∨ q.toInt = b.toInt ∨ q.toInt = c2.toInt))) := hz21
                refine own_blk X21 B0_218_220 B0_218_220d (ls' := #[.val (.long q0), .second, .val (.int a1), .val (.int b1), .val (.int f1), .val (.int c1), .val (.int fl), .val (.long a), .second, .val (.long b), .second, .val (.int (0 : Int32)), .val (.int (1 : Int32)), s13, .val (.long f), .second, .val (.long q), .second, .val (.ref v), .val (.long (1 : Int64)), .second, .val (.long c2), .second, .val (.int (0 : Int32))]) (st' := [(.int (0 : Int32)), (.int z21)]) rfl ?_
                refine own_icmp X21 d0_220 (pc' := 227) (by decide) (fun (c220 : ¬ z21.toInt = 0) => by exfalso; omega) (fun c220 => ?_)
                have c220 : ¬ (¬ z21.toInt = 0) := c220
                refine own_blk X21 B0_223_224 B0_223_224d (ls' := #[.val (.long q0), .second, .val (.int a1), .val (.int b1), .val (.int f1), .val (.int c1), .val (.int fl), .val (.long a), .second, .val (.long b), .second, .val (.int (0 : Int32)), .val (.int (1 : Int32)), s13, .val (.long f), .second, .val (.long q), .second, .val (.ref v), .val (.long (1 : Int64)), .second, .val (.long c2), .second, .val (.int (0 : Int32))]) (st' := [(.int (1 : Int32))]) rfl ?_
                refine own_goto X21 d0_224 (pc' := 228) (by decide) ?_
                exact own_retN X21 (by simp) d0_228 (v' := (1 : Int32)) (rfl) (by decide) (by decide) (rfl)
              · have c200 : ¬ (¬ q.toInt = c2.toInt) := c200
                refine own_blk X14 B0_204_205 B0_204_205d (ls' := #[.val (.long q0), .second, .val (.int a1), .val (.int b1), .val (.int f1), .val (.int c1), .val (.int fl), .val (.long a), .second, .val (.long b), .second, .val (.int (0 : Int32)), .val (.int (1 : Int32)), s13, .val (.long f), .second, .val (.long q), .second, .val (.ref v), .val (.long (1 : Int64)), .second, .val (.long c2), .second, .unset]) (st' := [(.int (1 : Int32))]) rfl ?_
                refine own_goto X14 d0_205 (pc' := 209) (by decide) ?_
                refine own_blk X14 B0_209_215 B0_209_215d (ls' := #[.val (.long q0), .second, .val (.int a1), .val (.int b1), .val (.int f1), .val (.int c1), .val (.int fl), .val (.long a), .second, .val (.long b), .second, .val (.int (0 : Int32)), .val (.int (1 : Int32)), s13, .val (.long f), .second, .val (.long q), .second, .val (.ref v), .val (.long (1 : Int64)), .second, .val (.long c2), .second, .val (.int (1 : Int32))]) (st' := [(.long q), (.ref v)]) rfl ?_
                refine own_callV X14 (hw _ (List.mem_of_getElem? (i := 47) rfl)) (hw _ (List.mem_of_getElem? (i := 48) rfl)) (hw _ (List.mem_of_getElem? (i := 50) rfl)) (hw _ (List.mem_of_getElem? (i := 49) rfl)) (hw _ (List.mem_of_getElem? (i := 4) rfl)) (hw _ (List.mem_of_getElem? (i := 51) rfl)) (by decide) (own_S_exa R14) (c_holds l Z a0 hw v q (1 : Int64) (1 : Int64) n14 (fun k => k = a.toInt ∨ k = b.toInt ∨ k = c2.toInt) h14 n0 X14.2.1 R14 (by decide) (by decide)) d0_215 [(.long q)] [] rfl rfl pd6 rfl rfl (by decide) (Nat.le_of_ble_eq_true rfl) (by decide) (by decide) (fun _ _ q => by obtain ⟨_, _, q2, _⟩ := q; rw [q2]; exact X14.2.1) (fun v22 h22 T22 X22 q22 => ?_)
                obtain ⟨z22, rfl, e22, hz22⟩ := q22
                rw [e22] at X22
                show own_G p e below (T22.setTop (mkF m 218 #[.val (.long q0), .second, .val (.int a1), .val (.int b1), .val (.int f1), .val (.int c1), .val (.int fl), .val (.long a), .second, .val (.long b), .second, .val (.int (0 : Int32)), .val (.int (1 : Int32)), s13, .val (.long f), .second, .val (.long q), .second, .val (.ref v), .val (.long (1 : Int64)), .second, .val (.long c2), .second, .val (.int (1 : Int32))] [(.int z22)])) _
                have hz22 : (z22.toInt = 1 ∧ 1 ≤ q.toInt ∧ (q.toInt = a.toInt ∨ q.toInt = b.toInt ∨ q.toInt = c2.toInt)) ∨ (z22.toInt = 0 ∧ ¬ (1 ≤ q.toInt ∧ (q.toInt = a.toInt ∨ q.toInt = b.toInt ∨ q.toInt = c2.toInt))) := hz22
                refine own_blk X22 B0_218_220 B0_218_220d (ls' := #[.val (.long q0), .second, .val (.int a1), .val (.int b1), .val (.int f1), .val (.int c1), .val (.int fl), .val (.long a), .second, .val (.long b), .second, .val (.int (0 : Int32)), .val (.int (1 : Int32)), s13, .val (.long f), .second, .val (.long q), .second, .val (.ref v), .val (.long (1 : Int64)), .second, .val (.long c2), .second, .val (.int (1 : Int32))]) (st' := [(.int (1 : Int32)), (.int z22)]) rfl ?_
                refine own_icmp X22 d0_220 (pc' := 227) (by decide) (fun (c220 : ¬ z22.toInt = 1) => by exfalso; omega) (fun c220 => ?_)
                have c220 : ¬ (¬ z22.toInt = 1) := c220
                refine own_blk X22 B0_223_224 B0_223_224d (ls' := #[.val (.long q0), .second, .val (.int a1), .val (.int b1), .val (.int f1), .val (.int c1), .val (.int fl), .val (.long a), .second, .val (.long b), .second, .val (.int (0 : Int32)), .val (.int (1 : Int32)), s13, .val (.long f), .second, .val (.long q), .second, .val (.ref v), .val (.long (1 : Int64)), .second, .val (.long c2), .second, .val (.int (1 : Int32))]) (st' := [(.int (1 : Int32))]) rfl ?_
                refine own_goto X22 d0_224 (pc' := 228) (by decide) ?_
                exact own_retN X22 (by simp) d0_228 (v' := (1 : Int32)) (rfl) (by decide) (by decide) (rfl)
      refine own_blk X0 B0_46_50 B0_46_50d (ls' := #[.val (.long q0), .second, .val (.int a1), .val (.int b1), .val (.int f1), .val (.int c1), .val (.int fl), .val (.long a), .second, .val (.long b), .second, .val (.int (0 : Int32)), .val (.int (1 : Int32)), .unset, .unset, .unset, .unset, .unset, .unset, .unset, .unset, .unset, .unset, .unset]) (st' := [(.int (fl &&& (4 : Int32)))]) rfl ?_
      refine own_if X0 d0_50 (pc' := 57) (by decide) (fun c50 => ?_) (fun c50 => ?_)
      · have c50 : (fl &&& (4 : Int32)).toInt = 0 := c50
        refine own_blk X0 B0_57_71 B0_57_71d (ls' := #[.val (.long q0), .second, .val (.int a1), .val (.int b1), .val (.int f1), .val (.int c1), .val (.int fl), .val (.long a), .second, .val (.long b), .second, .val (.int (0 : Int32)), .val (.int (1 : Int32)), .val (.int (0 : Int32)), .val (.long ((f1 &&& (255 : Int32)).toInt64)), .second, .unset, .unset, .unset, .unset, .unset, .unset, .unset, .unset]) (st' := [(.int (0 : Int32))]) rfl ?_
        refine own_if X0 d0_71 (pc' := 78) (by decide) (fun c71 => ?_) (fun (c71 : ¬ ((0 : Int) = 0)) => by exfalso; omega)
        have c71 : (0 : Int) = 0 := c71
        refine own_blk X0 B0_78_79 B0_78_79d (ls' := #[.val (.long q0), .second, .val (.int a1), .val (.int b1), .val (.int f1), .val (.int c1), .val (.int fl), .val (.long a), .second, .val (.long b), .second, .val (.int (0 : Int32)), .val (.int (1 : Int32)), .val (.int (0 : Int32)), .val (.long ((f1 &&& (255 : Int32)).toInt64)), .second, .unset, .unset, .unset, .unset, .unset, .unset, .unset, .unset]) (st' := [(.long q0)]) rfl ?_
        refine own_ldc2 X0 (hw _ (List.mem_of_getElem? (i := 0) rfl)) d0_79 ?_
        refine own_blk X0 B0_82_83 B0_82_83d (ls' := #[.val (.long q0), .second, .val (.int a1), .val (.int b1), .val (.int f1), .val (.int c1), .val (.int fl), .val (.long a), .second, .val (.long b), .second, .val (.int (0 : Int32)), .val (.int (1 : Int32)), .val (.int (0 : Int32)), .val (.long ((f1 &&& (255 : Int32)).toInt64)), .second, .unset, .unset, .unset, .unset, .unset, .unset, .unset, .unset]) (st' := [(.long (q0 &&& (511 : Int64)))]) rfl ?_
        refine own_ldc2 X0 (hw _ (List.mem_of_getElem? (i := 1) rfl)) d0_83 ?_
        refine own_blk X0 B0_86_87 B0_86_87d (ls' := #[.val (.long q0), .second, .val (.int a1), .val (.int b1), .val (.int f1), .val (.int c1), .val (.int fl), .val (.long a), .second, .val (.long b), .second, .val (.int (0 : Int32)), .val (.int (1 : Int32)), .val (.int (0 : Int32)), .val (.long ((f1 &&& (255 : Int32)).toInt64)), .second, .unset, .unset, .unset, .unset, .unset, .unset, .unset, .unset]) (st' := [(.long ((q0 &&& (511 : Int64)) - (8 : Int64)))]) rfl ?_
        exact J87 _ _
      · have c50 : ¬ ((fl &&& (4 : Int32)).toInt = 0) := c50
        refine own_blk X0 B0_53_54 B0_53_54d (ls' := #[.val (.long q0), .second, .val (.int a1), .val (.int b1), .val (.int f1), .val (.int c1), .val (.int fl), .val (.long a), .second, .val (.long b), .second, .val (.int (0 : Int32)), .val (.int (1 : Int32)), .unset, .unset, .unset, .unset, .unset, .unset, .unset, .unset, .unset, .unset, .unset]) (st' := [(.int (1 : Int32))]) rfl ?_
        refine own_goto X0 d0_54 (pc' := 58) (by decide) ?_
        refine own_blk X0 B0_58_71 B0_58_71d (ls' := #[.val (.long q0), .second, .val (.int a1), .val (.int b1), .val (.int f1), .val (.int c1), .val (.int fl), .val (.long a), .second, .val (.long b), .second, .val (.int (0 : Int32)), .val (.int (1 : Int32)), .val (.int (1 : Int32)), .val (.long ((f1 &&& (255 : Int32)).toInt64)), .second, .unset, .unset, .unset, .unset, .unset, .unset, .unset, .unset]) (st' := [(.int (1 : Int32))]) rfl ?_
        refine own_if X0 d0_71 (pc' := 78) (by decide) (fun (c71 : (1 : Int) = 0) => by exfalso; omega) (fun c71 => ?_)
        have c71 : ¬ ((1 : Int) = 0) := c71
        refine own_blk X0 B0_74_75 B0_74_75d (ls' := #[.val (.long q0), .second, .val (.int a1), .val (.int b1), .val (.int f1), .val (.int c1), .val (.int fl), .val (.long a), .second, .val (.long b), .second, .val (.int (0 : Int32)), .val (.int (1 : Int32)), .val (.int (1 : Int32)), .val (.long ((f1 &&& (255 : Int32)).toInt64)), .second, .unset, .unset, .unset, .unset, .unset, .unset, .unset, .unset]) (st' := [(.long q0)]) rfl ?_
        refine own_goto X0 d0_75 (pc' := 87) (by decide) ?_
        exact J87 _ _
  · have c22 : ¬ ((fl &&& (1 : Int32)).toInt = 0) := c22
    refine own_blk X0 B0_25_26 B0_25_26d (ls' := #[.val (.long q0), .second, .val (.int a1), .val (.int b1), .val (.int f1), .val (.int c1), .val (.int fl), .val (.long a), .second, .val (.long b), .second, .unset, .unset, .unset, .unset, .unset, .unset, .unset, .unset, .unset, .unset, .unset, .unset, .unset]) (st' := [(.int (1 : Int32))]) rfl ?_
    refine own_goto X0 d0_26 (pc' := 30) (by decide) ?_
    refine own_blk X0 B0_30_36 B0_30_36d (ls' := #[.val (.long q0), .second, .val (.int a1), .val (.int b1), .val (.int f1), .val (.int c1), .val (.int fl), .val (.long a), .second, .val (.long b), .second, .val (.int (1 : Int32)), .unset, .unset, .unset, .unset, .unset, .unset, .unset, .unset, .unset, .unset, .unset, .unset]) (st' := [(.int (fl &&& (2 : Int32)))]) rfl ?_
    refine own_if X0 d0_36 (pc' := 43) (by decide) (fun c36 => ?_) (fun c36 => ?_)
    · have c36 : (fl &&& (2 : Int32)).toInt = 0 := c36
      refine own_blk X0 B0_43_46 B0_43_46d (ls' := #[.val (.long q0), .second, .val (.int a1), .val (.int b1), .val (.int f1), .val (.int c1), .val (.int fl), .val (.long a), .second, .val (.long b), .second, .val (.int (1 : Int32)), .val (.int (0 : Int32)), .unset, .unset, .unset, .unset, .unset, .unset, .unset, .unset, .unset, .unset, .unset]) (st' := []) rfl ?_
      have J87 : ∀ (q : Int64) (s13 : Slot), own_G p e below (T0.setTop (mkF m 87 #[.val (.long q0), .second, .val (.int a1), .val (.int b1), .val (.int f1), .val (.int c1), .val (.int fl), .val (.long a), .second, .val (.long b), .second, .val (.int (1 : Int32)), .val (.int (0 : Int32)), s13, .val (.long ((f1 &&& (255 : Int32)).toInt64)), .second, .unset, .unset, .unset, .unset, .unset, .unset, .unset, .unset] [.long q])) (own_E s n0 (fun v h => v = some (.int 1)) room_1.cells room_1.slots) := by
        intro q s13
        refine own_blk X0 B0_87_89 B0_87_89d (ls' := #[.val (.long q0), .second, .val (.int a1), .val (.int b1), .val (.int f1), .val (.int c1), .val (.int fl), .val (.long a), .second, .val (.long b), .second, .val (.int (1 : Int32)), .val (.int (0 : Int32)), s13, .val (.long ((f1 &&& (255 : Int32)).toInt64)), .second, .val (.long q), .second, .unset, .unset, .unset, .unset, .unset, .unset]) (st' := []) rfl ?_
        generalize ef : ((f1 &&& (255 : Int32)).toInt64) = f
        have hf : 0 ≤ f.toInt ∧ f.toInt ≤ 255 := by rw [← ef, Jvm.Kit.i64_of_i32, own_m255]; omega
        refine own_newO X0 (hw _ (List.mem_of_getElem? (i := 2) rfl)) (hw _ (List.mem_of_getElem? (i := 3) rfl)) (hw _ (List.mem_of_getElem? (i := 4) rfl)) d0_89 (by decide) (by decide) (fun h23 T23 X23 E23 Q23 D23 => ?_)
        have n_v : n0 ≤ h0.size := X0.2.1
        have F23_base : Fld Z h23 h0.size "lonewatch/model/InstanceValues" "base" "J" (.long (0 : Int64)) := D23 (Or.inl (hw _ (List.mem_of_getElem? (i := 12) rfl))) (ty := .long) (by decide)
        have F23_kept : Fld Z h23 h0.size "lonewatch/model/InstanceValues" "kept" "J" (.long (0 : Int64)) := D23 (Or.inl (hw _ (List.mem_of_getElem? (i := 14) rfl))) (ty := .long) (by decide)
        have F23_values : Fld Z h23 h0.size "lonewatch/model/InstanceValues" "values" "[J" .null := D23 (Or.inl (hw _ (List.mem_of_getElem? (i := 17) rfl))) (ty := (.array .long)) (by decide)
        have F23_held : Fld Z h23 h0.size "lonewatch/model/InstanceValues" "held" "[Z" .null := D23 (Or.inl (hw _ (List.mem_of_getElem? (i := 20) rfl))) (ty := (.array .boolean)) (by decide)
        have F23_size : Fld Z h23 h0.size "lonewatch/model/InstanceValues" "size" "I" (.int (0 : Int32)) := D23 (Or.inl (hw _ (List.mem_of_getElem? (i := 45) rfl))) (ty := .int) (by decide)
        have F23_view : Fld Z h23 h0.size "lonewatch/model/InstanceValues" "view" "Ljava/util/Map;" .null := D23 (Or.inr (hw _ (List.mem_of_getElem? (i := 36) rfl))) (ty := (.object "java/util/Map")) (by decide)
        clear D23
        generalize ez_v : h0.size = v at Q23 n_v F23_base F23_kept F23_values F23_held F23_size F23_view ⊢
        show own_G p e below (T23.setTop (mkF m 92 #[.val (.long q0), .second, .val (.int a1), .val (.int b1), .val (.int f1), .val (.int c1), .val (.int fl), .val (.long a), .second, .val (.long b), .second, .val (.int (1 : Int32)), .val (.int (0 : Int32)), s13, .val (.long f), .second, .val (.long q), .second, .unset, .unset, .unset, .unset, .unset, .unset] [(.ref v)])) _
        refine own_blk X23 B0_92_93 B0_92_93d (ls' := #[.val (.long q0), .second, .val (.int a1), .val (.int b1), .val (.int f1), .val (.int c1), .val (.int fl), .val (.long a), .second, .val (.long b), .second, .val (.int (1 : Int32)), .val (.int (0 : Int32)), s13, .val (.long f), .second, .val (.long q), .second, .unset, .unset, .unset, .unset, .unset, .unset]) (st' := [(.ref v), (.ref v)]) rfl ?_
        refine own_callN X23 rfl (hw _ (List.mem_of_getElem? (i := 5) rfl)) (hw _ (List.mem_of_getElem? (i := 6) rfl)) (hw _ (List.mem_of_getElem? (i := 4) rfl)) (hw _ (List.mem_of_getElem? (i := 7) rfl)) (by decide) (c_init l Z a0 hw v h23 n0 X23.2.1 n_v Q23 F23_base F23_kept F23_values F23_held F23_size F23_view) d0_93 [] [(.ref v)] rfl rfl pd1 rfl rfl (by decide) (Nat.le_of_ble_eq_true rfl) (by decide) (by decide) (fun _ _ q => q.2.1) (fun v24 h24 T24 X24 q24 => ?_)
        obtain ⟨rfl, _, S24⟩ := q24
        show own_G p e below (T24.setTop (mkF m 96 #[.val (.long q0), .second, .val (.int a1), .val (.int b1), .val (.int f1), .val (.int c1), .val (.int fl), .val (.long a), .second, .val (.long b), .second, .val (.int (1 : Int32)), .val (.int (0 : Int32)), s13, .val (.long f), .second, .val (.long q), .second, .unset, .unset, .unset, .unset, .unset, .unset] [(.ref v)])) _
        refine own_blk X24 B0_96_102 B0_96_102d (ls' := #[.val (.long q0), .second, .val (.int a1), .val (.int b1), .val (.int f1), .val (.int c1), .val (.int fl), .val (.long a), .second, .val (.long b), .second, .val (.int (1 : Int32)), .val (.int (0 : Int32)), s13, .val (.long f), .second, .val (.long q), .second, .val (.ref v), .unset, .unset, .unset, .unset, .unset]) (st' := [(.long a), (.ref v)]) rfl ?_
        refine own_ldc2 X24 (hw _ (List.mem_of_getElem? (i := 37) rfl)) d0_102 ?_
        refine own_callV X24 (hw _ (List.mem_of_getElem? (i := 38) rfl)) (hw _ (List.mem_of_getElem? (i := 39) rfl)) (hw _ (List.mem_of_getElem? (i := 41) rfl)) (hw _ (List.mem_of_getElem? (i := 40) rfl)) (hw _ (List.mem_of_getElem? (i := 4) rfl)) (hw _ (List.mem_of_getElem? (i := 42) rfl)) (by decide) (own_S_exa S24) (c_put64 l Z a0 hw v a (7 : Int64) (1 : Int64) (1 : Int64) 16 (fun _ => False) h24 n0 X24.2.1 S24 (by decide) (by decide) ha.1 (by show _ - (1 : Int) < _; omega) (by omega) (by decide) (by decide)) d0_105 [(.long a), (.long (7 : Int64))] [] rfl rfl pd5 rfl rfl (by decide) (Nat.le_of_ble_eq_true rfl) (by decide) (by decide) (fun _ _ q => q.2.1) (fun v25 h25 T25 X25 q25 => ?_)
        obtain ⟨rfl, _, n25, hl25, hu25, S25⟩ := q25
        show own_G p e below (T25.setTop (mkF m 108 #[.val (.long q0), .second, .val (.int a1), .val (.int b1), .val (.int f1), .val (.int c1), .val (.int fl), .val (.long a), .second, .val (.long b), .second, .val (.int (1 : Int32)), .val (.int (0 : Int32)), s13, .val (.long f), .second, .val (.long q), .second, .val (.ref v), .unset, .unset, .unset, .unset, .unset] [])) _
        have R25 : own_S Z h25 n0 v (1 : Int64) (1 : Int64) n25 (fun k => k = a.toInt) := own_S_iff S25 (fun k => by simp)
        refine own_blk X25 B0_108_112 B0_108_112d (ls' := #[.val (.long q0), .second, .val (.int a1), .val (.int b1), .val (.int f1), .val (.int c1), .val (.int fl), .val (.long a), .second, .val (.long b), .second, .val (.int (1 : Int32)), .val (.int (0 : Int32)), s13, .val (.long f), .second, .val (.long q), .second, .val (.ref v), .unset, .unset, .unset, .unset, .unset]) (st' := [(.long b), (.ref v)]) rfl ?_
        refine own_ldc2 X25 (hw _ (List.mem_of_getElem? (i := 46) rfl)) d0_112 ?_
        refine own_callV X25 (hw _ (List.mem_of_getElem? (i := 38) rfl)) (hw _ (List.mem_of_getElem? (i := 39) rfl)) (hw _ (List.mem_of_getElem? (i := 41) rfl)) (hw _ (List.mem_of_getElem? (i := 40) rfl)) (hw _ (List.mem_of_getElem? (i := 4) rfl)) (hw _ (List.mem_of_getElem? (i := 42) rfl)) (by decide) (own_S_exa R25) (c_put128 l Z a0 hw v b (9 : Int64) (1 : Int64) (1 : Int64) n25 (fun k => k = a.toInt) h25 n0 X25.2.1 R25 (by decide) (by decide) hb.1 (by show _ - (1 : Int) < _; omega) (by omega) (by omega) hl25) d0_115 [(.long b), (.long (9 : Int64))] [] rfl rfl pd5 rfl rfl (by decide) (Nat.le_of_ble_eq_true rfl) (by decide) (by decide) (fun _ _ q => q.2.1) (fun v26 h26 T26 X26 q26 => ?_)
        obtain ⟨rfl, _, n26, hl26, hu26, S26⟩ := q26
        show own_G p e below (T26.setTop (mkF m 118 #[.val (.long q0), .second, .val (.int a1), .val (.int b1), .val (.int f1), .val (.int c1), .val (.int fl), .val (.long a), .second, .val (.long b), .second, .val (.int (1 : Int32)), .val (.int (0 : Int32)), s13, .val (.long f), .second, .val (.long q), .second, .val (.ref v), .unset, .unset, .unset, .unset, .unset] [])) _
        have R26 : own_S Z h26 n0 v (1 : Int64) (1 : Int64) n26 (fun k => k = a.toInt ∨ k = b.toInt) := own_S_iff S26 (fun k => by simp)
        refine own_blk X26 B0_118_123 B0_118_123d (ls' := #[.val (.long q0), .second, .val (.int a1), .val (.int b1), .val (.int f1), .val (.int c1), .val (.int fl), .val (.long a), .second, .val (.long b), .second, .val (.int (1 : Int32)), .val (.int (0 : Int32)), s13, .val (.long f), .second, .val (.long q), .second, .val (.ref v), .val (.long (1 : Int64)), .second, .unset, .unset, .unset]) (st' := [(.int (1 : Int32))]) rfl ?_
        refine own_if X26 d0_123 (pc' := 141) (by decide) (fun (c123 : (1 : Int) = 0) => by exfalso; omega) (fun c123 => ?_)
        have c123 : ¬ ((1 : Int) = 0) := c123
        refine own_blk X26 B0_126_130 B0_126_130d (ls' := #[.val (.long q0), .second, .val (.int a1), .val (.int b1), .val (.int f1), .val (.int c1), .val (.int fl), .val (.long a), .second, .val (.long b), .second, .val (.int (1 : Int32)), .val (.int (0 : Int32)), s13, .val (.long f), .second, .val (.long q), .second, .val (.ref v), .val (.long (1 : Int64)), .second, .unset, .unset, .unset]) (st' := [(.long f), (.ref v)]) rfl ?_
        refine own_callV X26 (hw _ (List.mem_of_getElem? (i := 52) rfl)) (hw _ (List.mem_of_getElem? (i := 53) rfl)) (hw _ (List.mem_of_getElem? (i := 55) rfl)) (hw _ (List.mem_of_getElem? (i := 54) rfl)) (hw _ (List.mem_of_getElem? (i := 4) rfl)) (hw _ (List.mem_of_getElem? (i := 56) rfl)) (by decide) (own_S_exa R26) (c_forget l Z a0 hw v f n26 (fun k => k = a.toInt ∨ k = b.toInt) h26 n0 X26.2.1 R26 hf hl26 (by omega)) d0_130 [(.long f)] [] rfl rfl pd7 rfl rfl (by decide) (Nat.le_of_ble_eq_true rfl) (by decide) (by decide) (fun _ _ q => q.2.1) (fun v27 h27 T27 X27 q27 => ?_)
        obtain ⟨rfl, _, B27, K27, n27, hl27, hu27, hB27, hBK27, eK27, S27⟩ := q27
        show own_G p e below (T27.setTop (mkF m 133 #[.val (.long q0), .second, .val (.int a1), .val (.int b1), .val (.int f1), .val (.int c1), .val (.int fl), .val (.long a), .second, .val (.long b), .second, .val (.int (1 : Int32)), .val (.int (0 : Int32)), s13, .val (.long f), .second, .val (.long q), .second, .val (.ref v), .val (.long (1 : Int64)), .second, .unset, .unset, .unset] [])) _
        have hKf : K27.toInt ≤ 255 := by rw [eK27]; unfold own_maxJ; split; exact hf.2; decide
        refine own_blk X27 B0_133_136 B0_133_136d (ls' := #[.val (.long q0), .second, .val (.int a1), .val (.int b1), .val (.int f1), .val (.int c1), .val (.int fl), .val (.long a), .second, .val (.long b), .second, .val (.int (1 : Int32)), .val (.int (0 : Int32)), s13, .val (.long f), .second, .val (.long q), .second, .val (.ref v), .val (.long (1 : Int64)), .second, .unset, .unset, .unset]) (st' := [(.long f), (.long (1 : Int64))]) rfl ?_
        refine own_callP X27 (hw _ (List.mem_of_getElem? (i := 64) rfl)) (hw _ (List.mem_of_getElem? (i := 62) rfl)) (hw _ (List.mem_of_getElem? (i := 59) rfl)) (hw _ (List.mem_of_getElem? (i := 63) rfl)) (by decide) (c_maxJ l Z a0 hw (1 : Int64) f h27 n0 X27.2.1) d0_136 [(.long (1 : Int64)), (.long f)] [] rfl rfl pd9 rfl rfl (by decide) (Nat.le_of_ble_eq_true rfl) (by decide) (by decide) (fun T28 X28 => ?_)
        show own_G p e below (T28.setTop (mkF m 139 #[.val (.long q0), .second, .val (.int a1), .val (.int b1), .val (.int f1), .val (.int c1), .val (.int fl), .val (.long a), .second, .val (.long b), .second, .val (.int (1 : Int32)), .val (.int (0 : Int32)), s13, .val (.long f), .second, .val (.long q), .second, .val (.ref v), .val (.long (1 : Int64)), .second, .unset, .unset, .unset] [(.long (own_maxJ (1 : Int64) f))])) _
        refine own_blk X28 B0_139_152 B0_139_152d (ls' := #[.val (.long q0), .second, .val (.int a1), .val (.int b1), .val (.int f1), .val (.int c1), .val (.int fl), .val (.long a), .second, .val (.long b), .second, .val (.int (1 : Int32)), .val (.int (0 : Int32)), s13, .val (.long f), .second, .val (.long q), .second, .val (.ref v), .val (.long (own_maxJ (1 : Int64) f)), .second, .val (.long ((own_maxJ (1 : Int64) f) + ((c1 &&& (127 : Int32)).toInt64))), .second, .unset]) (st' := []) rfl ?_
        rw [← eK27]
        generalize ec2 : (K27 + ((c1 &&& (127 : Int32)).toInt64)) = c2
        have hc2 : K27.toInt ≤ c2.toInt ∧ c2.toInt ≤ K27.toInt + 127 := by
          have e0 := own_mask c1 127 7 (by decide) (by decide)
          have e1 := Jvm.Kit.i64_of_i32 (c1 &&& 127)
          rw [← ec2, Jvm.Kit.i64_add (by rw [e1]; omega) (by rw [e1]; omega), e1]
          omega
        refine own_blk X28 B0_152_154 B0_152_154d (ls' := #[.val (.long q0), .second, .val (.int a1), .val (.int b1), .val (.int f1), .val (.int c1), .val (.int fl), .val (.long a), .second, .val (.long b), .second, .val (.int (1 : Int32)), .val (.int (0 : Int32)), s13, .val (.long f), .second, .val (.long q), .second, .val (.ref v), .val (.long K27), .second, .val (.long c2), .second, .unset]) (st' := [(.int (0 : Int32))]) rfl ?_
        refine own_if X28 d0_154 (pc' := 167) (by decide) (fun c154 => ?_) (fun (c154 : ¬ ((0 : Int) = 0)) => by exfalso; omega)
        have c154 : (0 : Int) = 0 := c154
        refine own_blk X28 B0_167_171 B0_167_171d (ls' := #[.val (.long q0), .second, .val (.int a1), .val (.int b1), .val (.int f1), .val (.int c1), .val (.int fl), .val (.long a), .second, .val (.long b), .second, .val (.int (1 : Int32)), .val (.int (0 : Int32)), s13, .val (.long f), .second, .val (.long q), .second, .val (.ref v), .val (.long K27), .second, .val (.long c2), .second, .unset]) (st' := [(.long a), (.long q)]) rfl ?_
        refine own_lif X28 d0_171 d0_172 (pc' := 183) (by decide) (fun c171 => ?_) (fun c171 => ?_)
        · have c171 : q.toInt = a.toInt := c171
          refine own_blk X28 B0_183_187 B0_183_187d (ls' := #[.val (.long q0), .second, .val (.int a1), .val (.int b1), .val (.int f1), .val (.int c1), .val (.int fl), .val (.long a), .second, .val (.long b), .second, .val (.int (1 : Int32)), .val (.int (0 : Int32)), s13, .val (.long f), .second, .val (.long q), .second, .val (.ref v), .val (.long K27), .second, .val (.long c2), .second, .unset]) (st' := [(.long K27), (.long q)]) rfl ?_
          refine own_lif X28 d0_187 d0_188 (pc' := 204) (by decide) (fun c187 => ?_) (fun c187 => ?_)
          · have c187 : K27.toInt ≤ q.toInt := c187
            refine own_blk X28 B0_204_205 B0_204_205d (ls' := #[.val (.long q0), .second, .val (.int a1), .val (.int b1), .val (.int f1), .val (.int c1), .val (.int fl), .val (.long a), .second, .val (.long b), .second, .val (.int (1 : Int32)), .val (.int (0 : Int32)), s13, .val (.long f), .second, .val (.long q), .second, .val (.ref v), .val (.long K27), .second, .val (.long c2), .second, .unset]) (st' := [(.int (1 : Int32))]) rfl ?_
            refine own_goto X28 d0_205 (pc' := 209) (by decide) ?_
            refine own_blk X28 B0_209_215 B0_209_215d (ls' := #[.val (.long q0), .second, .val (.int a1), .val (.int b1), .val (.int f1), .val (.int c1), .val (.int fl), .val (.long a), .second, .val (.long b), .second, .val (.int (1 : Int32)), .val (.int (0 : Int32)), s13, .val (.long f), .second, .val (.long q), .second, .val (.ref v), .val (.long K27), .second, .val (.long c2), .second, .val (.int (1 : Int32))]) (st' := [(.long q), (.ref v)]) rfl ?_
            refine own_callV X28 (hw _ (List.mem_of_getElem? (i := 47) rfl)) (hw _ (List.mem_of_getElem? (i := 48) rfl)) (hw _ (List.mem_of_getElem? (i := 50) rfl)) (hw _ (List.mem_of_getElem? (i := 49) rfl)) (hw _ (List.mem_of_getElem? (i := 4) rfl)) (hw _ (List.mem_of_getElem? (i := 51) rfl)) (by decide) (own_S_exa S27) (c_holds l Z a0 hw v q B27 K27 n27 (fun k => k = a.toInt ∨ k = b.toInt) h27 n0 X28.2.1 S27 hB27 hBK27) d0_215 [(.long q)] [] rfl rfl pd6 rfl rfl (by decide) (Nat.le_of_ble_eq_true rfl) (by decide) (by decide) (fun _ _ q => by obtain ⟨_, _, q2, _⟩ := q; rw [q2]; exact X28.2.1) (fun v29 h29 T29 X29 q29 => ?_)
            obtain ⟨z29, rfl, e29, hz29⟩ := q29
            rw [e29] at X29
            show own_G p e below (T29.setTop (mkF m 218 #[.val (.long q0), .second, .val (.int a1), .val (.int b1), .val (.int f1), .val (.int c1), .val (.int fl), .val (.long a), .second, .val (.long b), .second, .val (.int (1 : Int32)), .val (.int (0 : Int32)), s13, .val (.long f), .second, .val (.long q), .second, .val (.ref v), .val (.long K27), .second, .val (.long c2), .second, .val (.int (1 : Int32))] [(.int z29)])) _
            have hz29 : (z29.toInt = 1 ∧ K27.toInt ≤ q.toInt ∧ (q.toInt = a.toInt ∨ q.toInt = b.toInt)) ∨ (z29.toInt = 0 ∧ ¬ (K27.toInt ≤ q.toInt ∧ (q.toInt = a.toInt ∨ q.toInt = b.toInt))) := hz29
            refine own_blk X29 B0_218_220 B0_218_220d (ls' := #[.val (.long q0), .second, .val (.int a1), .val (.int b1), .val (.int f1), .val (.int c1), .val (.int fl), .val (.long a), .second, .val (.long b), .second, .val (.int (1 : Int32)), .val (.int (0 : Int32)), s13, .val (.long f), .second, .val (.long q), .second, .val (.ref v), .val (.long K27), .second, .val (.long c2), .second, .val (.int (1 : Int32))]) (st' := [(.int (1 : Int32)), (.int z29)]) rfl ?_
            refine own_icmp X29 d0_220 (pc' := 227) (by decide) (fun (c220 : ¬ z29.toInt = 1) => by exfalso; omega) (fun c220 => ?_)
            have c220 : ¬ (¬ z29.toInt = 1) := c220
            refine own_blk X29 B0_223_224 B0_223_224d (ls' := #[.val (.long q0), .second, .val (.int a1), .val (.int b1), .val (.int f1), .val (.int c1), .val (.int fl), .val (.long a), .second, .val (.long b), .second, .val (.int (1 : Int32)), .val (.int (0 : Int32)), s13, .val (.long f), .second, .val (.long q), .second, .val (.ref v), .val (.long K27), .second, .val (.long c2), .second, .val (.int (1 : Int32))]) (st' := [(.int (1 : Int32))]) rfl ?_
            refine own_goto X29 d0_224 (pc' := 228) (by decide) ?_
            exact own_retN X29 (by simp) d0_228 (v' := (1 : Int32)) (rfl) (by decide) (by decide) (rfl)
          · have c187 : ¬ (K27.toInt ≤ q.toInt) := c187
            refine own_blk X28 B0_191_193 B0_191_193d (ls' := #[.val (.long q0), .second, .val (.int a1), .val (.int b1), .val (.int f1), .val (.int c1), .val (.int fl), .val (.long a), .second, .val (.long b), .second, .val (.int (1 : Int32)), .val (.int (0 : Int32)), s13, .val (.long f), .second, .val (.long q), .second, .val (.ref v), .val (.long K27), .second, .val (.long c2), .second, .unset]) (st' := [(.int (0 : Int32))]) rfl ?_
            refine own_if X28 d0_193 (pc' := 208) (by decide) (fun c193 => ?_) (fun (c193 : ¬ ((0 : Int) = 0)) => by exfalso; omega)
            have c193 : (0 : Int) = 0 := c193
            refine own_blk X28 B0_208_215 B0_208_215d (ls' := #[.val (.long q0), .second, .val (.int a1), .val (.int b1), .val (.int f1), .val (.int c1), .val (.int fl), .val (.long a), .second, .val (.long b), .second, .val (.int (1 : Int32)), .val (.int (0 : Int32)), s13, .val (.long f), .second, .val (.long q), .second, .val (.ref v), .val (.long K27), .second, .val (.long c2), .second, .val (.int (0 : Int32))]) (st' := [(.long q), (.ref v)]) rfl ?_
            refine own_callV X28 (hw _ (List.mem_of_getElem? (i := 47) rfl)) (hw _ (List.mem_of_getElem? (i := 48) rfl)) (hw _ (List.mem_of_getElem? (i := 50) rfl)) (hw _ (List.mem_of_getElem? (i := 49) rfl)) (hw _ (List.mem_of_getElem? (i := 4) rfl)) (hw _ (List.mem_of_getElem? (i := 51) rfl)) (by decide) (own_S_exa S27) (c_holds l Z a0 hw v q B27 K27 n27 (fun k => k = a.toInt ∨ k = b.toInt) h27 n0 X28.2.1 S27 hB27 hBK27) d0_215 [(.long q)] [] rfl rfl pd6 rfl rfl (by decide) (Nat.le_of_ble_eq_true rfl) (by decide) (by decide) (fun _ _ q => by obtain ⟨_, _, q2, _⟩ := q; rw [q2]; exact X28.2.1) (fun v30 h30 T30 X30 q30 => ?_)
            obtain ⟨z30, rfl, e30, hz30⟩ := q30
            rw [e30] at X30
            show own_G p e below (T30.setTop (mkF m 218 #[.val (.long q0), .second, .val (.int a1), .val (.int b1), .val (.int f1), .val (.int c1), .val (.int fl), .val (.long a), .second, .val (.long b), .second, .val (.int (1 : Int32)), .val (.int (0 : Int32)), s13, .val (.long f), .second, .val (.long q), .second, .val (.ref v), .val (.long K27), .second, .val (.long c2), .second, .val (.int (0 : Int32))] [(.int z30)])) _
            have hz30 : (z30.toInt = 1 ∧ K27.toInt ≤ q.toInt ∧ (q.toInt = a.toInt ∨ q.toInt = b.toInt)) ∨ (z30.toInt = 0 ∧ ¬ (K27.toInt ≤ q.toInt ∧ (q.toInt = a.toInt ∨ q.toInt = b.toInt))) := hz30
            refine own_blk X30 B0_218_220 B0_218_220d (ls' := #[.val (.long q0), .second, .val (.int a1), .val (.int b1), .val (.int f1), .val (.int c1), .val (.int fl), .val (.long a), .second, .val (.long b), .second, .val (.int (1 : Int32)), .val (.int (0 : Int32)), s13, .val (.long f), .second, .val (.long q), .second, .val (.ref v), .val (.long K27), .second, .val (.long c2), .second, .val (.int (0 : Int32))]) (st' := [(.int (0 : Int32)), (.int z30)]) rfl ?_
            refine own_icmp X30 d0_220 (pc' := 227) (by decide) (fun (c220 : ¬ z30.toInt = 0) => by exfalso; omega) (fun c220 => ?_)
            have c220 : ¬ (¬ z30.toInt = 0) := c220
            refine own_blk X30 B0_223_224 B0_223_224d (ls' := #[.val (.long q0), .second, .val (.int a1), .val (.int b1), .val (.int f1), .val (.int c1), .val (.int fl), .val (.long a), .second, .val (.long b), .second, .val (.int (1 : Int32)), .val (.int (0 : Int32)), s13, .val (.long f), .second, .val (.long q), .second, .val (.ref v), .val (.long K27), .second, .val (.long c2), .second, .val (.int (0 : Int32))]) (st' := [(.int (1 : Int32))]) rfl ?_
            refine own_goto X30 d0_224 (pc' := 228) (by decide) ?_
            exact own_retN X30 (by simp) d0_228 (v' := (1 : Int32)) (rfl) (by decide) (by decide) (rfl)
        · have c171 : ¬ (q.toInt = a.toInt) := c171
          refine own_blk X28 B0_175_179 B0_175_179d (ls' := #[.val (.long q0), .second, .val (.int a1), .val (.int b1), .val (.int f1), .val (.int c1), .val (.int fl), .val (.long a), .second, .val (.long b), .second, .val (.int (1 : Int32)), .val (.int (0 : Int32)), s13, .val (.long f), .second, .val (.long q), .second, .val (.ref v), .val (.long K27), .second, .val (.long c2), .second, .unset]) (st' := [(.long b), (.long q)]) rfl ?_
          refine own_lif X28 d0_179 d0_180 (pc' := 191) (by decide) (fun c179 => ?_) (fun c179 => ?_)
          · have c179 : ¬ q.toInt = b.toInt := c179
            refine own_blk X28 B0_191_193 B0_191_193d (ls' := #[.val (.long q0), .second, .val (.int a1), .val (.int b1), .val (.int f1), .val (.int c1), .val (.int fl), .val (.long a), .second, .val (.long b), .second, .val (.int (1 : Int32)), .val (.int (0 : Int32)), s13, .val (.long f), .second, .val (.long q), .second, .val (.ref v), .val (.long K27), .second, .val (.long c2), .second, .unset]) (st' := [(.int (0 : Int32))]) rfl ?_
            refine own_if X28 d0_193 (pc' := 208) (by decide) (fun c193 => ?_) (fun (c193 : ¬ ((0 : Int) = 0)) => by exfalso; omega)
            have c193 : (0 : Int) = 0 := c193
            refine own_blk X28 B0_208_215 B0_208_215d (ls' := #[.val (.long q0), .second, .val (.int a1), .val (.int b1), .val (.int f1), .val (.int c1), .val (.int fl), .val (.long a), .second, .val (.long b), .second, .val (.int (1 : Int32)), .val (.int (0 : Int32)), s13, .val (.long f), .second, .val (.long q), .second, .val (.ref v), .val (.long K27), .second, .val (.long c2), .second, .val (.int (0 : Int32))]) (st' := [(.long q), (.ref v)]) rfl ?_
            refine own_callV X28 (hw _ (List.mem_of_getElem? (i := 47) rfl)) (hw _ (List.mem_of_getElem? (i := 48) rfl)) (hw _ (List.mem_of_getElem? (i := 50) rfl)) (hw _ (List.mem_of_getElem? (i := 49) rfl)) (hw _ (List.mem_of_getElem? (i := 4) rfl)) (hw _ (List.mem_of_getElem? (i := 51) rfl)) (by decide) (own_S_exa S27) (c_holds l Z a0 hw v q B27 K27 n27 (fun k => k = a.toInt ∨ k = b.toInt) h27 n0 X28.2.1 S27 hB27 hBK27) d0_215 [(.long q)] [] rfl rfl pd6 rfl rfl (by decide) (Nat.le_of_ble_eq_true rfl) (by decide) (by decide) (fun _ _ q => by obtain ⟨_, _, q2, _⟩ := q; rw [q2]; exact X28.2.1) (fun v31 h31 T31 X31 q31 => ?_)
            obtain ⟨z31, rfl, e31, hz31⟩ := q31
            rw [e31] at X31
            show own_G p e below (T31.setTop (mkF m 218 #[.val (.long q0), .second, .val (.int a1), .val (.int b1), .val (.int f1), .val (.int c1), .val (.int fl), .val (.long a), .second, .val (.long b), .second, .val (.int (1 : Int32)), .val (.int (0 : Int32)), s13, .val (.long f), .second, .val (.long q), .second, .val (.ref v), .val (.long K27), .second, .val (.long c2), .second, .val (.int (0 : Int32))] [(.int z31)])) _
            have hz31 : (z31.toInt = 1 ∧ K27.toInt ≤ q.toInt ∧ (q.toInt = a.toInt ∨ q.toInt = b.toInt)) ∨ (z31.toInt = 0 ∧ ¬ (K27.toInt ≤ q.toInt ∧ (q.toInt = a.toInt ∨ q.toInt = b.toInt))) := hz31
            refine own_blk X31 B0_218_220 B0_218_220d (ls' := #[.val (.long q0), .second, .val (.int a1), .val (.int b1), .val (.int f1), .val (.int c1), .val (.int fl), .val (.long a), .second, .val (.long b), .second, .val (.int (1 : Int32)), .val (.int (0 : Int32)), s13, .val (.long f), .second, .val (.long q), .second, .val (.ref v), .val (.long K27), .second, .val (.long c2), .second, .val (.int (0 : Int32))]) (st' := [(.int (0 : Int32)), (.int z31)]) rfl ?_
            refine own_icmp X31 d0_220 (pc' := 227) (by decide) (fun (c220 : ¬ z31.toInt = 0) => by exfalso; omega) (fun c220 => ?_)
            have c220 : ¬ (¬ z31.toInt = 0) := c220
            refine own_blk X31 B0_223_224 B0_223_224d (ls' := #[.val (.long q0), .second, .val (.int a1), .val (.int b1), .val (.int f1), .val (.int c1), .val (.int fl), .val (.long a), .second, .val (.long b), .second, .val (.int (1 : Int32)), .val (.int (0 : Int32)), s13, .val (.long f), .second, .val (.long q), .second, .val (.ref v), .val (.long K27), .second, .val (.long c2), .second, .val (.int (0 : Int32))]) (st' := [(.int (1 : Int32))]) rfl ?_
            refine own_goto X31 d0_224 (pc' := 228) (by decide) ?_
            exact own_retN X31 (by simp) d0_228 (v' := (1 : Int32)) (rfl) (by decide) (by decide) (rfl)
          · have c179 : ¬ (¬ q.toInt = b.toInt) := c179
            refine own_blk X28 B0_183_187 B0_183_187d (ls' := #[.val (.long q0), .second, .val (.int a1), .val (.int b1), .val (.int f1), .val (.int c1), .val (.int fl), .val (.long a), .second, .val (.long b), .second, .val (.int (1 : Int32)), .val (.int (0 : Int32)), s13, .val (.long f), .second, .val (.long q), .second, .val (.ref v), .val (.long K27), .second, .val (.long c2), .second, .unset]) (st' := [(.long K27), (.long q)]) rfl ?_
            refine own_lif X28 d0_187 d0_188 (pc' := 204) (by decide) (fun c187 => ?_) (fun c187 => ?_)
            · have c187 : K27.toInt ≤ q.toInt := c187
              refine own_blk X28 B0_204_205 B0_204_205d (ls' := #[.val (.long q0), .second, .val (.int a1), .val (.int b1), .val (.int f1), .val (.int c1), .val (.int fl), .val (.long a), .second, .val (.long b), .second, .val (.int (1 : Int32)), .val (.int (0 : Int32)), s13, .val (.long f), .second, .val (.long q), .second, .val (.ref v), .val (.long K27), .second, .val (.long c2), .second, .unset]) (st' := [(.int (1 : Int32))]) rfl ?_
              refine own_goto X28 d0_205 (pc' := 209) (by decide) ?_
              refine own_blk X28 B0_209_215 B0_209_215d (ls' := #[.val (.long q0), .second, .val (.int a1), .val (.int b1), .val (.int f1), .val (.int c1), .val (.int fl), .val (.long a), .second, .val (.long b), .second, .val (.int (1 : Int32)), .val (.int (0 : Int32)), s13, .val (.long f), .second, .val (.long q), .second, .val (.ref v), .val (.long K27), .second, .val (.long c2), .second, .val (.int (1 : Int32))]) (st' := [(.long q), (.ref v)]) rfl ?_
              refine own_callV X28 (hw _ (List.mem_of_getElem? (i := 47) rfl)) (hw _ (List.mem_of_getElem? (i := 48) rfl)) (hw _ (List.mem_of_getElem? (i := 50) rfl)) (hw _ (List.mem_of_getElem? (i := 49) rfl)) (hw _ (List.mem_of_getElem? (i := 4) rfl)) (hw _ (List.mem_of_getElem? (i := 51) rfl)) (by decide) (own_S_exa S27) (c_holds l Z a0 hw v q B27 K27 n27 (fun k => k = a.toInt ∨ k = b.toInt) h27 n0 X28.2.1 S27 hB27 hBK27) d0_215 [(.long q)] [] rfl rfl pd6 rfl rfl (by decide) (Nat.le_of_ble_eq_true rfl) (by decide) (by decide) (fun _ _ q => by obtain ⟨_, _, q2, _⟩ := q; rw [q2]; exact X28.2.1) (fun v32 h32 T32 X32 q32 => ?_)
              obtain ⟨z32, rfl, e32, hz32⟩ := q32
              rw [e32] at X32
              show own_G p e below (T32.setTop (mkF m 218 #[.val (.long q0), .second, .val (.int a1), .val (.int b1), .val (.int f1), .val (.int c1), .val (.int fl), .val (.long a), .second, .val (.long b), .second, .val (.int (1 : Int32)), .val (.int (0 : Int32)), s13, .val (.long f), .second, .val (.long q), .second, .val (.ref v), .val (.long K27), .second, .val (.long c2), .second, .val (.int (1 : Int32))] [(.int z32)])) _
              have hz32 : (z32.toInt = 1 ∧ K27.toInt ≤ q.toInt ∧ (q.toInt = a.toInt ∨ q.toInt = b.toInt)) ∨ (z32.toInt = 0 ∧ ¬ (K27.toInt ≤ q.toInt ∧ (q.toInt = a.toInt ∨ q.toInt = b.toInt))) := hz32
              refine own_blk X32 B0_218_220 B0_218_220d (ls' := #[.val (.long q0), .second, .val (.int a1), .val (.int b1), .val (.int f1), .val (.int c1), .val (.int fl), .val (.long a), .second, .val (.long b), .second, .val (.int (1 : Int32)), .val (.int (0 : Int32)), s13, .val (.long f), .second, .val (.long q), .second, .val (.ref v), .val (.long K27), .second, .val (.long c2), .second, .val (.int (1 : Int32))]) (st' := [(.int (1 : Int32)), (.int z32)]) rfl ?_
              refine own_icmp X32 d0_220 (pc' := 227) (by decide) (fun (c220 : ¬ z32.toInt = 1) => by exfalso; omega) (fun c220 => ?_)
              have c220 : ¬ (¬ z32.toInt = 1) := c220
              refine own_blk X32 B0_223_224 B0_223_224d (ls' := #[.val (.long q0), .second, .val (.int a1), .val (.int b1), .val (.int f1), .val (.int c1), .val (.int fl), .val (.long a), .second, .val (.long b), .second, .val (.int (1 : Int32)), .val (.int (0 : Int32)), s13, .val (.long f), .second, .val (.long q), .second, .val (.ref v), .val (.long K27), .second, .val (.long c2), .second, .val (.int (1 : Int32))]) (st' := [(.int (1 : Int32))]) rfl ?_
              refine own_goto X32 d0_224 (pc' := 228) (by decide) ?_
              exact own_retN X32 (by simp) d0_228 (v' := (1 : Int32)) (rfl) (by decide) (by decide) (rfl)
            · have c187 : ¬ (K27.toInt ≤ q.toInt) := c187
              refine own_blk X28 B0_191_193 B0_191_193d (ls' := #[.val (.long q0), .second, .val (.int a1), .val (.int b1), .val (.int f1), .val (.int c1), .val (.int fl), .val (.long a), .second, .val (.long b), .second, .val (.int (1 : Int32)), .val (.int (0 : Int32)), s13, .val (.long f), .second, .val (.long q), .second, .val (.ref v), .val (.long K27), .second, .val (.long c2), .second, .unset]) (st' := [(.int (0 : Int32))]) rfl ?_
              refine own_if X28 d0_193 (pc' := 208) (by decide) (fun c193 => ?_) (fun (c193 : ¬ ((0 : Int) = 0)) => by exfalso; omega)
              have c193 : (0 : Int) = 0 := c193
              refine own_blk X28 B0_208_215 B0_208_215d (ls' := #[.val (.long q0), .second, .val (.int a1), .val (.int b1), .val (.int f1), .val (.int c1), .val (.int fl), .val (.long a), .second, .val (.long b), .second, .val (.int (1 : Int32)), .val (.int (0 : Int32)), s13, .val (.long f), .second, .val (.long q), .second, .val (.ref v), .val (.long K27), .second, .val (.long c2), .second, .val (.int (0 : Int32))]) (st' := [(.long q), (.ref v)]) rfl ?_
              refine own_callV X28 (hw _ (List.mem_of_getElem? (i := 47) rfl)) (hw _ (List.mem_of_getElem? (i := 48) rfl)) (hw _ (List.mem_of_getElem? (i := 50) rfl)) (hw _ (List.mem_of_getElem? (i := 49) rfl)) (hw _ (List.mem_of_getElem? (i := 4) rfl)) (hw _ (List.mem_of_getElem? (i := 51) rfl)) (by decide) (own_S_exa S27) (c_holds l Z a0 hw v q B27 K27 n27 (fun k => k = a.toInt ∨ k = b.toInt) h27 n0 X28.2.1 S27 hB27 hBK27) d0_215 [(.long q)] [] rfl rfl pd6 rfl rfl (by decide) (Nat.le_of_ble_eq_true rfl) (by decide) (by decide) (fun _ _ q => by obtain ⟨_, _, q2, _⟩ := q; rw [q2]; exact X28.2.1) (fun v33 h33 T33 X33 q33 => ?_)
              obtain ⟨z33, rfl, e33, hz33⟩ := q33
              rw [e33] at X33
              show own_G p e below (T33.setTop (mkF m 218 #[.val (.long q0), .second, .val (.int a1), .val (.int b1), .val (.int f1), .val (.int c1), .val (.int fl), .val (.long a), .second, .val (.long b), .second, .val (.int (1 : Int32)), .val (.int (0 : Int32)), s13, .val (.long f), .second, .val (.long q), .second, .val (.ref v), .val (.long K27), .second, .val (.long c2), .second, .val (.int (0 : Int32))] [(.int z33)])) _
              have hz33 : (z33.toInt = 1 ∧ K27.toInt ≤ q.toInt ∧ (q.toInt = a.toInt ∨ q.toInt = b.toInt)) ∨ (z33.toInt = 0 ∧ ¬ (K27.toInt ≤ q.toInt ∧ (q.toInt = a.toInt ∨ q.toInt = b.toInt))) := hz33
              refine own_blk X33 B0_218_220 B0_218_220d (ls' := #[.val (.long q0), .second, .val (.int a1), .val (.int b1), .val (.int f1), .val (.int c1), .val (.int fl), .val (.long a), .second, .val (.long b), .second, .val (.int (1 : Int32)), .val (.int (0 : Int32)), s13, .val (.long f), .second, .val (.long q), .second, .val (.ref v), .val (.long K27), .second, .val (.long c2), .second, .val (.int (0 : Int32))]) (st' := [(.int (0 : Int32)), (.int z33)]) rfl ?_
              refine own_icmp X33 d0_220 (pc' := 227) (by decide) (fun (c220 : ¬ z33.toInt = 0) => by exfalso; omega) (fun c220 => ?_)
              have c220 : ¬ (¬ z33.toInt = 0) := c220
              refine own_blk X33 B0_223_224 B0_223_224d (ls' := #[.val (.long q0), .second, .val (.int a1), .val (.int b1), .val (.int f1), .val (.int c1), .val (.int fl), .val (.long a), .second, .val (.long b), .second, .val (.int (1 : Int32)), .val (.int (0 : Int32)), s13, .val (.long f), .second, .val (.long q), .second, .val (.ref v), .val (.long K27), .second, .val (.long c2), .second, .val (.int (0 : Int32))]) (st' := [(.int (1 : Int32))]) rfl ?_
              refine own_goto X33 d0_224 (pc' := 228) (by decide) ?_
              exact own_retN X33 (by simp) d0_228 (v' := (1 : Int32)) (rfl) (by decide) (by decide) (rfl)
      refine own_blk X0 B0_46_50 B0_46_50d (ls' := #[.val (.long q0), .second, .val (.int a1), .val (.int b1), .val (.int f1), .val (.int c1), .val (.int fl), .val (.long a), .second, .val (.long b), .second, .val (.int (1 : Int32)), .val (.int (0 : Int32)), .unset, .unset, .unset, .unset, .unset, .unset, .unset, .unset, .unset, .unset, .unset]) (st' := [(.int (fl &&& (4 : Int32)))]) rfl ?_
      refine own_if X0 d0_50 (pc' := 57) (by decide) (fun c50 => ?_) (fun c50 => ?_)
      · have c50 : (fl &&& (4 : Int32)).toInt = 0 := c50
        refine own_blk X0 B0_57_71 B0_57_71d (ls' := #[.val (.long q0), .second, .val (.int a1), .val (.int b1), .val (.int f1), .val (.int c1), .val (.int fl), .val (.long a), .second, .val (.long b), .second, .val (.int (1 : Int32)), .val (.int (0 : Int32)), .val (.int (0 : Int32)), .val (.long ((f1 &&& (255 : Int32)).toInt64)), .second, .unset, .unset, .unset, .unset, .unset, .unset, .unset, .unset]) (st' := [(.int (0 : Int32))]) rfl ?_
        refine own_if X0 d0_71 (pc' := 78) (by decide) (fun c71 => ?_) (fun (c71 : ¬ ((0 : Int) = 0)) => by exfalso; omega)
        have c71 : (0 : Int) = 0 := c71
        refine own_blk X0 B0_78_79 B0_78_79d (ls' := #[.val (.long q0), .second, .val (.int a1), .val (.int b1), .val (.int f1), .val (.int c1), .val (.int fl), .val (.long a), .second, .val (.long b), .second, .val (.int (1 : Int32)), .val (.int (0 : Int32)), .val (.int (0 : Int32)), .val (.long ((f1 &&& (255 : Int32)).toInt64)), .second, .unset, .unset, .unset, .unset, .unset, .unset, .unset, .unset]) (st' := [(.long q0)]) rfl ?_
        refine own_ldc2 X0 (hw _ (List.mem_of_getElem? (i := 0) rfl)) d0_79 ?_
        refine own_blk X0 B0_82_83 B0_82_83d (ls' := #[.val (.long q0), .second, .val (.int a1), .val (.int b1), .val (.int f1), .val (.int c1), .val (.int fl), .val (.long a), .second, .val (.long b), .second, .val (.int (1 : Int32)), .val (.int (0 : Int32)), .val (.int (0 : Int32)), .val (.long ((f1 &&& (255 : Int32)).toInt64)), .second, .unset, .unset, .unset, .unset, .unset, .unset, .unset, .unset]) (st' := [(.long (q0 &&& (511 : Int64)))]) rfl ?_
        refine own_ldc2 X0 (hw _ (List.mem_of_getElem? (i := 1) rfl)) d0_83 ?_
        refine own_blk X0 B0_86_87 B0_86_87d (ls' := #[.val (.long q0), .second, .val (.int a1), .val (.int b1), .val (.int f1), .val (.int c1), .val (.int fl), .val (.long a), .second, .val (.long b), .second, .val (.int (1 : Int32)), .val (.int (0 : Int32)), .val (.int (0 : Int32)), .val (.long ((f1 &&& (255 : Int32)).toInt64)), .second, .unset, .unset, .unset, .unset, .unset, .unset, .unset, .unset]) (st' := [(.long ((q0 &&& (511 : Int64)) - (8 : Int64)))]) rfl ?_
        exact J87 _ _
      · have c50 : ¬ ((fl &&& (4 : Int32)).toInt = 0) := c50
        refine own_blk X0 B0_53_54 B0_53_54d (ls' := #[.val (.long q0), .second, .val (.int a1), .val (.int b1), .val (.int f1), .val (.int c1), .val (.int fl), .val (.long a), .second, .val (.long b), .second, .val (.int (1 : Int32)), .val (.int (0 : Int32)), .unset, .unset, .unset, .unset, .unset, .unset, .unset, .unset, .unset, .unset, .unset]) (st' := [(.int (1 : Int32))]) rfl ?_
        refine own_goto X0 d0_54 (pc' := 58) (by decide) ?_
        refine own_blk X0 B0_58_71 B0_58_71d (ls' := #[.val (.long q0), .second, .val (.int a1), .val (.int b1), .val (.int f1), .val (.int c1), .val (.int fl), .val (.long a), .second, .val (.long b), .second, .val (.int (1 : Int32)), .val (.int (0 : Int32)), .val (.int (1 : Int32)), .val (.long ((f1 &&& (255 : Int32)).toInt64)), .second, .unset, .unset, .unset, .unset, .unset, .unset, .unset, .unset]) (st' := [(.int (1 : Int32))]) rfl ?_
        refine own_if X0 d0_71 (pc' := 78) (by decide) (fun (c71 : (1 : Int) = 0) => by exfalso; omega) (fun c71 => ?_)
        have c71 : ¬ ((1 : Int) = 0) := c71
        refine own_blk X0 B0_74_75 B0_74_75d (ls' := #[.val (.long q0), .second, .val (.int a1), .val (.int b1), .val (.int f1), .val (.int c1), .val (.int fl), .val (.long a), .second, .val (.long b), .second, .val (.int (1 : Int32)), .val (.int (0 : Int32)), .val (.int (1 : Int32)), .val (.long ((f1 &&& (255 : Int32)).toInt64)), .second, .unset, .unset, .unset, .unset, .unset, .unset, .unset, .unset]) (st' := [(.long q0)]) rfl ?_
        refine own_goto X0 d0_75 (pc' := 87) (by decide) ?_
        exact J87 _ _
    · have c36 : ¬ ((fl &&& (2 : Int32)).toInt = 0) := c36
      refine own_blk X0 B0_39_40 B0_39_40d (ls' := #[.val (.long q0), .second, .val (.int a1), .val (.int b1), .val (.int f1), .val (.int c1), .val (.int fl), .val (.long a), .second, .val (.long b), .second, .val (.int (1 : Int32)), .unset, .unset, .unset, .unset, .unset, .unset, .unset, .unset, .unset, .unset, .unset, .unset]) (st' := [(.int (1 : Int32))]) rfl ?_
      refine own_goto X0 d0_40 (pc' := 44) (by decide) ?_
      refine own_blk X0 B0_44_46 B0_44_46d (ls' := #[.val (.long q0), .second, .val (.int a1), .val (.int b1), .val (.int f1), .val (.int c1), .val (.int fl), .val (.long a), .second, .val (.long b), .second, .val (.int (1 : Int32)), .val (.int (1 : Int32)), .unset, .unset, .unset, .unset, .unset, .unset, .unset, .unset, .unset, .unset, .unset]) (st' := []) rfl ?_
      have J87 : ∀ (q : Int64) (s13 : Slot), own_G p e below (T0.setTop (mkF m 87 #[.val (.long q0), .second, .val (.int a1), .val (.int b1), .val (.int f1), .val (.int c1), .val (.int fl), .val (.long a), .second, .val (.long b), .second, .val (.int (1 : Int32)), .val (.int (1 : Int32)), s13, .val (.long ((f1 &&& (255 : Int32)).toInt64)), .second, .unset, .unset, .unset, .unset, .unset, .unset, .unset, .unset] [.long q])) (own_E s n0 (fun v h => v = some (.int 1)) room_1.cells room_1.slots) := by
        intro q s13
        refine own_blk X0 B0_87_89 B0_87_89d (ls' := #[.val (.long q0), .second, .val (.int a1), .val (.int b1), .val (.int f1), .val (.int c1), .val (.int fl), .val (.long a), .second, .val (.long b), .second, .val (.int (1 : Int32)), .val (.int (1 : Int32)), s13, .val (.long ((f1 &&& (255 : Int32)).toInt64)), .second, .val (.long q), .second, .unset, .unset, .unset, .unset, .unset, .unset]) (st' := []) rfl ?_
        generalize ef : ((f1 &&& (255 : Int32)).toInt64) = f
        have hf : 0 ≤ f.toInt ∧ f.toInt ≤ 255 := by rw [← ef, Jvm.Kit.i64_of_i32, own_m255]; omega
        refine own_newO X0 (hw _ (List.mem_of_getElem? (i := 2) rfl)) (hw _ (List.mem_of_getElem? (i := 3) rfl)) (hw _ (List.mem_of_getElem? (i := 4) rfl)) d0_89 (by decide) (by decide) (fun h34 T34 X34 E34 Q34 D34 => ?_)
        have n_v : n0 ≤ h0.size := X0.2.1
        have F34_base : Fld Z h34 h0.size "lonewatch/model/InstanceValues" "base" "J" (.long (0 : Int64)) := D34 (Or.inl (hw _ (List.mem_of_getElem? (i := 12) rfl))) (ty := .long) (by decide)
        have F34_kept : Fld Z h34 h0.size "lonewatch/model/InstanceValues" "kept" "J" (.long (0 : Int64)) := D34 (Or.inl (hw _ (List.mem_of_getElem? (i := 14) rfl))) (ty := .long) (by decide)
        have F34_values : Fld Z h34 h0.size "lonewatch/model/InstanceValues" "values" "[J" .null := D34 (Or.inl (hw _ (List.mem_of_getElem? (i := 17) rfl))) (ty := (.array .long)) (by decide)
        have F34_held : Fld Z h34 h0.size "lonewatch/model/InstanceValues" "held" "[Z" .null := D34 (Or.inl (hw _ (List.mem_of_getElem? (i := 20) rfl))) (ty := (.array .boolean)) (by decide)
        have F34_size : Fld Z h34 h0.size "lonewatch/model/InstanceValues" "size" "I" (.int (0 : Int32)) := D34 (Or.inl (hw _ (List.mem_of_getElem? (i := 45) rfl))) (ty := .int) (by decide)
        have F34_view : Fld Z h34 h0.size "lonewatch/model/InstanceValues" "view" "Ljava/util/Map;" .null := D34 (Or.inr (hw _ (List.mem_of_getElem? (i := 36) rfl))) (ty := (.object "java/util/Map")) (by decide)
        clear D34
        generalize ez_v : h0.size = v at Q34 n_v F34_base F34_kept F34_values F34_held F34_size F34_view ⊢
        show own_G p e below (T34.setTop (mkF m 92 #[.val (.long q0), .second, .val (.int a1), .val (.int b1), .val (.int f1), .val (.int c1), .val (.int fl), .val (.long a), .second, .val (.long b), .second, .val (.int (1 : Int32)), .val (.int (1 : Int32)), s13, .val (.long f), .second, .val (.long q), .second, .unset, .unset, .unset, .unset, .unset, .unset] [(.ref v)])) _
        refine own_blk X34 B0_92_93 B0_92_93d (ls' := #[.val (.long q0), .second, .val (.int a1), .val (.int b1), .val (.int f1), .val (.int c1), .val (.int fl), .val (.long a), .second, .val (.long b), .second, .val (.int (1 : Int32)), .val (.int (1 : Int32)), s13, .val (.long f), .second, .val (.long q), .second, .unset, .unset, .unset, .unset, .unset, .unset]) (st' := [(.ref v), (.ref v)]) rfl ?_
        refine own_callN X34 rfl (hw _ (List.mem_of_getElem? (i := 5) rfl)) (hw _ (List.mem_of_getElem? (i := 6) rfl)) (hw _ (List.mem_of_getElem? (i := 4) rfl)) (hw _ (List.mem_of_getElem? (i := 7) rfl)) (by decide) (c_init l Z a0 hw v h34 n0 X34.2.1 n_v Q34 F34_base F34_kept F34_values F34_held F34_size F34_view) d0_93 [] [(.ref v)] rfl rfl pd1 rfl rfl (by decide) (Nat.le_of_ble_eq_true rfl) (by decide) (by decide) (fun _ _ q => q.2.1) (fun v35 h35 T35 X35 q35 => ?_)
        obtain ⟨rfl, _, S35⟩ := q35
        show own_G p e below (T35.setTop (mkF m 96 #[.val (.long q0), .second, .val (.int a1), .val (.int b1), .val (.int f1), .val (.int c1), .val (.int fl), .val (.long a), .second, .val (.long b), .second, .val (.int (1 : Int32)), .val (.int (1 : Int32)), s13, .val (.long f), .second, .val (.long q), .second, .unset, .unset, .unset, .unset, .unset, .unset] [(.ref v)])) _
        refine own_blk X35 B0_96_102 B0_96_102d (ls' := #[.val (.long q0), .second, .val (.int a1), .val (.int b1), .val (.int f1), .val (.int c1), .val (.int fl), .val (.long a), .second, .val (.long b), .second, .val (.int (1 : Int32)), .val (.int (1 : Int32)), s13, .val (.long f), .second, .val (.long q), .second, .val (.ref v), .unset, .unset, .unset, .unset, .unset]) (st' := [(.long a), (.ref v)]) rfl ?_
        refine own_ldc2 X35 (hw _ (List.mem_of_getElem? (i := 37) rfl)) d0_102 ?_
        refine own_callV X35 (hw _ (List.mem_of_getElem? (i := 38) rfl)) (hw _ (List.mem_of_getElem? (i := 39) rfl)) (hw _ (List.mem_of_getElem? (i := 41) rfl)) (hw _ (List.mem_of_getElem? (i := 40) rfl)) (hw _ (List.mem_of_getElem? (i := 4) rfl)) (hw _ (List.mem_of_getElem? (i := 42) rfl)) (by decide) (own_S_exa S35) (c_put64 l Z a0 hw v a (7 : Int64) (1 : Int64) (1 : Int64) 16 (fun _ => False) h35 n0 X35.2.1 S35 (by decide) (by decide) ha.1 (by show _ - (1 : Int) < _; omega) (by omega) (by decide) (by decide)) d0_105 [(.long a), (.long (7 : Int64))] [] rfl rfl pd5 rfl rfl (by decide) (Nat.le_of_ble_eq_true rfl) (by decide) (by decide) (fun _ _ q => q.2.1) (fun v36 h36 T36 X36 q36 => ?_)
        obtain ⟨rfl, _, n36, hl36, hu36, S36⟩ := q36
        show own_G p e below (T36.setTop (mkF m 108 #[.val (.long q0), .second, .val (.int a1), .val (.int b1), .val (.int f1), .val (.int c1), .val (.int fl), .val (.long a), .second, .val (.long b), .second, .val (.int (1 : Int32)), .val (.int (1 : Int32)), s13, .val (.long f), .second, .val (.long q), .second, .val (.ref v), .unset, .unset, .unset, .unset, .unset] [])) _
        have R36 : own_S Z h36 n0 v (1 : Int64) (1 : Int64) n36 (fun k => k = a.toInt) := own_S_iff S36 (fun k => by simp)
        refine own_blk X36 B0_108_112 B0_108_112d (ls' := #[.val (.long q0), .second, .val (.int a1), .val (.int b1), .val (.int f1), .val (.int c1), .val (.int fl), .val (.long a), .second, .val (.long b), .second, .val (.int (1 : Int32)), .val (.int (1 : Int32)), s13, .val (.long f), .second, .val (.long q), .second, .val (.ref v), .unset, .unset, .unset, .unset, .unset]) (st' := [(.long b), (.ref v)]) rfl ?_
        refine own_ldc2 X36 (hw _ (List.mem_of_getElem? (i := 46) rfl)) d0_112 ?_
        refine own_callV X36 (hw _ (List.mem_of_getElem? (i := 38) rfl)) (hw _ (List.mem_of_getElem? (i := 39) rfl)) (hw _ (List.mem_of_getElem? (i := 41) rfl)) (hw _ (List.mem_of_getElem? (i := 40) rfl)) (hw _ (List.mem_of_getElem? (i := 4) rfl)) (hw _ (List.mem_of_getElem? (i := 42) rfl)) (by decide) (own_S_exa R36) (c_put128 l Z a0 hw v b (9 : Int64) (1 : Int64) (1 : Int64) n36 (fun k => k = a.toInt) h36 n0 X36.2.1 R36 (by decide) (by decide) hb.1 (by show _ - (1 : Int) < _; omega) (by omega) (by omega) hl36) d0_115 [(.long b), (.long (9 : Int64))] [] rfl rfl pd5 rfl rfl (by decide) (Nat.le_of_ble_eq_true rfl) (by decide) (by decide) (fun _ _ q => q.2.1) (fun v37 h37 T37 X37 q37 => ?_)
        obtain ⟨rfl, _, n37, hl37, hu37, S37⟩ := q37
        show own_G p e below (T37.setTop (mkF m 118 #[.val (.long q0), .second, .val (.int a1), .val (.int b1), .val (.int f1), .val (.int c1), .val (.int fl), .val (.long a), .second, .val (.long b), .second, .val (.int (1 : Int32)), .val (.int (1 : Int32)), s13, .val (.long f), .second, .val (.long q), .second, .val (.ref v), .unset, .unset, .unset, .unset, .unset] [])) _
        have R37 : own_S Z h37 n0 v (1 : Int64) (1 : Int64) n37 (fun k => k = a.toInt ∨ k = b.toInt) := own_S_iff S37 (fun k => by simp)
        refine own_blk X37 B0_118_123 B0_118_123d (ls' := #[.val (.long q0), .second, .val (.int a1), .val (.int b1), .val (.int f1), .val (.int c1), .val (.int fl), .val (.long a), .second, .val (.long b), .second, .val (.int (1 : Int32)), .val (.int (1 : Int32)), s13, .val (.long f), .second, .val (.long q), .second, .val (.ref v), .val (.long (1 : Int64)), .second, .unset, .unset, .unset]) (st' := [(.int (1 : Int32))]) rfl ?_
        refine own_if X37 d0_123 (pc' := 141) (by decide) (fun (c123 : (1 : Int) = 0) => by exfalso; omega) (fun c123 => ?_)
        have c123 : ¬ ((1 : Int) = 0) := c123
        refine own_blk X37 B0_126_130 B0_126_130d (ls' := #[.val (.long q0), .second, .val (.int a1), .val (.int b1), .val (.int f1), .val (.int c1), .val (.int fl), .val (.long a), .second, .val (.long b), .second, .val (.int (1 : Int32)), .val (.int (1 : Int32)), s13, .val (.long f), .second, .val (.long q), .second, .val (.ref v), .val (.long (1 : Int64)), .second, .unset, .unset, .unset]) (st' := [(.long f), (.ref v)]) rfl ?_
        refine own_callV X37 (hw _ (List.mem_of_getElem? (i := 52) rfl)) (hw _ (List.mem_of_getElem? (i := 53) rfl)) (hw _ (List.mem_of_getElem? (i := 55) rfl)) (hw _ (List.mem_of_getElem? (i := 54) rfl)) (hw _ (List.mem_of_getElem? (i := 4) rfl)) (hw _ (List.mem_of_getElem? (i := 56) rfl)) (by decide) (own_S_exa R37) (c_forget l Z a0 hw v f n37 (fun k => k = a.toInt ∨ k = b.toInt) h37 n0 X37.2.1 R37 hf hl37 (by omega)) d0_130 [(.long f)] [] rfl rfl pd7 rfl rfl (by decide) (Nat.le_of_ble_eq_true rfl) (by decide) (by decide) (fun _ _ q => q.2.1) (fun v38 h38 T38 X38 q38 => ?_)
        obtain ⟨rfl, _, B38, K38, n38, hl38, hu38, hB38, hBK38, eK38, S38⟩ := q38
        show own_G p e below (T38.setTop (mkF m 133 #[.val (.long q0), .second, .val (.int a1), .val (.int b1), .val (.int f1), .val (.int c1), .val (.int fl), .val (.long a), .second, .val (.long b), .second, .val (.int (1 : Int32)), .val (.int (1 : Int32)), s13, .val (.long f), .second, .val (.long q), .second, .val (.ref v), .val (.long (1 : Int64)), .second, .unset, .unset, .unset] [])) _
        have hKf : K38.toInt ≤ 255 := by rw [eK38]; unfold own_maxJ; split; exact hf.2; decide
        refine own_blk X38 B0_133_136 B0_133_136d (ls' := #[.val (.long q0), .second, .val (.int a1), .val (.int b1), .val (.int f1), .val (.int c1), .val (.int fl), .val (.long a), .second, .val (.long b), .second, .val (.int (1 : Int32)), .val (.int (1 : Int32)), s13, .val (.long f), .second, .val (.long q), .second, .val (.ref v), .val (.long (1 : Int64)), .second, .unset, .unset, .unset]) (st' := [(.long f), (.long (1 : Int64))]) rfl ?_
        refine own_callP X38 (hw _ (List.mem_of_getElem? (i := 64) rfl)) (hw _ (List.mem_of_getElem? (i := 62) rfl)) (hw _ (List.mem_of_getElem? (i := 59) rfl)) (hw _ (List.mem_of_getElem? (i := 63) rfl)) (by decide) (c_maxJ l Z a0 hw (1 : Int64) f h38 n0 X38.2.1) d0_136 [(.long (1 : Int64)), (.long f)] [] rfl rfl pd9 rfl rfl (by decide) (Nat.le_of_ble_eq_true rfl) (by decide) (by decide) (fun T39 X39 => ?_)
        show own_G p e below (T39.setTop (mkF m 139 #[.val (.long q0), .second, .val (.int a1), .val (.int b1), .val (.int f1), .val (.int c1), .val (.int fl), .val (.long a), .second, .val (.long b), .second, .val (.int (1 : Int32)), .val (.int (1 : Int32)), s13, .val (.long f), .second, .val (.long q), .second, .val (.ref v), .val (.long (1 : Int64)), .second, .unset, .unset, .unset] [(.long (own_maxJ (1 : Int64) f))])) _
        refine own_blk X39 B0_139_152 B0_139_152d (ls' := #[.val (.long q0), .second, .val (.int a1), .val (.int b1), .val (.int f1), .val (.int c1), .val (.int fl), .val (.long a), .second, .val (.long b), .second, .val (.int (1 : Int32)), .val (.int (1 : Int32)), s13, .val (.long f), .second, .val (.long q), .second, .val (.ref v), .val (.long (own_maxJ (1 : Int64) f)), .second, .val (.long ((own_maxJ (1 : Int64) f) + ((c1 &&& (127 : Int32)).toInt64))), .second, .unset]) (st' := []) rfl ?_
        rw [← eK38]
        generalize ec2 : (K38 + ((c1 &&& (127 : Int32)).toInt64)) = c2
        have hc2 : K38.toInt ≤ c2.toInt ∧ c2.toInt ≤ K38.toInt + 127 := by
          have e0 := own_mask c1 127 7 (by decide) (by decide)
          have e1 := Jvm.Kit.i64_of_i32 (c1 &&& 127)
          rw [← ec2, Jvm.Kit.i64_add (by rw [e1]; omega) (by rw [e1]; omega), e1]
          omega
        refine own_blk X39 B0_152_154 B0_152_154d (ls' := #[.val (.long q0), .second, .val (.int a1), .val (.int b1), .val (.int f1), .val (.int c1), .val (.int fl), .val (.long a), .second, .val (.long b), .second, .val (.int (1 : Int32)), .val (.int (1 : Int32)), s13, .val (.long f), .second, .val (.long q), .second, .val (.ref v), .val (.long K38), .second, .val (.long c2), .second, .unset]) (st' := [(.int (1 : Int32))]) rfl ?_
        refine own_if X39 d0_154 (pc' := 167) (by decide) (fun (c154 : (1 : Int) = 0) => by exfalso; omega) (fun c154 => ?_)
        have c154 : ¬ ((1 : Int) = 0) := c154
        refine own_blk X39 B0_157_161 B0_157_161d (ls' := #[.val (.long q0), .second, .val (.int a1), .val (.int b1), .val (.int f1), .val (.int c1), .val (.int fl), .val (.long a), .second, .val (.long b), .second, .val (.int (1 : Int32)), .val (.int (1 : Int32)), s13, .val (.long f), .second, .val (.long q), .second, .val (.ref v), .val (.long K38), .second, .val (.long c2), .second, .unset]) (st' := [(.long c2), (.ref v)]) rfl ?_
        refine own_ldc2 X39 (hw _ (List.mem_of_getElem? (i := 65) rfl)) d0_161 ?_
        refine own_callV X39 (hw _ (List.mem_of_getElem? (i := 38) rfl)) (hw _ (List.mem_of_getElem? (i := 39) rfl)) (hw _ (List.mem_of_getElem? (i := 41) rfl)) (hw _ (List.mem_of_getElem? (i := 40) rfl)) (hw _ (List.mem_of_getElem? (i := 4) rfl)) (hw _ (List.mem_of_getElem? (i := 42) rfl)) (by decide) (own_S_exa S38) (c_put382 l Z a0 hw v c2 (11 : Int64) B38 K38 n38 (fun k => k = a.toInt ∨ k = b.toInt) h38 n0 X39.2.1 S38 hB38 hBK38 hc2.1 (by omega) (by omega) (by omega) hl38) d0_164 [(.long c2), (.long (11 : Int64))] [] rfl rfl pd5 rfl rfl (by decide) (Nat.le_of_ble_eq_true rfl) (by decide) (by decide) (fun _ _ q => q.2.1) (fun v40 h40 T40 X40 q40 => ?_)
        obtain ⟨rfl, _, n40, hl40, hu40, S40⟩ := q40
        show own_G p e below (T40.setTop (mkF m 167 #[.val (.long q0), .second, .val (.int a1), .val (.int b1), .val (.int f1), .val (.int c1), .val (.int fl), .val (.long a), .second, .val (.long b), .second, .val (.int (1 : Int32)), .val (.int (1 : Int32)), s13, .val (.long f), .second, .val (.long q), .second, .val (.ref v), .val (.long K38), .second, .val (.long c2), .second, .unset] [])) _
        have R40 : own_S Z h40 n0 v B38 K38 n40 (fun k => k = a.toInt ∨ k = b.toInt ∨ k = c2.toInt) := own_S_iff S40 (fun k => by simp [or_assoc])
        refine own_blk X40 B0_167_171 B0_167_171d (ls' := #[.val (.long q0), .second, .val (.int a1), .val (.int b1), .val (.int f1), .val (.int c1), .val (.int fl), .val (.long a), .second, .val (.long b), .second, .val (.int (1 : Int32)), .val (.int (1 : Int32)), s13, .val (.long f), .second, .val (.long q), .second, .val (.ref v), .val (.long K38), .second, .val (.long c2), .second, .unset]) (st' := [(.long a), (.long q)]) rfl ?_
        refine own_lif X40 d0_171 d0_172 (pc' := 183) (by decide) (fun c171 => ?_) (fun c171 => ?_)
        · have c171 : q.toInt = a.toInt := c171
          refine own_blk X40 B0_183_187 B0_183_187d (ls' := #[.val (.long q0), .second, .val (.int a1), .val (.int b1), .val (.int f1), .val (.int c1), .val (.int fl), .val (.long a), .second, .val (.long b), .second, .val (.int (1 : Int32)), .val (.int (1 : Int32)), s13, .val (.long f), .second, .val (.long q), .second, .val (.ref v), .val (.long K38), .second, .val (.long c2), .second, .unset]) (st' := [(.long K38), (.long q)]) rfl ?_
          refine own_lif X40 d0_187 d0_188 (pc' := 204) (by decide) (fun c187 => ?_) (fun c187 => ?_)
          · have c187 : K38.toInt ≤ q.toInt := c187
            refine own_blk X40 B0_204_205 B0_204_205d (ls' := #[.val (.long q0), .second, .val (.int a1), .val (.int b1), .val (.int f1), .val (.int c1), .val (.int fl), .val (.long a), .second, .val (.long b), .second, .val (.int (1 : Int32)), .val (.int (1 : Int32)), s13, .val (.long f), .second, .val (.long q), .second, .val (.ref v), .val (.long K38), .second, .val (.long c2), .second, .unset]) (st' := [(.int (1 : Int32))]) rfl ?_
            refine own_goto X40 d0_205 (pc' := 209) (by decide) ?_
            refine own_blk X40 B0_209_215 B0_209_215d (ls' := #[.val (.long q0), .second, .val (.int a1), .val (.int b1), .val (.int f1), .val (.int c1), .val (.int fl), .val (.long a), .second, .val (.long b), .second, .val (.int (1 : Int32)), .val (.int (1 : Int32)), s13, .val (.long f), .second, .val (.long q), .second, .val (.ref v), .val (.long K38), .second, .val (.long c2), .second, .val (.int (1 : Int32))]) (st' := [(.long q), (.ref v)]) rfl ?_
            refine own_callV X40 (hw _ (List.mem_of_getElem? (i := 47) rfl)) (hw _ (List.mem_of_getElem? (i := 48) rfl)) (hw _ (List.mem_of_getElem? (i := 50) rfl)) (hw _ (List.mem_of_getElem? (i := 49) rfl)) (hw _ (List.mem_of_getElem? (i := 4) rfl)) (hw _ (List.mem_of_getElem? (i := 51) rfl)) (by decide) (own_S_exa R40) (c_holds l Z a0 hw v q B38 K38 n40 (fun k => k = a.toInt ∨ k = b.toInt ∨ k = c2.toInt) h40 n0 X40.2.1 R40 hB38 hBK38) d0_215 [(.long q)] [] rfl rfl pd6 rfl rfl (by decide) (Nat.le_of_ble_eq_true rfl) (by decide) (by decide) (fun _ _ q => by obtain ⟨_, _, q2, _⟩ := q; rw [q2]; exact X40.2.1) (fun v41 h41 T41 X41 q41 => ?_)
            obtain ⟨z41, rfl, e41, hz41⟩ := q41
            rw [e41] at X41
            show own_G p e below (T41.setTop (mkF m 218 #[.val (.long q0), .second, .val (.int a1), .val (.int b1), .val (.int f1), .val (.int c1), .val (.int fl), .val (.long a), .second, .val (.long b), .second, .val (.int (1 : Int32)), .val (.int (1 : Int32)), s13, .val (.long f), .second, .val (.long q), .second, .val (.ref v), .val (.long K38), .second, .val (.long c2), .second, .val (.int (1 : Int32))] [(.int z41)])) _
            have hz41 : (z41.toInt = 1 ∧ K38.toInt ≤ q.toInt ∧ (q.toInt = a.toInt ∨ q.toInt = b.toInt ∨ q.toInt = c2.toInt)) ∨ (z41.toInt = 0 ∧ ¬ (K38.toInt ≤ q.toInt ∧ (q.toInt = a.toInt ∨ q.toInt = b.toInt ∨ q.toInt = c2.toInt))) := hz41
            refine own_blk X41 B0_218_220 B0_218_220d (ls' := #[.val (.long q0), .second, .val (.int a1), .val (.int b1), .val (.int f1), .val (.int c1), .val (.int fl), .val (.long a), .second, .val (.long b), .second, .val (.int (1 : Int32)), .val (.int (1 : Int32)), s13, .val (.long f), .second, .val (.long q), .second, .val (.ref v), .val (.long K38), .second, .val (.long c2), .second, .val (.int (1 : Int32))]) (st' := [(.int (1 : Int32)), (.int z41)]) rfl ?_
            refine own_icmp X41 d0_220 (pc' := 227) (by decide) (fun (c220 : ¬ z41.toInt = 1) => by exfalso; omega) (fun c220 => ?_)
            have c220 : ¬ (¬ z41.toInt = 1) := c220
            refine own_blk X41 B0_223_224 B0_223_224d (ls' := #[.val (.long q0), .second, .val (.int a1), .val (.int b1), .val (.int f1), .val (.int c1), .val (.int fl), .val (.long a), .second, .val (.long b), .second, .val (.int (1 : Int32)), .val (.int (1 : Int32)), s13, .val (.long f), .second, .val (.long q), .second, .val (.ref v), .val (.long K38), .second, .val (.long c2), .second, .val (.int (1 : Int32))]) (st' := [(.int (1 : Int32))]) rfl ?_
            refine own_goto X41 d0_224 (pc' := 228) (by decide) ?_
            exact own_retN X41 (by simp) d0_228 (v' := (1 : Int32)) (rfl) (by decide) (by decide) (rfl)
          · have c187 : ¬ (K38.toInt ≤ q.toInt) := c187
            refine own_blk X40 B0_191_193 B0_191_193d (ls' := #[.val (.long q0), .second, .val (.int a1), .val (.int b1), .val (.int f1), .val (.int c1), .val (.int fl), .val (.long a), .second, .val (.long b), .second, .val (.int (1 : Int32)), .val (.int (1 : Int32)), s13, .val (.long f), .second, .val (.long q), .second, .val (.ref v), .val (.long K38), .second, .val (.long c2), .second, .unset]) (st' := [(.int (1 : Int32))]) rfl ?_
            refine own_if X40 d0_193 (pc' := 208) (by decide) (fun (c193 : (1 : Int) = 0) => by exfalso; omega) (fun c193 => ?_)
            have c193 : ¬ ((1 : Int) = 0) := c193
            refine own_blk X40 B0_196_200 B0_196_200d (ls' := #[.val (.long q0), .second, .val (.int a1), .val (.int b1), .val (.int f1), .val (.int c1), .val (.int fl), .val (.long a), .second, .val (.long b), .second, .val (.int (1 : Int32)), .val (.int (1 : Int32)), s13, .val (.long f), .second, .val (.long q), .second, .val (.ref v), .val (.long K38), .second, .val (.long c2), .second, .unset]) (st' := [(.long c2), (.long q)]) rfl ?_
            refine own_lif X40 d0_200 d0_201 (pc' := 208) (by decide) (fun c200 => ?_) (fun c200 => ?_)
            · have c200 : ¬ q.toInt = c2.toInt := c200
              refine own_blk X40 B0_208_215 B0_208_215d (ls' := #[.val (.long q0), .second, .val (.int a1), .val (.int b1), .val (.int f1), .val (.int c1), .val (.int fl), .val (.long a), .second, .val (.long b), .second, .val (.int (1 : Int32)), .val (.int (1 : Int32)), s13, .val (.long f), .second, .val (.long q), .second, .val (.ref v), .val (.long K38), .second, .val (.long c2), .second, .val (.int (0 : Int32))]) (st' := [(.long q), (.ref v)]) rfl ?_
              refine own_callV X40 (hw _ (List.mem_of_getElem? (i := 47) rfl)) (hw _ (List.mem_of_getElem? (i := 48) rfl)) (hw _ (List.mem_of_getElem? (i := 50) rfl)) (hw _ (List.mem_of_getElem? (i := 49) rfl)) (hw _ (List.mem_of_getElem? (i := 4) rfl)) (hw _ (List.mem_of_getElem? (i := 51) rfl)) (by decide) (own_S_exa R40) (c_holds l Z a0 hw v q B38 K38 n40 (fun k => k = a.toInt ∨ k = b.toInt ∨ k = c2.toInt) h40 n0 X40.2.1 R40 hB38 hBK38) d0_215 [(.long q)] [] rfl rfl pd6 rfl rfl (by decide) (Nat.le_of_ble_eq_true rfl) (by decide) (by decide) (fun _ _ q => by obtain ⟨_, _, q2, _⟩ := q; rw [q2]; exact X40.2.1) (fun v42 h42 T42 X42 q42 => ?_)
              obtain ⟨z42, rfl, e42, hz42⟩ := q42
              rw [e42] at X42
              show own_G p e below (T42.setTop (mkF m 218 #[.val (.long q0), .second, .val (.int a1), .val (.int b1), .val (.int f1), .val (.int c1), .val (.int fl), .val (.long a), .second, .val (.long b), .second, .val (.int (1 : Int32)), .val (.int (1 : Int32)), s13, .val (.long f), .second, .val (.long q), .second, .val (.ref v), .val (.long K38), .second, .val (.long c2), .second, .val (.int (0 : Int32))] [(.int z42)])) _
              have hz42 : (z42.toInt = 1 ∧ K38.toInt ≤ q.toInt ∧ (q.toInt = a.toInt ∨ q.toInt = b.toInt ∨ q.toInt = c2.toInt)) ∨ (z42.toInt = 0 ∧ ¬ (K38.toInt ≤ q.toInt ∧ (q.toInt = a.toInt ∨ q.toInt = b.toInt ∨ q.toInt = c2.toInt))) := hz42
              refine own_blk X42 B0_218_220 B0_218_220d (ls' := #[.val (.long q0), .second, .val (.int a1), .val (.int b1), .val (.int f1), .val (.int c1), .val (.int fl), .val (.long a), .second, .val (.long b), .second, .val (.int (1 : Int32)), .val (.int (1 : Int32)), s13, .val (.long f), .second, .val (.long q), .second, .val (.ref v), .val (.long K38), .second, .val (.long c2), .second, .val (.int (0 : Int32))]) (st' := [(.int (0 : Int32)), (.int z42)]) rfl ?_
              refine own_icmp X42 d0_220 (pc' := 227) (by decide) (fun (c220 : ¬ z42.toInt = 0) => by exfalso; omega) (fun c220 => ?_)
              have c220 : ¬ (¬ z42.toInt = 0) := c220
              refine own_blk X42 B0_223_224 B0_223_224d (ls' := #[.val (.long q0), .second, .val (.int a1), .val (.int b1), .val (.int f1), .val (.int c1), .val (.int fl), .val (.long a), .second, .val (.long b), .second, .val (.int (1 : Int32)), .val (.int (1 : Int32)), s13, .val (.long f), .second, .val (.long q), .second, .val (.ref v), .val (.long K38), .second, .val (.long c2), .second, .val (.int (0 : Int32))]) (st' := [(.int (1 : Int32))]) rfl ?_
              refine own_goto X42 d0_224 (pc' := 228) (by decide) ?_
              exact own_retN X42 (by simp) d0_228 (v' := (1 : Int32)) (rfl) (by decide) (by decide) (rfl)
            · have c200 : ¬ (¬ q.toInt = c2.toInt) := c200
              refine own_blk X40 B0_204_205 B0_204_205d (ls' := #[.val (.long q0), .second, .val (.int a1), .val (.int b1), .val (.int f1), .val (.int c1), .val (.int fl), .val (.long a), .second, .val (.long b), .second, .val (.int (1 : Int32)), .val (.int (1 : Int32)), s13, .val (.long f), .second, .val (.long q), .second, .val (.ref v), .val (.long K38), .second, .val (.long c2), .second, .unset]) (st' := [(.int (1 : Int32))]) rfl ?_
              refine own_goto X40 d0_205 (pc' := 209) (by decide) ?_
              refine own_blk X40 B0_209_215 B0_209_215d (ls' := #[.val (.long q0), .second, .val (.int a1), .val (.int b1), .val (.int f1), .val (.int c1), .val (.int fl), .val (.long a), .second, .val (.long b), .second, .val (.int (1 : Int32)), .val (.int (1 : Int32)), s13, .val (.long f), .second, .val (.long q), .second, .val (.ref v), .val (.long K38), .second, .val (.long c2), .second, .val (.int (1 : Int32))]) (st' := [(.long q), (.ref v)]) rfl ?_
              refine own_callV X40 (hw _ (List.mem_of_getElem? (i := 47) rfl)) (hw _ (List.mem_of_getElem? (i := 48) rfl)) (hw _ (List.mem_of_getElem? (i := 50) rfl)) (hw _ (List.mem_of_getElem? (i := 49) rfl)) (hw _ (List.mem_of_getElem? (i := 4) rfl)) (hw _ (List.mem_of_getElem? (i := 51) rfl)) (by decide) (own_S_exa R40) (c_holds l Z a0 hw v q B38 K38 n40 (fun k => k = a.toInt ∨ k = b.toInt ∨ k = c2.toInt) h40 n0 X40.2.1 R40 hB38 hBK38) d0_215 [(.long q)] [] rfl rfl pd6 rfl rfl (by decide) (Nat.le_of_ble_eq_true rfl) (by decide) (by decide) (fun _ _ q => by obtain ⟨_, _, q2, _⟩ := q; rw [q2]; exact X40.2.1) (fun v43 h43 T43 X43 q43 => ?_)
              obtain ⟨z43, rfl, e43, hz43⟩ := q43
              rw [e43] at X43
              show own_G p e below (T43.setTop (mkF m 218 #[.val (.long q0), .second, .val (.int a1), .val (.int b1), .val (.int f1), .val (.int c1), .val (.int fl), .val (.long a), .second, .val (.long b), .second, .val (.int (1 : Int32)), .val (.int (1 : Int32)), s13, .val (.long f), .second, .val (.long q), .second, .val (.ref v), .val (.long K38), .second, .val (.long c2), .second, .val (.int (1 : Int32))] [(.int z43)])) _
              have hz43 : (z43.toInt = 1 ∧ K38.toInt ≤ q.toInt ∧ (q.toInt = a.toInt ∨ q.toInt = b.toInt ∨ q.toInt = c2.toInt)) ∨ (z43.toInt = 0 ∧ ¬ (K38.toInt ≤ q.toInt ∧ (q.toInt = a.toInt ∨ q.toInt = b.toInt ∨ q.toInt = c2.toInt))) := hz43
              refine own_blk X43 B0_218_220 B0_218_220d (ls' := #[.val (.long q0), .second, .val (.int a1), .val (.int b1), .val (.int f1), .val (.int c1), .val (.int fl), .val (.long a), .second, .val (.long b), .second, .val (.int (1 : Int32)), .val (.int (1 : Int32)), s13, .val (.long f), .second, .val (.long q), .second, .val (.ref v), .val (.long K38), .second, .val (.long c2), .second, .val (.int (1 : Int32))]) (st' := [(.int (1 : Int32)), (.int z43)]) rfl ?_
              refine own_icmp X43 d0_220 (pc' := 227) (by decide) (fun (c220 : ¬ z43.toInt = 1) => by exfalso; omega) (fun c220 => ?_)
              have c220 : ¬ (¬ z43.toInt = 1) := c220
              refine own_blk X43 B0_223_224 B0_223_224d (ls' := #[.val (.long q0), .second, .val (.int a1), .val (.int b1), .val (.int f1), .val (.int c1), .val (.int fl), .val (.long a), .second, .val (.long b), .second, .val (.int (1 : Int32)), .val (.int (1 : Int32)), s13, .val (.long f), .second, .val (.long q), .second, .val (.ref v), .val (.long K38), .second, .val (.long c2), .second, .val (.int (1 : Int32))]) (st' := [(.int (1 : Int32))]) rfl ?_
              refine own_goto X43 d0_224 (pc' := 228) (by decide) ?_
              exact own_retN X43 (by simp) d0_228 (v' := (1 : Int32)) (rfl) (by decide) (by decide) (rfl)
        · have c171 : ¬ (q.toInt = a.toInt) := c171
          refine own_blk X40 B0_175_179 B0_175_179d (ls' := #[.val (.long q0), .second, .val (.int a1), .val (.int b1), .val (.int f1), .val (.int c1), .val (.int fl), .val (.long a), .second, .val (.long b), .second, .val (.int (1 : Int32)), .val (.int (1 : Int32)), s13, .val (.long f), .second, .val (.long q), .second, .val (.ref v), .val (.long K38), .second, .val (.long c2), .second, .unset]) (st' := [(.long b), (.long q)]) rfl ?_
          refine own_lif X40 d0_179 d0_180 (pc' := 191) (by decide) (fun c179 => ?_) (fun c179 => ?_)
          · have c179 : ¬ q.toInt = b.toInt := c179
            refine own_blk X40 B0_191_193 B0_191_193d (ls' := #[.val (.long q0), .second, .val (.int a1), .val (.int b1), .val (.int f1), .val (.int c1), .val (.int fl), .val (.long a), .second, .val (.long b), .second, .val (.int (1 : Int32)), .val (.int (1 : Int32)), s13, .val (.long f), .second, .val (.long q), .second, .val (.ref v), .val (.long K38), .second, .val (.long c2), .second, .unset]) (st' := [(.int (1 : Int32))]) rfl ?_
            refine own_if X40 d0_193 (pc' := 208) (by decide) (fun (c193 : (1 : Int) = 0) => by exfalso; omega) (fun c193 => ?_)
            have c193 : ¬ ((1 : Int) = 0) := c193
            refine own_blk X40 B0_196_200 B0_196_200d (ls' := #[.val (.long q0), .second, .val (.int a1), .val (.int b1), .val (.int f1), .val (.int c1), .val (.int fl), .val (.long a), .second, .val (.long b), .second, .val (.int (1 : Int32)), .val (.int (1 : Int32)), s13, .val (.long f), .second, .val (.long q), .second, .val (.ref v), .val (.long K38), .second, .val (.long c2), .second, .unset]) (st' := [(.long c2), (.long q)]) rfl ?_
            refine own_lif X40 d0_200 d0_201 (pc' := 208) (by decide) (fun c200 => ?_) (fun c200 => ?_)
            · have c200 : ¬ q.toInt = c2.toInt := c200
              refine own_blk X40 B0_208_215 B0_208_215d (ls' := #[.val (.long q0), .second, .val (.int a1), .val (.int b1), .val (.int f1), .val (.int c1), .val (.int fl), .val (.long a), .second, .val (.long b), .second, .val (.int (1 : Int32)), .val (.int (1 : Int32)), s13, .val (.long f), .second, .val (.long q), .second, .val (.ref v), .val (.long K38), .second, .val (.long c2), .second, .val (.int (0 : Int32))]) (st' := [(.long q), (.ref v)]) rfl ?_
              refine own_callV X40 (hw _ (List.mem_of_getElem? (i := 47) rfl)) (hw _ (List.mem_of_getElem? (i := 48) rfl)) (hw _ (List.mem_of_getElem? (i := 50) rfl)) (hw _ (List.mem_of_getElem? (i := 49) rfl)) (hw _ (List.mem_of_getElem? (i := 4) rfl)) (hw _ (List.mem_of_getElem? (i := 51) rfl)) (by decide) (own_S_exa R40) (c_holds l Z a0 hw v q B38 K38 n40 (fun k => k = a.toInt ∨ k = b.toInt ∨ k = c2.toInt) h40 n0 X40.2.1 R40 hB38 hBK38) d0_215 [(.long q)] [] rfl rfl pd6 rfl rfl (by decide) (Nat.le_of_ble_eq_true rfl) (by decide) (by decide) (fun _ _ q => by obtain ⟨_, _, q2, _⟩ := q; rw [q2]; exact X40.2.1) (fun v44 h44 T44 X44 q44 => ?_)
              obtain ⟨z44, rfl, e44, hz44⟩ := q44
              rw [e44] at X44
              show own_G p e below (T44.setTop (mkF m 218 #[.val (.long q0), .second, .val (.int a1), .val (.int b1), .val (.int f1), .val (.int c1), .val (.int fl), .val (.long a), .second, .val (.long b), .second, .val (.int (1 : Int32)), .val (.int (1 : Int32)), s13, .val (.long f), .second, .val (.long q), .second, .val (.ref v), .val (.long K38), .second, .val (.long c2), .second, .val (.int (0 : Int32))] [(.int z44)])) _
              have hz44 : (z44.toInt = 1 ∧ K38.toInt ≤ q.toInt ∧ (q.toInt = a.toInt ∨ q.toInt = b.toInt ∨ q.toInt = c2.toInt)) ∨ (z44.toInt = 0 ∧ ¬ (K38.toInt ≤ q.toInt ∧ (q.toInt = a.toInt ∨ q.toInt = b.toInt ∨ q.toInt = c2.toInt))) := hz44
              refine own_blk X44 B0_218_220 B0_218_220d (ls' := #[.val (.long q0), .second, .val (.int a1), .val (.int b1), .val (.int f1), .val (.int c1), .val (.int fl), .val (.long a), .second, .val (.long b), .second, .val (.int (1 : Int32)), .val (.int (1 : Int32)), s13, .val (.long f), .second, .val (.long q), .second, .val (.ref v), .val (.long K38), .second, .val (.long c2), .second, .val (.int (0 : Int32))]) (st' := [(.int (0 : Int32)), (.int z44)]) rfl ?_
              refine own_icmp X44 d0_220 (pc' := 227) (by decide) (fun (c220 : ¬ z44.toInt = 0) => by exfalso; omega) (fun c220 => ?_)
              have c220 : ¬ (¬ z44.toInt = 0) := c220
              refine own_blk X44 B0_223_224 B0_223_224d (ls' := #[.val (.long q0), .second, .val (.int a1), .val (.int b1), .val (.int f1), .val (.int c1), .val (.int fl), .val (.long a), .second, .val (.long b), .second, .val (.int (1 : Int32)), .val (.int (1 : Int32)), s13, .val (.long f), .second, .val (.long q), .second, .val (.ref v), .val (.long K38), .second, .val (.long c2), .second, .val (.int (0 : Int32))]) (st' := [(.int (1 : Int32))]) rfl ?_
              refine own_goto X44 d0_224 (pc' := 228) (by decide) ?_
              exact own_retN X44 (by simp) d0_228 (v' := (1 : Int32)) (rfl) (by decide) (by decide) (rfl)
            · have c200 : ¬ (¬ q.toInt = c2.toInt) := c200
              refine own_blk X40 B0_204_205 B0_204_205d (ls' := #[.val (.long q0), .second, .val (.int a1), .val (.int b1), .val (.int f1), .val (.int c1), .val (.int fl), .val (.long a), .second, .val (.long b), .second, .val (.int (1 : Int32)), .val (.int (1 : Int32)), s13, .val (.long f), .second, .val (.long q), .second, .val (.ref v), .val (.long K38), .second, .val (.long c2), .second, .unset]) (st' := [(.int (1 : Int32))]) rfl ?_
              refine own_goto X40 d0_205 (pc' := 209) (by decide) ?_
              refine own_blk X40 B0_209_215 B0_209_215d (ls' := #[.val (.long q0), .second, .val (.int a1), .val (.int b1), .val (.int f1), .val (.int c1), .val (.int fl), .val (.long a), .second, .val (.long b), .second, .val (.int (1 : Int32)), .val (.int (1 : Int32)), s13, .val (.long f), .second, .val (.long q), .second, .val (.ref v), .val (.long K38), .second, .val (.long c2), .second, .val (.int (1 : Int32))]) (st' := [(.long q), (.ref v)]) rfl ?_
              refine own_callV X40 (hw _ (List.mem_of_getElem? (i := 47) rfl)) (hw _ (List.mem_of_getElem? (i := 48) rfl)) (hw _ (List.mem_of_getElem? (i := 50) rfl)) (hw _ (List.mem_of_getElem? (i := 49) rfl)) (hw _ (List.mem_of_getElem? (i := 4) rfl)) (hw _ (List.mem_of_getElem? (i := 51) rfl)) (by decide) (own_S_exa R40) (c_holds l Z a0 hw v q B38 K38 n40 (fun k => k = a.toInt ∨ k = b.toInt ∨ k = c2.toInt) h40 n0 X40.2.1 R40 hB38 hBK38) d0_215 [(.long q)] [] rfl rfl pd6 rfl rfl (by decide) (Nat.le_of_ble_eq_true rfl) (by decide) (by decide) (fun _ _ q => by obtain ⟨_, _, q2, _⟩ := q; rw [q2]; exact X40.2.1) (fun v45 h45 T45 X45 q45 => ?_)
              obtain ⟨z45, rfl, e45, hz45⟩ := q45
              rw [e45] at X45
              show own_G p e below (T45.setTop (mkF m 218 #[.val (.long q0), .second, .val (.int a1), .val (.int b1), .val (.int f1), .val (.int c1), .val (.int fl), .val (.long a), .second, .val (.long b), .second, .val (.int (1 : Int32)), .val (.int (1 : Int32)), s13, .val (.long f), .second, .val (.long q), .second, .val (.ref v), .val (.long K38), .second, .val (.long c2), .second, .val (.int (1 : Int32))] [(.int z45)])) _
              have hz45 : (z45.toInt = 1 ∧ K38.toInt ≤ q.toInt ∧ (q.toInt = a.toInt ∨ q.toInt = b.toInt ∨ q.toInt = c2.toInt)) ∨ (z45.toInt = 0 ∧ ¬ (K38.toInt ≤ q.toInt ∧ (q.toInt = a.toInt ∨ q.toInt = b.toInt ∨ q.toInt = c2.toInt))) := hz45
              refine own_blk X45 B0_218_220 B0_218_220d (ls' := #[.val (.long q0), .second, .val (.int a1), .val (.int b1), .val (.int f1), .val (.int c1), .val (.int fl), .val (.long a), .second, .val (.long b), .second, .val (.int (1 : Int32)), .val (.int (1 : Int32)), s13, .val (.long f), .second, .val (.long q), .second, .val (.ref v), .val (.long K38), .second, .val (.long c2), .second, .val (.int (1 : Int32))]) (st' := [(.int (1 : Int32)), (.int z45)]) rfl ?_
              refine own_icmp X45 d0_220 (pc' := 227) (by decide) (fun (c220 : ¬ z45.toInt = 1) => by exfalso; omega) (fun c220 => ?_)
              have c220 : ¬ (¬ z45.toInt = 1) := c220
              refine own_blk X45 B0_223_224 B0_223_224d (ls' := #[.val (.long q0), .second, .val (.int a1), .val (.int b1), .val (.int f1), .val (.int c1), .val (.int fl), .val (.long a), .second, .val (.long b), .second, .val (.int (1 : Int32)), .val (.int (1 : Int32)), s13, .val (.long f), .second, .val (.long q), .second, .val (.ref v), .val (.long K38), .second, .val (.long c2), .second, .val (.int (1 : Int32))]) (st' := [(.int (1 : Int32))]) rfl ?_
              refine own_goto X45 d0_224 (pc' := 228) (by decide) ?_
              exact own_retN X45 (by simp) d0_228 (v' := (1 : Int32)) (rfl) (by decide) (by decide) (rfl)
          · have c179 : ¬ (¬ q.toInt = b.toInt) := c179
            refine own_blk X40 B0_183_187 B0_183_187d (ls' := #[.val (.long q0), .second, .val (.int a1), .val (.int b1), .val (.int f1), .val (.int c1), .val (.int fl), .val (.long a), .second, .val (.long b), .second, .val (.int (1 : Int32)), .val (.int (1 : Int32)), s13, .val (.long f), .second, .val (.long q), .second, .val (.ref v), .val (.long K38), .second, .val (.long c2), .second, .unset]) (st' := [(.long K38), (.long q)]) rfl ?_
            refine own_lif X40 d0_187 d0_188 (pc' := 204) (by decide) (fun c187 => ?_) (fun c187 => ?_)
            · have c187 : K38.toInt ≤ q.toInt := c187
              refine own_blk X40 B0_204_205 B0_204_205d (ls' := #[.val (.long q0), .second, .val (.int a1), .val (.int b1), .val (.int f1), .val (.int c1), .val (.int fl), .val (.long a), .second, .val (.long b), .second, .val (.int (1 : Int32)), .val (.int (1 : Int32)), s13, .val (.long f), .second, .val (.long q), .second, .val (.ref v), .val (.long K38), .second, .val (.long c2), .second, .unset]) (st' := [(.int (1 : Int32))]) rfl ?_
              refine own_goto X40 d0_205 (pc' := 209) (by decide) ?_
              refine own_blk X40 B0_209_215 B0_209_215d (ls' := #[.val (.long q0), .second, .val (.int a1), .val (.int b1), .val (.int f1), .val (.int c1), .val (.int fl), .val (.long a), .second, .val (.long b), .second, .val (.int (1 : Int32)), .val (.int (1 : Int32)), s13, .val (.long f), .second, .val (.long q), .second, .val (.ref v), .val (.long K38), .second, .val (.long c2), .second, .val (.int (1 : Int32))]) (st' := [(.long q), (.ref v)]) rfl ?_
              refine own_callV X40 (hw _ (List.mem_of_getElem? (i := 47) rfl)) (hw _ (List.mem_of_getElem? (i := 48) rfl)) (hw _ (List.mem_of_getElem? (i := 50) rfl)) (hw _ (List.mem_of_getElem? (i := 49) rfl)) (hw _ (List.mem_of_getElem? (i := 4) rfl)) (hw _ (List.mem_of_getElem? (i := 51) rfl)) (by decide) (own_S_exa R40) (c_holds l Z a0 hw v q B38 K38 n40 (fun k => k = a.toInt ∨ k = b.toInt ∨ k = c2.toInt) h40 n0 X40.2.1 R40 hB38 hBK38) d0_215 [(.long q)] [] rfl rfl pd6 rfl rfl (by decide) (Nat.le_of_ble_eq_true rfl) (by decide) (by decide) (fun _ _ q => by obtain ⟨_, _, q2, _⟩ := q; rw [q2]; exact X40.2.1) (fun v46 h46 T46 X46 q46 => ?_)
              obtain ⟨z46, rfl, e46, hz46⟩ := q46
              rw [e46] at X46
              show own_G p e below (T46.setTop (mkF m 218 #[.val (.long q0), .second, .val (.int a1), .val (.int b1), .val (.int f1), .val (.int c1), .val (.int fl), .val (.long a), .second, .val (.long b), .second, .val (.int (1 : Int32)), .val (.int (1 : Int32)), s13, .val (.long f), .second, .val (.long q), .second, .val (.ref v), .val (.long K38), .second, .val (.long c2), .second, .val (.int (1 : Int32))] [(.int z46)])) _
              have hz46 : (z46.toInt = 1 ∧ K38.toInt ≤ q.toInt ∧ (q.toInt = a.toInt ∨ q.toInt = b.toInt ∨ q.toInt = c2.toInt)) ∨ (z46.toInt = 0 ∧ ¬ (K38.toInt ≤ q.toInt ∧ (q.toInt = a.toInt ∨ q.toInt = b.toInt ∨ q.toInt = c2.toInt))) := hz46
              refine own_blk X46 B0_218_220 B0_218_220d (ls' := #[.val (.long q0), .second, .val (.int a1), .val (.int b1), .val (.int f1), .val (.int c1), .val (.int fl), .val (.long a), .second, .val (.long b), .second, .val (.int (1 : Int32)), .val (.int (1 : Int32)), s13, .val (.long f), .second, .val (.long q), .second, .val (.ref v), .val (.long K38), .second, .val (.long c2), .second, .val (.int (1 : Int32))]) (st' := [(.int (1 : Int32)), (.int z46)]) rfl ?_
              refine own_icmp X46 d0_220 (pc' := 227) (by decide) (fun (c220 : ¬ z46.toInt = 1) => by exfalso; omega) (fun c220 => ?_)
              have c220 : ¬ (¬ z46.toInt = 1) := c220
              refine own_blk X46 B0_223_224 B0_223_224d (ls' := #[.val (.long q0), .second, .val (.int a1), .val (.int b1), .val (.int f1), .val (.int c1), .val (.int fl), .val (.long a), .second, .val (.long b), .second, .val (.int (1 : Int32)), .val (.int (1 : Int32)), s13, .val (.long f), .second, .val (.long q), .second, .val (.ref v), .val (.long K38), .second, .val (.long c2), .second, .val (.int (1 : Int32))]) (st' := [(.int (1 : Int32))]) rfl ?_
              refine own_goto X46 d0_224 (pc' := 228) (by decide) ?_
              exact own_retN X46 (by simp) d0_228 (v' := (1 : Int32)) (rfl) (by decide) (by decide) (rfl)
            · have c187 : ¬ (K38.toInt ≤ q.toInt) := c187
              refine own_blk X40 B0_191_193 B0_191_193d (ls' := #[.val (.long q0), .second, .val (.int a1), .val (.int b1), .val (.int f1), .val (.int c1), .val (.int fl), .val (.long a), .second, .val (.long b), .second, .val (.int (1 : Int32)), .val (.int (1 : Int32)), s13, .val (.long f), .second, .val (.long q), .second, .val (.ref v), .val (.long K38), .second, .val (.long c2), .second, .unset]) (st' := [(.int (1 : Int32))]) rfl ?_
              refine own_if X40 d0_193 (pc' := 208) (by decide) (fun (c193 : (1 : Int) = 0) => by exfalso; omega) (fun c193 => ?_)
              have c193 : ¬ ((1 : Int) = 0) := c193
              refine own_blk X40 B0_196_200 B0_196_200d (ls' := #[.val (.long q0), .second, .val (.int a1), .val (.int b1), .val (.int f1), .val (.int c1), .val (.int fl), .val (.long a), .second, .val (.long b), .second, .val (.int (1 : Int32)), .val (.int (1 : Int32)), s13, .val (.long f), .second, .val (.long q), .second, .val (.ref v), .val (.long K38), .second, .val (.long c2), .second, .unset]) (st' := [(.long c2), (.long q)]) rfl ?_
              refine own_lif X40 d0_200 d0_201 (pc' := 208) (by decide) (fun c200 => ?_) (fun c200 => ?_)
              · have c200 : ¬ q.toInt = c2.toInt := c200
                refine own_blk X40 B0_208_215 B0_208_215d (ls' := #[.val (.long q0), .second, .val (.int a1), .val (.int b1), .val (.int f1), .val (.int c1), .val (.int fl), .val (.long a), .second, .val (.long b), .second, .val (.int (1 : Int32)), .val (.int (1 : Int32)), s13, .val (.long f), .second, .val (.long q), .second, .val (.ref v), .val (.long K38), .second, .val (.long c2), .second, .val (.int (0 : Int32))]) (st' := [(.long q), (.ref v)]) rfl ?_
                refine own_callV X40 (hw _ (List.mem_of_getElem? (i := 47) rfl)) (hw _ (List.mem_of_getElem? (i := 48) rfl)) (hw _ (List.mem_of_getElem? (i := 50) rfl)) (hw _ (List.mem_of_getElem? (i := 49) rfl)) (hw _ (List.mem_of_getElem? (i := 4) rfl)) (hw _ (List.mem_of_getElem? (i := 51) rfl)) (by decide) (own_S_exa R40) (c_holds l Z a0 hw v q B38 K38 n40 (fun k => k = a.toInt ∨ k = b.toInt ∨ k = c2.toInt) h40 n0 X40.2.1 R40 hB38 hBK38) d0_215 [(.long q)] [] rfl rfl pd6 rfl rfl (by decide) (Nat.le_of_ble_eq_true rfl) (by decide) (by decide) (fun _ _ q => by obtain ⟨_, _, q2, _⟩ := q; rw [q2]; exact X40.2.1) (fun v47 h47 T47 X47 q47 => ?_)
                obtain ⟨z47, rfl, e47, hz47⟩ := q47
                rw [e47] at X47
                show own_G p e below (T47.setTop (mkF m 218 #[.val (.long q0), .second, .val (.int a1), .val (.int b1), .val (.int f1), .val (.int c1), .val (.int fl), .val (.long a), .second, .val (.long b), .second, .val (.int (1 : Int32)), .val (.int (1 : Int32)), s13, .val (.long f), .second, .val (.long q), .second, .val (.ref v), .val (.long K38), .second, .val (.long c2), .second, .val (.int (0 : Int32))] [(.int z47)])) _
                have hz47 : (z47.toInt = 1 ∧ K38.toInt ≤ q.toInt ∧ (q.toInt = a.toInt ∨ q.toInt = b.toInt ∨ q.toInt = c2.toInt)) ∨ (z47.toInt = 0 ∧ ¬ (K38.toInt ≤ q.toInt ∧ (q.toInt = a.toInt ∨ q.toInt = b.toInt ∨ q.toInt = c2.toInt))) := hz47
                refine own_blk X47 B0_218_220 B0_218_220d (ls' := #[.val (.long q0), .second, .val (.int a1), .val (.int b1), .val (.int f1), .val (.int c1), .val (.int fl), .val (.long a), .second, .val (.long b), .second, .val (.int (1 : Int32)), .val (.int (1 : Int32)), s13, .val (.long f), .second, .val (.long q), .second, .val (.ref v), .val (.long K38), .second, .val (.long c2), .second, .val (.int (0 : Int32))]) (st' := [(.int (0 : Int32)), (.int z47)]) rfl ?_
                refine own_icmp X47 d0_220 (pc' := 227) (by decide) (fun (c220 : ¬ z47.toInt = 0) => by exfalso; omega) (fun c220 => ?_)
                have c220 : ¬ (¬ z47.toInt = 0) := c220
                refine own_blk X47 B0_223_224 B0_223_224d (ls' := #[.val (.long q0), .second, .val (.int a1), .val (.int b1), .val (.int f1), .val (.int c1), .val (.int fl), .val (.long a), .second, .val (.long b), .second, .val (.int (1 : Int32)), .val (.int (1 : Int32)), s13, .val (.long f), .second, .val (.long q), .second, .val (.ref v), .val (.long K38), .second, .val (.long c2), .second, .val (.int (0 : Int32))]) (st' := [(.int (1 : Int32))]) rfl ?_
                refine own_goto X47 d0_224 (pc' := 228) (by decide) ?_
                exact own_retN X47 (by simp) d0_228 (v' := (1 : Int32)) (rfl) (by decide) (by decide) (rfl)
              · have c200 : ¬ (¬ q.toInt = c2.toInt) := c200
                refine own_blk X40 B0_204_205 B0_204_205d (ls' := #[.val (.long q0), .second, .val (.int a1), .val (.int b1), .val (.int f1), .val (.int c1), .val (.int fl), .val (.long a), .second, .val (.long b), .second, .val (.int (1 : Int32)), .val (.int (1 : Int32)), s13, .val (.long f), .second, .val (.long q), .second, .val (.ref v), .val (.long K38), .second, .val (.long c2), .second, .unset]) (st' := [(.int (1 : Int32))]) rfl ?_
                refine own_goto X40 d0_205 (pc' := 209) (by decide) ?_
                refine own_blk X40 B0_209_215 B0_209_215d (ls' := #[.val (.long q0), .second, .val (.int a1), .val (.int b1), .val (.int f1), .val (.int c1), .val (.int fl), .val (.long a), .second, .val (.long b), .second, .val (.int (1 : Int32)), .val (.int (1 : Int32)), s13, .val (.long f), .second, .val (.long q), .second, .val (.ref v), .val (.long K38), .second, .val (.long c2), .second, .val (.int (1 : Int32))]) (st' := [(.long q), (.ref v)]) rfl ?_
                refine own_callV X40 (hw _ (List.mem_of_getElem? (i := 47) rfl)) (hw _ (List.mem_of_getElem? (i := 48) rfl)) (hw _ (List.mem_of_getElem? (i := 50) rfl)) (hw _ (List.mem_of_getElem? (i := 49) rfl)) (hw _ (List.mem_of_getElem? (i := 4) rfl)) (hw _ (List.mem_of_getElem? (i := 51) rfl)) (by decide) (own_S_exa R40) (c_holds l Z a0 hw v q B38 K38 n40 (fun k => k = a.toInt ∨ k = b.toInt ∨ k = c2.toInt) h40 n0 X40.2.1 R40 hB38 hBK38) d0_215 [(.long q)] [] rfl rfl pd6 rfl rfl (by decide) (Nat.le_of_ble_eq_true rfl) (by decide) (by decide) (fun _ _ q => by obtain ⟨_, _, q2, _⟩ := q; rw [q2]; exact X40.2.1) (fun v48 h48 T48 X48 q48 => ?_)
                obtain ⟨z48, rfl, e48, hz48⟩ := q48
                rw [e48] at X48
                show own_G p e below (T48.setTop (mkF m 218 #[.val (.long q0), .second, .val (.int a1), .val (.int b1), .val (.int f1), .val (.int c1), .val (.int fl), .val (.long a), .second, .val (.long b), .second, .val (.int (1 : Int32)), .val (.int (1 : Int32)), s13, .val (.long f), .second, .val (.long q), .second, .val (.ref v), .val (.long K38), .second, .val (.long c2), .second, .val (.int (1 : Int32))] [(.int z48)])) _
                have hz48 : (z48.toInt = 1 ∧ K38.toInt ≤ q.toInt ∧ (q.toInt = a.toInt ∨ q.toInt = b.toInt ∨ q.toInt = c2.toInt)) ∨ (z48.toInt = 0 ∧ ¬ (K38.toInt ≤ q.toInt ∧ (q.toInt = a.toInt ∨ q.toInt = b.toInt ∨ q.toInt = c2.toInt))) := hz48
                refine own_blk X48 B0_218_220 B0_218_220d (ls' := #[.val (.long q0), .second, .val (.int a1), .val (.int b1), .val (.int f1), .val (.int c1), .val (.int fl), .val (.long a), .second, .val (.long b), .second, .val (.int (1 : Int32)), .val (.int (1 : Int32)), s13, .val (.long f), .second, .val (.long q), .second, .val (.ref v), .val (.long K38), .second, .val (.long c2), .second, .val (.int (1 : Int32))]) (st' := [(.int (1 : Int32)), (.int z48)]) rfl ?_
                refine own_icmp X48 d0_220 (pc' := 227) (by decide) (fun (c220 : ¬ z48.toInt = 1) => by exfalso; omega) (fun c220 => ?_)
                have c220 : ¬ (¬ z48.toInt = 1) := c220
                refine own_blk X48 B0_223_224 B0_223_224d (ls' := #[.val (.long q0), .second, .val (.int a1), .val (.int b1), .val (.int f1), .val (.int c1), .val (.int fl), .val (.long a), .second, .val (.long b), .second, .val (.int (1 : Int32)), .val (.int (1 : Int32)), s13, .val (.long f), .second, .val (.long q), .second, .val (.ref v), .val (.long K38), .second, .val (.long c2), .second, .val (.int (1 : Int32))]) (st' := [(.int (1 : Int32))]) rfl ?_
                refine own_goto X48 d0_224 (pc' := 228) (by decide) ?_
                exact own_retN X48 (by simp) d0_228 (v' := (1 : Int32)) (rfl) (by decide) (by decide) (rfl)
      refine own_blk X0 B0_46_50 B0_46_50d (ls' := #[.val (.long q0), .second, .val (.int a1), .val (.int b1), .val (.int f1), .val (.int c1), .val (.int fl), .val (.long a), .second, .val (.long b), .second, .val (.int (1 : Int32)), .val (.int (1 : Int32)), .unset, .unset, .unset, .unset, .unset, .unset, .unset, .unset, .unset, .unset, .unset]) (st' := [(.int (fl &&& (4 : Int32)))]) rfl ?_
      refine own_if X0 d0_50 (pc' := 57) (by decide) (fun c50 => ?_) (fun c50 => ?_)
      · have c50 : (fl &&& (4 : Int32)).toInt = 0 := c50
        refine own_blk X0 B0_57_71 B0_57_71d (ls' := #[.val (.long q0), .second, .val (.int a1), .val (.int b1), .val (.int f1), .val (.int c1), .val (.int fl), .val (.long a), .second, .val (.long b), .second, .val (.int (1 : Int32)), .val (.int (1 : Int32)), .val (.int (0 : Int32)), .val (.long ((f1 &&& (255 : Int32)).toInt64)), .second, .unset, .unset, .unset, .unset, .unset, .unset, .unset, .unset]) (st' := [(.int (0 : Int32))]) rfl ?_
        refine own_if X0 d0_71 (pc' := 78) (by decide) (fun c71 => ?_) (fun (c71 : ¬ ((0 : Int) = 0)) => by exfalso; omega)
        have c71 : (0 : Int) = 0 := c71
        refine own_blk X0 B0_78_79 B0_78_79d (ls' := #[.val (.long q0), .second, .val (.int a1), .val (.int b1), .val (.int f1), .val (.int c1), .val (.int fl), .val (.long a), .second, .val (.long b), .second, .val (.int (1 : Int32)), .val (.int (1 : Int32)), .val (.int (0 : Int32)), .val (.long ((f1 &&& (255 : Int32)).toInt64)), .second, .unset, .unset, .unset, .unset, .unset, .unset, .unset, .unset]) (st' := [(.long q0)]) rfl ?_
        refine own_ldc2 X0 (hw _ (List.mem_of_getElem? (i := 0) rfl)) d0_79 ?_
        refine own_blk X0 B0_82_83 B0_82_83d (ls' := #[.val (.long q0), .second, .val (.int a1), .val (.int b1), .val (.int f1), .val (.int c1), .val (.int fl), .val (.long a), .second, .val (.long b), .second, .val (.int (1 : Int32)), .val (.int (1 : Int32)), .val (.int (0 : Int32)), .val (.long ((f1 &&& (255 : Int32)).toInt64)), .second, .unset, .unset, .unset, .unset, .unset, .unset, .unset, .unset]) (st' := [(.long (q0 &&& (511 : Int64)))]) rfl ?_
        refine own_ldc2 X0 (hw _ (List.mem_of_getElem? (i := 1) rfl)) d0_83 ?_
        refine own_blk X0 B0_86_87 B0_86_87d (ls' := #[.val (.long q0), .second, .val (.int a1), .val (.int b1), .val (.int f1), .val (.int c1), .val (.int fl), .val (.long a), .second, .val (.long b), .second, .val (.int (1 : Int32)), .val (.int (1 : Int32)), .val (.int (0 : Int32)), .val (.long ((f1 &&& (255 : Int32)).toInt64)), .second, .unset, .unset, .unset, .unset, .unset, .unset, .unset, .unset]) (st' := [(.long ((q0 &&& (511 : Int64)) - (8 : Int64)))]) rfl ?_
        exact J87 _ _
      · have c50 : ¬ ((fl &&& (4 : Int32)).toInt = 0) := c50
        refine own_blk X0 B0_53_54 B0_53_54d (ls' := #[.val (.long q0), .second, .val (.int a1), .val (.int b1), .val (.int f1), .val (.int c1), .val (.int fl), .val (.long a), .second, .val (.long b), .second, .val (.int (1 : Int32)), .val (.int (1 : Int32)), .unset, .unset, .unset, .unset, .unset, .unset, .unset, .unset, .unset, .unset, .unset]) (st' := [(.int (1 : Int32))]) rfl ?_
        refine own_goto X0 d0_54 (pc' := 58) (by decide) ?_
        refine own_blk X0 B0_58_71 B0_58_71d (ls' := #[.val (.long q0), .second, .val (.int a1), .val (.int b1), .val (.int f1), .val (.int c1), .val (.int fl), .val (.long a), .second, .val (.long b), .second, .val (.int (1 : Int32)), .val (.int (1 : Int32)), .val (.int (1 : Int32)), .val (.long ((f1 &&& (255 : Int32)).toInt64)), .second, .unset, .unset, .unset, .unset, .unset, .unset, .unset, .unset]) (st' := [(.int (1 : Int32))]) rfl ?_
        refine own_if X0 d0_71 (pc' := 78) (by decide) (fun (c71 : (1 : Int) = 0) => by exfalso; omega) (fun c71 => ?_)
        have c71 : ¬ ((1 : Int) = 0) := c71
        refine own_blk X0 B0_74_75 B0_74_75d (ls' := #[.val (.long q0), .second, .val (.int a1), .val (.int b1), .val (.int f1), .val (.int c1), .val (.int fl), .val (.long a), .second, .val (.long b), .second, .val (.int (1 : Int32)), .val (.int (1 : Int32)), .val (.int (1 : Int32)), .val (.long ((f1 &&& (255 : Int32)).toInt64)), .second, .unset, .unset, .unset, .unset, .unset, .unset, .unset, .unset]) (st' := [(.long q0)]) rfl ?_
        refine own_goto X0 d0_75 (pc' := 87) (by decide) ?_
        exact J87 _ _
set_option maxRecDepth 65536 in
set_option maxHeartbeats 40000000 in
theorem comes_1 {Post : Tables → Env → Array Value → State → Outcome → State → Prop} (hpost : ∀ tb e args s v u, (limb_1_1.after args s (.returned v) u = true ∧ limb_1_2.after args s (.returned v) u = true ∧ True) → FrameEnd s (.returned v) u (Jvm.fieldLocs frame_1_writes args s ++ Jvm.arrayLocs frame_1_arrays args s ++ Jvm.staticLocs frame_1_statics s) 32 2048 → Post tb e args s (.returned v) u) :
    ArmFor flags0 classFile x code maxLocals ret World_1 tables_1 room_1 Calls_1 rest_1 Pre_1 Post := by
  intro l hfl _ _ p e ha hc hk s m args below hf hA hF happ hP
  obtain ⟨hcalls, hrest, hpre⟩ := hP
  obtain ⟨-, -, -, hnamed, -, -, -, hat⟩ := (Spec.applies_iff hf).mp happ
  obtain ⟨hg, hn⟩ := and_e (Cond.before_iff.mp (show (Jvm.Cond.and given_1 narrow_1).before args s = true from hpre))
  obtain ⟨gc, g0⟩ := and_e hg
  obtain ⟨q0, g1⟩ := and_e g0
  obtain ⟨q1, g2⟩ := and_e g1
  obtain ⟨q2, g3⟩ := and_e g2
  obtain ⟨q3, g4⟩ := and_e g3
  obtain ⟨q4, g5⟩ := and_e g4
  obtain ⟨w0, w1, w2, w3, w4, w5, rfl⟩ : ∃ w0 w1 w2 w3 w4 w5 : Value, args = #[w0, w1, w2, w3, w4, w5] := by
    have hs : args.size = 6 := by simpa [Cond.value, given_1] using gc
    obtain ⟨L⟩ := args
    match L, hs with
    | [w0, w1, w2, w3, w4, w5], _ => exact ⟨w0, w1, w2, w3, w4, w5, rfl⟩
  have hw := fun d (hd : d ∈ tables_1) => atoms_spec (ws := Jvm.Cond.code x code maxLocals ret :: tables_1) hat d (List.mem_cons_of_mem _ hd)
  obtain ⟨i0, ei0⟩ := isL_v q0
  obtain rfl : w0 = (.long i0) := Option.some.inj ei0
  obtain ⟨i1, ei1⟩ := is_v q1
  obtain rfl : w1 = (.int i1) := Option.some.inj ei1
  obtain ⟨i2, ei2⟩ := is_v q2
  obtain rfl : w2 = (.int i2) := Option.some.inj ei2
  obtain ⟨i3, ei3⟩ := is_v q3
  obtain rfl : w3 = (.int i3) := Option.some.inj ei3
  obtain ⟨i4, ei4⟩ := is_v q4
  obtain rfl : w4 = (.int i4) := Option.some.inj ei4
  obtain ⟨i5, ei5⟩ := is_v g5
  obtain rfl : w5 = (.int i5) := Option.some.inj ei5
  obtain ⟨n, o, h1, h2, h3, _, L, rfl, ⟨N, rfl⟩, hq⟩ := c_law l s _ hw i0 i1 i2 i3 i4 i5 s.heap s.heap.size (Nat.le_refl _) tables_1 p e ha hc hk s m _ below hf ((Spec.applies_iff_loose hf).mp happ).1 ⟨rfl, State.Warmed39.refl s, rfl⟩ trivial
  refine ⟨n, _, h1, h2, h3, hpost _ _ _ _ _ _ ⟨Cond.after_iff.mpr rfl, Cond.after_iff.mpr (eq_i res_at (Term.int_eval (1)) rfl), trivial⟩ ⟨hq.1, hq.2.1, (hq.2.2.sift fun y hy => Or.inr (N y hy)).mono (by decide) (by decide)⟩⟩
theorem main_1_1 : Claimed_1_1 := comes_1 fun _ _ _ _ _ _ h hF => ⟨h.1, hF⟩
theorem main_1_2 : Claimed_1_2 := comes_1 fun _ _ _ _ _ _ h hF => ⟨h.2.1, hF⟩
end Jvm.Pilot.@@N@@
namespace Jvm.Pilot.@@N@@
open Jvm Jvm.ClassFile Sem Op Lib Jvm.Free Jvm.Stand Jvm.Pilot.@@N@@.Jvm.D
/-! MADE BY PROGRAM (witnessworld.py) out of the Statement's table words and the real class files: 19 classes; the members and pool entries that the words name. The judged class is class 1, her method 1. -/
namespace start1
open Jvm.ClassFile
def u (s : String) : CpInfo := .utf8 (stringToUtf16 s)
/-- a pool by its gaps: so many unusable entries, then the entry; so many at the end -/
def gap : Nat → List CpInfo → List CpInfo
  | 0, r => r
  | n + 1, r => .unusable :: gap n r
def poolList (es : List (Nat × CpInfo)) (last : Nat) : List CpInfo := es.foldr (fun e r => gap e.1 (e.2 :: r)) (gap last [])
def pool (es : List (Nat × CpInfo)) (last : Nat) : Array CpInfo := ⟨poolList es last⟩
def fileOf (pool : Array CpInfo) (this : Nat) (attrs : Array Attribute := #[]) (ms : Array MethodInfo := #[]) (fl : Nat := 33) (sup : Nat := 0) (ifs : Array Nat := #[]) (fds : Array FieldInfo := #[]) : ClassFile where
  minorVersion := 0
  majorVersion := 65
  constantPool := pool
  accessFlags := fl
  thisClass := this
  superClass := sup
  interfaces := ifs
  fields := fds
  methods := ms
  attributes := attrs
def plain (name : String) (sup : Option ClassId) : Class where
  name := name
  kind := .ordinary
  loader := none
  accessFlags := 33
  super := sup
  interfaces := #[]
  cf := none
  fields := #[]
  methods := #[]
  instanceTypes := #[]
  staticTypes := #[]
  resolved := #[]
  callSites := []
  init := .initialized
  statics := none
  mirror := none

def pool0 : Array CpInfo := pool [(5, u "<init>"), (0, u "()V"), (1, .class_ 10), (1, u "java/lang/Object")] 113

def k0c0 : Code := { maxStack := 0, maxLocals := 1, code := object_method_1_code, exceptionTable := #[], attributes := #[] }
def k0m0 : Method := { name := "<init>", desc := "()V", sig := { parameters := [], returnType := none }, accessFlags := 1, code := some k0c0 }
/-- java/lang/Object -/
def k0 : Class := { plain "java/lang/Object" none with
  accessFlags := 33
  interfaces := #[]
  cf := some (fileOf pool0 8 #[] #[{ accessFlags := 1, nameIndex := 5, descriptorIndex := 6, attributes := #[] }] 33 0 #[] #[])
  fields := #[]
  methods := #[k0m0]
  instanceTypes := #[]
  staticTypes := #[]
  resolved := Array.replicate 124 none
  statics := none }

def pool1 : Array CpInfo := pool [(2, .class_ 4), (0, .nameAndType 5 6), (0, u "java/lang/Object"), (0, u "<init>"), (0, u "()V"), (0, .long 511), (1, .long 8), (1, .class_ 12), (0, u "lonewatch/model/InstanceValues"), (0, .methodref 11 3), (0, .long 7), (1, .methodref 11 17), (0, .nameAndType 18 19), (0, u "put"), (0, u "(JJ)V"), (0, .long 9), (1, .methodref 11 23), (0, .nameAndType 24 25), (0, u "forgetBelow"), (0, u "(J)V"), (0, .methodref 27 28), (0, .class_ 29), (0, .nameAndType 30 31), (0, u "java/lang/Math"), (0, u "max"), (0, u "(JJ)J"), (0, .long 11), (1, .methodref 11 35), (0, .nameAndType 36 37), (0, u "holds"), (0, u "(J)Z"), (0, .class_ 39), (0, u "lonewatch/model/InstanceValuesHoldsPinLaw"), (2, u "law"), (0, u "(JIIIII)Z")] 3

def k1m0 : Method := { name := "<init>", desc := "()V", sig := { parameters := [], returnType := none }, accessFlags := 1, code := none }
def k1c1 : Code := { maxStack := 5, maxLocals := 24, code := code, exceptionTable := #[], attributes := #[] }
def k1m1 : Method := { name := "law", desc := "(JIIIII)Z", sig := { parameters := [.long, .int, .int, .int, .int, .int], returnType := some .boolean }, accessFlags := 9, code := some k1c1 }
/-- lonewatch/model/InstanceValuesHoldsPinLaw -/
def k1 : Class := { plain "lonewatch/model/InstanceValuesHoldsPinLaw" (some 0) with
  accessFlags := 49
  interfaces := #[]
  cf := some (fileOf pool1 38 #[] #[{ accessFlags := 1, nameIndex := 5, descriptorIndex := 6, attributes := #[] }, { accessFlags := 9, nameIndex := 42, descriptorIndex := 43, attributes := #[] }] 49 2 #[] #[])
  fields := #[]
  methods := #[k1m0, k1m1]
  instanceTypes := #[]
  staticTypes := #[]
  resolved := Array.replicate 47 none
  statics := none }

def pool2 : Array CpInfo := pool [(3, .methodref 4 5), (0, .class_ 6), (0, .nameAndType 7 8), (0, u "java/lang/Object"), (0, u "<init>"), (0, u "()V"), (0, .fieldref 10 11), (0, .class_ 12), (0, .nameAndType 13 14), (0, u "lonewatch/model/InstanceValues"), (0, u "base"), (0, u "J"), (0, .fieldref 10 16), (0, .nameAndType 17 14), (0, u "kept"), (0, .fieldref 10 19), (0, .nameAndType 20 21), (0, u "values"), (0, u "[J"), (0, .fieldref 10 23), (0, .nameAndType 24 25), (0, u "held"), (0, u "[Z"), (0, .class_ 27), (0, u "lonewatch/model/InstanceValues$View"), (0, .methodref 26 29), (0, .nameAndType 7 30), (0, u "(Llonewatch/model/InstanceValues;)V"), (0, .fieldref 10 32), (0, .nameAndType 33 34), (0, u "view"), (0, u "Ljava/util/Map;"), (2, u "holds"), (0, u "(J)Z"), (10, .long 2147483639), (10, .long 2), (1, .methodref 63 64), (0, .class_ 65), (0, .nameAndType 66 67), (0, u "java/lang/Math"), (0, u "max"), (0, u "(JJ)J"), (0, .methodref 63 69), (0, .nameAndType 70 67), (0, u "min"), (0, .methodref 72 73), (0, .class_ 74), (0, .nameAndType 75 76), (0, u "java/util/Arrays"), (0, u "copyOf"), (0, u "([JI)[J"), (0, .methodref 72 78), (0, .nameAndType 75 79), (0, u "([ZI)[Z"), (0, .fieldref 10 81), (0, .nameAndType 82 83), (0, u "size"), (0, u "I"), (0, .methodref 63 85), (0, .nameAndType 66 86), (0, u "(II)I"), (0, .methodref 72 88), (0, .nameAndType 89 90), (0, u "copyOfRange"), (0, u "([JII)[J"), (0, .methodref 72 92), (0, .nameAndType 89 93), (0, u "([ZII)[Z"), (0, u "HIGHEST"), (1, u "SHORTEST"), (7, u "put"), (0, u "(JJ)V"), (0, u "forgetBelow"), (0, u "(J)V"), (7, .class_ 116), (0, u "lonewatch/model/InstanceValues$View$1"), (0, .class_ 118), (0, u "lonewatch/model/InstanceValues$View$1$1")] 16

def k2c0 : Code := { maxStack := 4, maxLocals := 1, code := prog_110_method_1_code, exceptionTable := #[], attributes := #[] }
def k2m0 : Method := { name := "<init>", desc := "()V", sig := { parameters := [], returnType := none }, accessFlags := 1, code := some k2c0 }
def k2c1 : Code := { maxStack := 5, maxLocals := 3, code := prog_110_method_3_code, exceptionTable := #[], attributes := #[] }
def k2m1 : Method := { name := "holds", desc := "(J)Z", sig := { parameters := [.long], returnType := some .boolean }, accessFlags := 1, code := some k2c1 }
def k2c2 : Code := { maxStack := 8, maxLocals := 7, code := prog_110_method_4_code, exceptionTable := #[], attributes := #[] }
def k2m2 : Method := { name := "put", desc := "(JJ)V", sig := { parameters := [.long, .long], returnType := none }, accessFlags := 1, code := some k2c2 }
def k2c3 : Code := { maxStack := 6, maxLocals := 7, code := prog_110_method_5_code, exceptionTable := #[], attributes := #[] }
def k2m3 : Method := { name := "forgetBelow", desc := "(J)V", sig := { parameters := [.long], returnType := none }, accessFlags := 1, code := some k2c3 }
/-- lonewatch/model/InstanceValues -/
def k2 : Class := { plain "lonewatch/model/InstanceValues" (some 0) with
  accessFlags := 49
  interfaces := #[]
  cf := some (fileOf pool2 10 #[.nestMembers #[26, 115, 117]] #[{ accessFlags := 1, nameIndex := 7, descriptorIndex := 8, attributes := #[] }, { accessFlags := 1, nameIndex := 37, descriptorIndex := 38, attributes := #[] }, { accessFlags := 1, nameIndex := 104, descriptorIndex := 105, attributes := #[] }, { accessFlags := 1, nameIndex := 106, descriptorIndex := 107, attributes := #[] }] 49 4 #[] #[{ accessFlags := 25, nameIndex := 94, descriptorIndex := 14, attributes := #[] }, { accessFlags := 26, nameIndex := 96, descriptorIndex := 83, attributes := #[] }, { accessFlags := 2, nameIndex := 13, descriptorIndex := 14, attributes := #[] }, { accessFlags := 2, nameIndex := 17, descriptorIndex := 14, attributes := #[] }, { accessFlags := 2, nameIndex := 20, descriptorIndex := 21, attributes := #[] }, { accessFlags := 2, nameIndex := 24, descriptorIndex := 25, attributes := #[] }, { accessFlags := 2, nameIndex := 82, descriptorIndex := 83, attributes := #[] }, { accessFlags := 18, nameIndex := 33, descriptorIndex := 34, attributes := #[] }])
  fields := #[{ name := "HIGHEST", type := .long, accessFlags := 25, slot := 0, constantValue := 0 }, { name := "SHORTEST", type := .int, accessFlags := 26, slot := 1, constantValue := 0 }, { name := "base", type := .long, accessFlags := 2, slot := 0, constantValue := 0 }, { name := "kept", type := .long, accessFlags := 2, slot := 1, constantValue := 0 }, { name := "values", type := (.array .long), accessFlags := 2, slot := 2, constantValue := 0 }, { name := "held", type := (.array .boolean), accessFlags := 2, slot := 3, constantValue := 0 }, { name := "size", type := .int, accessFlags := 2, slot := 4, constantValue := 0 }, { name := "view", type := (.object "java/util/Map"), accessFlags := 18, slot := 5, constantValue := 0 }]
  methods := #[k2m0, k2m1, k2m2, k2m3]
  instanceTypes := #[.long, .long, (.array .long), (.array .boolean), .int, (.object "java/util/Map")]
  staticTypes := #[.long, .int]
  resolved := ((Array.replicate 135 none).setIfInBounds 26 (some (.cls 5))).setIfInBounds 28 (some (.method ⟨5, 0⟩))
  statics := none }

def pool3 : Array CpInfo := pool [(2, .class_ 4), (1, u "java/util/Map"), (31, .class_ 37), (0, u "java/util/Map$Entry"), (55, .class_ 94), (0, u "java/lang/Object")] 168

/-- java/util/Map -/
def k3 : Class := { plain "java/util/Map" (some 0) with
  accessFlags := 1537
  interfaces := #[]
  cf := some (fileOf pool3 2 #[.nestMembers #[36]] #[] 1537 93 #[] #[])
  fields := #[]
  methods := #[]
  instanceTypes := #[]
  staticTypes := #[]
  resolved := Array.replicate 263 none
  statics := none }

def pool4 : Array CpInfo := pool [(1, .methodref 2 3), (0, .class_ 4), (0, .nameAndType 5 6), (0, u "java/lang/Object"), (0, u "<init>"), (0, u "()V"), (1, .class_ 10), (1, u "java/util/AbstractMap"), (42, .class_ 54), (0, u "java/util/Map"), (9, u "keySet"), (0, u "Ljava/util/Set;"), (0, .class_ 67), (0, u "java/util/AbstractMap$1"), (5, u "values"), (0, u "Ljava/util/Collection;"), (0, .class_ 76), (0, u "java/util/AbstractMap$2"), (104, .class_ 182), (0, u "java/util/AbstractMap$ViewCollection"), (0, .class_ 184), (0, u "java/util/AbstractMap$SimpleImmutableEntry"), (0, .class_ 186), (0, u "java/util/AbstractMap$SimpleEntry"), (0, .class_ 188), (0, u "java/util/AbstractMap$2$1"), (0, .class_ 190), (0, u "java/util/AbstractMap$1$1")] 5

def k4c0 : Code := { maxStack := 1, maxLocals := 1, code := jdk_71_method_1_code, exceptionTable := #[], attributes := #[] }
def k4m0 : Method := { name := "<init>", desc := "()V", sig := { parameters := [], returnType := none }, accessFlags := 4, code := some k4c0 }
/-- java/util/AbstractMap -/
def k4 : Class := { plain "java/util/AbstractMap" (some 0) with
  accessFlags := 1057
  interfaces := #[3]
  cf := some (fileOf pool4 8 #[.nestMembers #[181, 183, 185, 75, 187, 66, 189]] #[{ accessFlags := 4, nameIndex := 5, descriptorIndex := 6, attributes := #[] }] 1057 2 #[53] #[{ accessFlags := 128, nameIndex := 64, descriptorIndex := 65, attributes := #[] }, { accessFlags := 128, nameIndex := 73, descriptorIndex := 74, attributes := #[] }])
  fields := #[{ name := "keySet", type := (.object "java/util/Set"), accessFlags := 128, slot := 0, constantValue := 0 }, { name := "values", type := (.object "java/util/Collection"), accessFlags := 128, slot := 1, constantValue := 0 }]
  methods := #[k4m0]
  instanceTypes := #[(.object "java/util/Set"), (.object "java/util/Collection")]
  staticTypes := #[]
  resolved := Array.replicate 196 none
  statics := none }

def pool5 : Array CpInfo := pool [(1, .fieldref 2 3), (0, .class_ 4), (0, .nameAndType 5 6), (0, u "lonewatch/model/InstanceValues$View"), (0, u "this$0"), (0, u "Llonewatch/model/InstanceValues;"), (0, .methodref 8 9), (0, .class_ 10), (0, .nameAndType 11 12), (0, u "java/util/AbstractMap"), (0, u "<init>"), (0, u "()V"), (1, .class_ 16), (1, u "lonewatch/model/InstanceValues"), (37, u "(Llonewatch/model/InstanceValues;)V")] 25

def k5c0 : Code := { maxStack := 2, maxLocals := 2, code := prog_111_method_1_code, exceptionTable := #[], attributes := #[] }
def k5m0 : Method := { name := "<init>", desc := "(Llonewatch/model/InstanceValues;)V", sig := { parameters := [(.object "lonewatch/model/InstanceValues")], returnType := none }, accessFlags := 2, code := some k5c0 }
/-- lonewatch/model/InstanceValues$View -/
def k5 : Class := { plain "lonewatch/model/InstanceValues$View" (some 4) with
  accessFlags := 48
  interfaces := #[]
  cf := some (fileOf pool5 2 #[.nestHost 14] #[{ accessFlags := 2, nameIndex := 11, descriptorIndex := 54, attributes := #[] }] 48 8 #[] #[{ accessFlags := 4112, nameIndex := 5, descriptorIndex := 6, attributes := #[] }])
  fields := #[{ name := "this$0", type := (.object "lonewatch/model/InstanceValues"), accessFlags := 4112, slot := 2, constantValue := 0 }]
  methods := #[k5m0]
  instanceTypes := #[(.object "java/util/Set"), (.object "java/util/Collection"), (.object "lonewatch/model/InstanceValues")]
  staticTypes := #[]
  resolved := Array.replicate 80 none
  statics := none }

def pool6 : Array CpInfo := pool [(1, .class_ 2), (0, u "java/lang/Math"), (1, .class_ 6), (1, u "java/lang/Object"), (0, u "<init>"), (0, u "()V"), (89, .class_ 100), (1, u "java/lang/Math$RandomNumberGeneratorHolder"), (20, u "(JJ)J"), (50, u "negativeZeroFloatBits"), (0, u "J"), (2, u "negativeZeroDoubleBits"), (21, u "max"), (2, u "min"), (43, u "$assertionsDisabled"), (0, u "Z"), (88, u "(II)I"), (2, u "twoToTheDoubleScaleDown"), (0, u "D"), (4, u "twoToTheDoubleScaleUp"), (9, u "E"), (3, u "PI"), (2, u "TAU"), (2, u "DEGREES_TO_RADIANS"), (0, u "RADIANS_TO_DEGREES")] 94

def k6m0 : Method := { name := "<init>", desc := "()V", sig := { parameters := [], returnType := none }, accessFlags := 2, code := none }
def k6c1 : Code := { maxStack := 2, maxLocals := 2, code := jdk_29_method_65_code, exceptionTable := #[], attributes := #[] }
def k6m1 : Method := { name := "max", desc := "(II)I", sig := { parameters := [.int, .int], returnType := some .int }, accessFlags := 9, code := some k6c1 }
def k6c2 : Code := { maxStack := 4, maxLocals := 4, code := jdk_29_method_66_code, exceptionTable := #[], attributes := #[] }
def k6m2 : Method := { name := "max", desc := "(JJ)J", sig := { parameters := [.long, .long], returnType := some .long }, accessFlags := 9, code := some k6c2 }
def k6c3 : Code := { maxStack := 2, maxLocals := 2, code := jdk_29_method_69_code, exceptionTable := #[], attributes := #[] }
def k6m3 : Method := { name := "min", desc := "(II)I", sig := { parameters := [.int, .int], returnType := some .int }, accessFlags := 9, code := some k6c3 }
def k6c4 : Code := { maxStack := 4, maxLocals := 4, code := jdk_29_method_70_code, exceptionTable := #[], attributes := #[] }
def k6m4 : Method := { name := "min", desc := "(JJ)J", sig := { parameters := [.long, .long], returnType := some .long }, accessFlags := 9, code := some k6c4 }
/-- java/lang/Math -/
def k6 : Class := { plain "java/lang/Math" (some 0) with
  accessFlags := 49
  interfaces := #[]
  cf := some (fileOf pool6 1 #[.nestMembers #[98]] #[{ accessFlags := 2, nameIndex := 7, descriptorIndex := 8, attributes := #[] }, { accessFlags := 9, nameIndex := 198, descriptorIndex := 335, attributes := #[] }, { accessFlags := 9, nameIndex := 198, descriptorIndex := 121, attributes := #[] }, { accessFlags := 9, nameIndex := 201, descriptorIndex := 335, attributes := #[] }, { accessFlags := 9, nameIndex := 201, descriptorIndex := 121, attributes := #[] }] 49 4 #[] #[{ accessFlags := 25, nameIndex := 354, descriptorIndex := 339, attributes := #[] }, { accessFlags := 25, nameIndex := 358, descriptorIndex := 339, attributes := #[] }, { accessFlags := 25, nameIndex := 361, descriptorIndex := 339, attributes := #[] }, { accessFlags := 26, nameIndex := 364, descriptorIndex := 339, attributes := #[] }, { accessFlags := 26, nameIndex := 365, descriptorIndex := 339, attributes := #[] }, { accessFlags := 26, nameIndex := 172, descriptorIndex := 173, attributes := #[] }, { accessFlags := 26, nameIndex := 176, descriptorIndex := 173, attributes := #[] }, { accessFlags := 8, nameIndex := 344, descriptorIndex := 339, attributes := #[] }, { accessFlags := 8, nameIndex := 338, descriptorIndex := 339, attributes := #[] }, { accessFlags := 4120, nameIndex := 245, descriptorIndex := 246, attributes := #[] }])
  fields := #[{ name := "E", type := .double, accessFlags := 25, slot := 0, constantValue := 0 }, { name := "PI", type := .double, accessFlags := 25, slot := 1, constantValue := 0 }, { name := "TAU", type := .double, accessFlags := 25, slot := 2, constantValue := 0 }, { name := "DEGREES_TO_RADIANS", type := .double, accessFlags := 26, slot := 3, constantValue := 0 }, { name := "RADIANS_TO_DEGREES", type := .double, accessFlags := 26, slot := 4, constantValue := 0 }, { name := "negativeZeroFloatBits", type := .long, accessFlags := 26, slot := 5, constantValue := 0 }, { name := "negativeZeroDoubleBits", type := .long, accessFlags := 26, slot := 6, constantValue := 0 }, { name := "twoToTheDoubleScaleUp", type := .double, accessFlags := 8, slot := 7, constantValue := 0 }, { name := "twoToTheDoubleScaleDown", type := .double, accessFlags := 8, slot := 8, constantValue := 0 }, { name := "$assertionsDisabled", type := .boolean, accessFlags := 4120, slot := 9, constantValue := 0 }]
  methods := #[k6m0, k6m1, k6m2, k6m3, k6m4]
  instanceTypes := #[]
  staticTypes := #[.double, .double, .double, .double, .double, .long, .long, .double, .double, .boolean]
  resolved := Array.replicate 460 none
  statics := none }

def pool7 : Array CpInfo := pool [(2, .class_ 4), (1, u "java/lang/Object"), (0, u "<init>"), (0, u "()V"), (7, .class_ 16), (1, u "java/util/Arrays"), (57, .class_ 76), (1, u "java/util/Arrays$NaturalOrder"), (36, .class_ 115), (1, u "java/util/Arrays$LegacyMergeSort"), (1, u "Z"), (21, u "copyOfRange"), (10, .methodref 151 152), (0, .class_ 153), (0, .nameAndType 154 155), (0, u "java/lang/System"), (0, u "arraycopy"), (0, u "(Ljava/lang/Object;ILjava/lang/Object;II)V"), (146, u "copyOf"), (1, .methodref 305 306), (0, .class_ 307), (0, .nameAndType 308 309), (0, u "java/lang/Math"), (0, u "min"), (0, u "(II)I"), (33, .methodref 14 344), (0, .nameAndType 345 346), (0, u "checkLength"), (0, u "(II)V"), (8, .methodref 14 356), (0, .nameAndType 357 358), (0, u "copyOfRangeLong"), (0, u "([JII)[J"), (12, .methodref 14 372), (0, .nameAndType 373 374), (0, u "copyOfRangeBoolean"), (0, u "([ZII)[Z"), (0, .class_ 376), (0, u "java/util/Arrays$ArrayList"), (68, u "$assertionsDisabled"), (269, u "MIN_ARRAY_SORT_GRAN"), (0, u "I"), (2, u "INSERTIONSORT_THRESHOLD"), (152, u "([JI)[J"), (3, u "([ZI)[Z"), (98, .class_ 976), (0, u "java/util/Arrays$ArrayItr")] 52

def k7m0 : Method := { name := "<init>", desc := "()V", sig := { parameters := [], returnType := none }, accessFlags := 2, code := none }
def k7c1 : Code := { maxStack := 6, maxLocals := 3, code := jdk_65_method_124_code, exceptionTable := #[], attributes := #[] }
def k7m1 : Method := { name := "copyOf", desc := "([JI)[J", sig := { parameters := [(.array .long), .int], returnType := some (.array .long) }, accessFlags := 9, code := some k7c1 }
def k7c2 : Code := { maxStack := 6, maxLocals := 3, code := jdk_65_method_128_code, exceptionTable := #[], attributes := #[] }
def k7m2 : Method := { name := "copyOf", desc := "([ZI)[Z", sig := { parameters := [(.array .boolean), .int], returnType := some (.array .boolean) }, accessFlags := 9, code := some k7c2 }
def k7c3 : Code := { maxStack := 4, maxLocals := 2, code := jdk_65_method_131_code, exceptionTable := #[], attributes := #[] }
def k7m3 : Method := { name := "checkLength", desc := "(II)V", sig := { parameters := [.int, .int], returnType := none }, accessFlags := 10, code := some k7c3 }
def k7c4 : Code := { maxStack := 3, maxLocals := 3, code := jdk_65_method_138_code, exceptionTable := #[], attributes := #[] }
def k7m4 : Method := { name := "copyOfRange", desc := "([JII)[J", sig := { parameters := [(.array .long), .int, .int], returnType := some (.array .long) }, accessFlags := 9, code := some k7c4 }
def k7c5 : Code := { maxStack := 6, maxLocals := 5, code := jdk_65_method_139_code, exceptionTable := #[], attributes := #[] }
def k7m5 : Method := { name := "copyOfRangeLong", desc := "([JII)[J", sig := { parameters := [(.array .long), .int, .int], returnType := some (.array .long) }, accessFlags := 10, code := some k7c5 }
def k7c6 : Code := { maxStack := 3, maxLocals := 3, code := jdk_65_method_146_code, exceptionTable := #[], attributes := #[] }
def k7m6 : Method := { name := "copyOfRange", desc := "([ZII)[Z", sig := { parameters := [(.array .boolean), .int, .int], returnType := some (.array .boolean) }, accessFlags := 9, code := some k7c6 }
def k7c7 : Code := { maxStack := 6, maxLocals := 5, code := jdk_65_method_147_code, exceptionTable := #[], attributes := #[] }
def k7m7 : Method := { name := "copyOfRangeBoolean", desc := "([ZII)[Z", sig := { parameters := [(.array .boolean), .int, .int], returnType := some (.array .boolean) }, accessFlags := 10, code := some k7c7 }
/-- java/util/Arrays -/
def k7 : Class := { plain "java/util/Arrays" (some 0) with
  accessFlags := 49
  interfaces := #[]
  cf := some (fileOf pool7 14 #[.nestMembers #[975, 375, 113, 74]] #[{ accessFlags := 2, nameIndex := 5, descriptorIndex := 6, attributes := #[] }, { accessFlags := 9, nameIndex := 302, descriptorIndex := 872, attributes := #[] }, { accessFlags := 9, nameIndex := 302, descriptorIndex := 876, attributes := #[] }, { accessFlags := 10, nameIndex := 345, descriptorIndex := 346, attributes := #[] }, { accessFlags := 9, nameIndex := 139, descriptorIndex := 358, attributes := #[] }, { accessFlags := 10, nameIndex := 357, descriptorIndex := 358, attributes := #[] }, { accessFlags := 9, nameIndex := 139, descriptorIndex := 374, attributes := #[] }, { accessFlags := 10, nameIndex := 373, descriptorIndex := 374, attributes := #[] }] 49 2 #[] #[{ accessFlags := 26, nameIndex := 715, descriptorIndex := 716, attributes := #[] }, { accessFlags := 26, nameIndex := 719, descriptorIndex := 716, attributes := #[] }, { accessFlags := 4120, nameIndex := 445, descriptorIndex := 117, attributes := #[] }])
  fields := #[{ name := "MIN_ARRAY_SORT_GRAN", type := .int, accessFlags := 26, slot := 0, constantValue := 0 }, { name := "INSERTIONSORT_THRESHOLD", type := .int, accessFlags := 26, slot := 1, constantValue := 0 }, { name := "$assertionsDisabled", type := .boolean, accessFlags := 4120, slot := 2, constantValue := 0 }]
  methods := #[k7m0, k7m1, k7m2, k7m3, k7m4, k7m5, k7m6, k7m7]
  instanceTypes := #[]
  staticTypes := #[.int, .int, .boolean]
  resolved := Array.replicate 1029 none
  statics := none }

def pool8 : Array CpInfo := pool [(2, .class_ 4), (1, u "java/lang/Object"), (0, u "<init>"), (0, u "()V"), (1, .class_ 10), (1, u "java/lang/System"), (0, u "allowSecurityManager"), (0, u "I"), (16, u "cons"), (0, u "Ljava/io/Console;"), (77, .class_ 110), (1, u "java/lang/System$CallersHolder"), (43, u "initialErrStream"), (0, u "Ljava/io/PrintStream;"), (19, u "security"), (0, u "Ljava/lang/SecurityManager;"), (31, .class_ 209), (0, u "java/lang/System$1"), (7, u "props"), (0, u "Ljava/util/Properties;"), (2, u "lineSeparator"), (0, u "Ljava/lang/String;"), (96, .class_ 321), (1, u "java/lang/System$LoggerFinder"), (5, .class_ 328), (0, u "java/lang/System$Logger"), (67, u "err"), (2, u "out"), (91, u "notSupportedJnuEncoding"), (15, u "in"), (17, u "initialIn"), (0, u "Ljava/io/InputStream;"), (35, u "bootLayer"), (0, u "Ljava/lang/ModuleLayer;"), (99, .class_ 664), (0, u "java/lang/System$2"), (9, u "NEVER"), (2, u "MAYBE"), (49, u "arraycopy"), (0, u "(Ljava/lang/Object;ILjava/lang/Object;II)V"), (72, .class_ 802), (0, u "java/lang/System$Logger$Level")] 31

def k8m0 : Method := { name := "<init>", desc := "()V", sig := { parameters := [], returnType := none }, accessFlags := 2, code := none }
def k8m1 : Method := { name := "arraycopy", desc := "(Ljava/lang/Object;ILjava/lang/Object;II)V", sig := { parameters := [(.object "java/lang/Object"), .int, (.object "java/lang/Object"), .int, .int], returnType := none }, accessFlags := 265, code := none }
/-- java/lang/System -/
def k8 : Class := { plain "java/lang/System" (some 0) with
  accessFlags := 49
  interfaces := #[]
  cf := some (fileOf pool8 8 #[.nestMembers #[319, 327, 801, 108, 663, 208]] #[{ accessFlags := 2, nameIndex := 5, descriptorIndex := 6, attributes := #[] }, { accessFlags := 265, nameIndex := 727, descriptorIndex := 728, attributes := #[] }] 49 2 #[] #[{ accessFlags := 25, nameIndex := 507, descriptorIndex := 526, attributes := #[] }, { accessFlags := 25, nameIndex := 399, descriptorIndex := 155, attributes := #[] }, { accessFlags := 25, nameIndex := 396, descriptorIndex := 155, attributes := #[] }, { accessFlags := 10, nameIndex := 525, descriptorIndex := 526, attributes := #[] }, { accessFlags := 26, nameIndex := 674, descriptorIndex := 12, attributes := #[] }, { accessFlags := 26, nameIndex := 677, descriptorIndex := 12, attributes := #[] }, { accessFlags := 10, nameIndex := 11, descriptorIndex := 12, attributes := #[] }, { accessFlags := 74, nameIndex := 175, descriptorIndex := 176, attributes := #[] }, { accessFlags := 10, nameIndex := 491, descriptorIndex := 222, attributes := #[] }, { accessFlags := 74, nameIndex := 29, descriptorIndex := 30, attributes := #[] }, { accessFlags := 74, nameIndex := 154, descriptorIndex := 155, attributes := #[] }, { accessFlags := 10, nameIndex := 217, descriptorIndex := 218, attributes := #[] }, { accessFlags := 10, nameIndex := 221, descriptorIndex := 222, attributes := #[] }, { accessFlags := 8, nameIndex := 562, descriptorIndex := 563, attributes := #[] }])
  fields := #[{ name := "in", type := (.object "java/io/InputStream"), accessFlags := 25, slot := 0, constantValue := 0 }, { name := "out", type := (.object "java/io/PrintStream"), accessFlags := 25, slot := 1, constantValue := 0 }, { name := "err", type := (.object "java/io/PrintStream"), accessFlags := 25, slot := 2, constantValue := 0 }, { name := "initialIn", type := (.object "java/io/InputStream"), accessFlags := 10, slot := 3, constantValue := 0 }, { name := "NEVER", type := .int, accessFlags := 26, slot := 4, constantValue := 0 }, { name := "MAYBE", type := .int, accessFlags := 26, slot := 5, constantValue := 0 }, { name := "allowSecurityManager", type := .int, accessFlags := 10, slot := 6, constantValue := 0 }, { name := "security", type := (.object "java/lang/SecurityManager"), accessFlags := 74, slot := 7, constantValue := 0 }, { name := "notSupportedJnuEncoding", type := (.object "java/lang/String"), accessFlags := 10, slot := 8, constantValue := 0 }, { name := "cons", type := (.object "java/io/Console"), accessFlags := 74, slot := 9, constantValue := 0 }, { name := "initialErrStream", type := (.object "java/io/PrintStream"), accessFlags := 74, slot := 10, constantValue := 0 }, { name := "props", type := (.object "java/util/Properties"), accessFlags := 10, slot := 11, constantValue := 0 }, { name := "lineSeparator", type := (.object "java/lang/String"), accessFlags := 10, slot := 12, constantValue := 0 }, { name := "bootLayer", type := (.object "java/lang/ModuleLayer"), accessFlags := 8, slot := 13, constantValue := 0 }]
  methods := #[k8m0, k8m1]
  instanceTypes := #[]
  staticTypes := #[(.object "java/io/InputStream"), (.object "java/io/PrintStream"), (.object "java/io/PrintStream"), (.object "java/io/InputStream"), .int, .int, .int, (.object "java/lang/SecurityManager"), (.object "java/lang/String"), (.object "java/io/Console"), (.object "java/io/PrintStream"), (.object "java/util/Properties"), (.object "java/lang/String"), (.object "java/lang/ModuleLayer")]
  resolved := Array.replicate 834 none
  statics := none }

def pool9 : Array CpInfo := pool [(1, u "java/lang/Cloneable"), (0, .class_ 1), (0, u "java/lang/Object"), (0, .class_ 3)] 3

/-- java/lang/Cloneable -/
def k9 : Class := { plain "java/lang/Cloneable" (some 0) with
  accessFlags := 1537
  interfaces := #[]
  cf := some (fileOf pool9 2 #[] #[] 1537 4 #[] #[])
  fields := #[]
  methods := #[]
  instanceTypes := #[]
  staticTypes := #[]
  resolved := Array.replicate 8 none
  statics := none }

def pool10 : Array CpInfo := pool [(1, u "java/io/Serializable"), (0, .class_ 1), (0, u "java/lang/Object"), (0, .class_ 3)] 3

/-- java/io/Serializable -/
def k10 : Class := { plain "java/io/Serializable" (some 0) with
  accessFlags := 1537
  interfaces := #[]
  cf := some (fileOf pool10 2 #[] #[] 1537 4 #[] #[])
  fields := #[]
  methods := #[]
  instanceTypes := #[]
  staticTypes := #[]
  resolved := Array.replicate 8 none
  statics := none }

/-- the primitive boolean -/
def k11 : Class := { plain "boolean" none with kind := .primitive 'Z', accessFlags := 0x411 }
/-- [Z -/
def k12 : Class := { plain "[Z" (some 0) with kind := .array 11 .boolean, interfaces := #[9, 10], accessFlags := 1041 }

/-- the primitive byte -/
def k13 : Class := { plain "byte" none with kind := .primitive 'B', accessFlags := 0x411 }
/-- [B -/
def k14 : Class := { plain "[B" (some 0) with kind := .array 13 .byte, interfaces := #[9, 10], accessFlags := 1041 }

/-- the primitive int -/
def k15 : Class := { plain "int" none with kind := .primitive 'I', accessFlags := 0x411 }
/-- [I -/
def k16 : Class := { plain "[I" (some 0) with kind := .array 15 .int, interfaces := #[9, 10], accessFlags := 1041 }

/-- the primitive long -/
def k17 : Class := { plain "long" none with kind := .primitive 'J', accessFlags := 0x411 }
/-- [J -/
def k18 : Class := { plain "[J" (some 0) with kind := .array 17 .long, interfaces := #[9, 10], accessFlags := 1041 }

def heap : Heap := #[]
def classes : Array Class := #[k0, k1, k2, k3, k4, k5, k6, k7, k8, k9, k10, k11, k12, k13, k14, k15, k16, k17, k18]
def interned : List (Array UInt16 × Addr) := []
def slotsUsed : Nat := 0
def theMethod : MethodId := ⟨1, 1⟩
def args0 : Array Value := #[.long 5, .int 6, .int 7, .int 8, .int 9, .int 10]
def aboutOver (below : List Frame) : State where
  vm := { classes := classes, interned := interned.toArray }
  heap := heap
  slotsUsed := slotsUsed
  threads := #[{ frames := .invoking theMethod args0 :: below }]
def below0 : List Frame := [.native { method := ⟨0, 0⟩, args := #[] }]
def about1 : State := aboutOver below0
def p0 : Program := .bare "" "" ""
def e0 : Env := launch0.env 0 0 0
theorem w_frames : about1.frames = Frame.invoking theMethod args0 :: below0 := rfl
set_option maxRecDepth 65536 in
theorem w_args : argsFit about1.vm theMethod args0 = true := by decide +kernel
set_option maxRecDepth 65536 in
theorem w_heap : heapFits about1 = true := by decide +kernel
set_option maxRecDepth 65536 in
theorem w_runnable : about1.curStatus? = some .runnable := by decide +kernel
set_option maxRecDepth 65536 in
theorem w_alone : about1.alone = true := by decide +kernel
set_option maxRecDepth 65536 in
theorem w_named : about1.methodNamed? x = some theMethod := by decide +kernel
set_option maxRecDepth 65536 in
theorem w_hears : about1.hears theMethod below0 = true := by decide +kernel
set_option maxRecDepth 65536 in
theorem w_ripe : about1.ripe theMethod args0 below0 = true := by decide +kernel
theorem w_running : about1.status = .running := rfl
set_option maxRecDepth 65536 in
theorem w_room : about1.hasRoom e0.platform room_1 = true :=
  launch0.hasRoom_least _ room_1 (by decide +kernel) (by decide +kernel) (by decide +kernel) (by decide +kernel) (by decide +kernel) (by decide +kernel)
theorem allAtoms_all (ts : List Jvm.Cond) (a : Array Jvm.Value) (st : Jvm.State) : (allAtoms ts).before a st = ts.all (fun c => c.before a st) := by
  induction ts with
  | nil => rfl
  | cons c t ih =>
    show (Jvm.Cond.and c (allAtoms t)).before a st = _
    rw [Jvm.Cond.before_and, ih, List.all_cons]
def words1 : List Jvm.Cond := Jvm.Cond.code x code maxLocals ret :: tables_1
/-- a 'code' word, met by the world's own term for the bytes: nothing is compared byte by byte -/
theorem code_word {y : MethodName} {bytes : ByteArray} {mx : Nat} {rt : Option FieldType} {a : Array Value} {s : State} {m : MethodId} {meth : Method} {c : Code} (h1 : s.methodNamed? y = some m) (h2 : s.vm.method? m = some meth) (h3 : meth.code = some c) (h4 : c.code = bytes)
    (h5 : (c.maxLocals == mx && c.exceptionTable.isEmpty && decide (c.maxStack ≤ mostOperands) && decide (meth.sig.returnType = rt) && !meth.locks && decide (parseMethodDescriptor y.desc = some meth.sig)) = true) : (Jvm.Cond.code y bytes mx rt).before a s = true := by
  simp only [Bool.and_eq_true, beq_iff_eq, Bool.not_eq_true', decide_eq_true_eq] at h5
  obtain ⟨⟨⟨⟨⟨g1, g2⟩, g3⟩, g4⟩, g5⟩, g6⟩ := h5
  simp [Cond.before, Cond.holds, Cond.value, h1, h2, h3, h4, g1, g2, g3, g4, g5, g6]
def isCode : Jvm.Cond → Bool
  | .code _ _ _ _ => true
  | _ => false
theorem all_split {L : List Jvm.Cond} {P : Jvm.Cond → Bool} (h1 : L.all (fun c => isCode c || P c) = true) (h2 : ∀ c ∈ L.filter isCode, P c = true) : L.all P = true := by
  refine List.all_eq_true.mpr fun c hc => ?_
  have h := List.all_eq_true.mp h1 c hc
  rcases Bool.eq_false_or_eq_true (isCode c) with hi | hi
  · exact h2 c (List.mem_filter.mpr ⟨hc, hi⟩)
  · simpa [hi] using h
set_option maxRecDepth 65536 in
theorem w_c0 : (Jvm.Cond.code x code maxLocals ret).before args0 about1 = true := code_word (m := ⟨1, 1⟩) (meth := k1m1) (c := k1c1) (by decide +kernel) rfl rfl rfl (by decide +kernel)
set_option maxRecDepth 65536 in
theorem w_c1 : (Jvm.Cond.code ({ cls := "lonewatch/model/InstanceValues", name := "<init>", desc := "()V" } : Jvm.MethodName) prog_110_method_1_code (1 : Nat) (Option.none : Option Jvm.ClassFile.FieldType)).before args0 about1 = true := code_word (m := ⟨2, 0⟩) (meth := k2m0) (c := k2c0) (by decide +kernel) rfl rfl rfl (by decide +kernel)
set_option maxRecDepth 65536 in
theorem w_c2 : (Jvm.Cond.code ({ cls := "java/lang/Object", name := "<init>", desc := "()V" } : Jvm.MethodName) object_method_1_code (1 : Nat) (Option.none : Option Jvm.ClassFile.FieldType)).before args0 about1 = true := code_word (m := ⟨0, 0⟩) (meth := k0m0) (c := k0c0) (by decide +kernel) rfl rfl rfl (by decide +kernel)
set_option maxRecDepth 65536 in
theorem w_c3 : (Jvm.Cond.code ({ cls := "lonewatch/model/InstanceValues$View", name := "<init>", desc := "(Llonewatch/model/InstanceValues;)V" } : Jvm.MethodName) prog_111_method_1_code (2 : Nat) (Option.none : Option Jvm.ClassFile.FieldType)).before args0 about1 = true := code_word (m := ⟨5, 0⟩) (meth := k5m0) (c := k5c0) (by decide +kernel) rfl rfl rfl (by decide +kernel)
set_option maxRecDepth 65536 in
theorem w_c4 : (Jvm.Cond.code ({ cls := "java/util/AbstractMap", name := "<init>", desc := "()V" } : Jvm.MethodName) jdk_71_method_1_code (1 : Nat) (Option.none : Option Jvm.ClassFile.FieldType)).before args0 about1 = true := code_word (m := ⟨4, 0⟩) (meth := k4m0) (c := k4c0) (by decide +kernel) rfl rfl rfl (by decide +kernel)
set_option maxRecDepth 65536 in
theorem w_c5 : (Jvm.Cond.code ({ cls := "lonewatch/model/InstanceValues", name := "put", desc := "(JJ)V" } : Jvm.MethodName) prog_110_method_4_code (7 : Nat) (Option.none : Option Jvm.ClassFile.FieldType)).before args0 about1 = true := code_word (m := ⟨2, 2⟩) (meth := k2m2) (c := k2c2) (by decide +kernel) rfl rfl rfl (by decide +kernel)
set_option maxRecDepth 65536 in
theorem w_c6 : (Jvm.Cond.code ({ cls := "lonewatch/model/InstanceValues", name := "holds", desc := "(J)Z" } : Jvm.MethodName) prog_110_method_3_code (3 : Nat) (Option.some Jvm.ClassFile.FieldType.boolean)).before args0 about1 = true := code_word (m := ⟨2, 1⟩) (meth := k2m1) (c := k2c1) (by decide +kernel) rfl rfl rfl (by decide +kernel)
set_option maxRecDepth 65536 in
theorem w_c7 : (Jvm.Cond.code ({ cls := "lonewatch/model/InstanceValues", name := "forgetBelow", desc := "(J)V" } : Jvm.MethodName) prog_110_method_5_code (7 : Nat) (Option.none : Option Jvm.ClassFile.FieldType)).before args0 about1 = true := code_word (m := ⟨2, 3⟩) (meth := k2m3) (c := k2c3) (by decide +kernel) rfl rfl rfl (by decide +kernel)
set_option maxRecDepth 65536 in
theorem w_c8 : (Jvm.Cond.code ({ cls := "java/lang/Math", name := "min", desc := "(JJ)J" } : Jvm.MethodName) jdk_29_method_70_code (4 : Nat) (Option.some Jvm.ClassFile.FieldType.long)).before args0 about1 = true := code_word (m := ⟨6, 4⟩) (meth := k6m4) (c := k6c4) (by decide +kernel) rfl rfl rfl (by decide +kernel)
set_option maxRecDepth 65536 in
theorem w_c9 : (Jvm.Cond.code ({ cls := "java/lang/Math", name := "max", desc := "(JJ)J" } : Jvm.MethodName) jdk_29_method_66_code (4 : Nat) (Option.some Jvm.ClassFile.FieldType.long)).before args0 about1 = true := code_word (m := ⟨6, 2⟩) (meth := k6m2) (c := k6c2) (by decide +kernel) rfl rfl rfl (by decide +kernel)
set_option maxRecDepth 65536 in
theorem w_c10 : (Jvm.Cond.code ({ cls := "java/util/Arrays", name := "copyOf", desc := "([JI)[J" } : Jvm.MethodName) jdk_65_method_124_code (3 : Nat) (Option.some (Jvm.ClassFile.FieldType.array Jvm.ClassFile.FieldType.long))).before args0 about1 = true := code_word (m := ⟨7, 1⟩) (meth := k7m1) (c := k7c1) (by decide +kernel) rfl rfl rfl (by decide +kernel)
set_option maxRecDepth 65536 in
theorem w_c11 : (Jvm.Cond.code ({ cls := "java/lang/Math", name := "min", desc := "(II)I" } : Jvm.MethodName) jdk_29_method_69_code (2 : Nat) (Option.some Jvm.ClassFile.FieldType.int)).before args0 about1 = true := code_word (m := ⟨6, 3⟩) (meth := k6m3) (c := k6c3) (by decide +kernel) rfl rfl rfl (by decide +kernel)
set_option maxRecDepth 65536 in
theorem w_c12 : (Jvm.Cond.code ({ cls := "java/util/Arrays", name := "copyOf", desc := "([ZI)[Z" } : Jvm.MethodName) jdk_65_method_128_code (3 : Nat) (Option.some (Jvm.ClassFile.FieldType.array Jvm.ClassFile.FieldType.boolean))).before args0 about1 = true := code_word (m := ⟨7, 2⟩) (meth := k7m2) (c := k7c2) (by decide +kernel) rfl rfl rfl (by decide +kernel)
set_option maxRecDepth 65536 in
theorem w_c13 : (Jvm.Cond.code ({ cls := "java/lang/Math", name := "max", desc := "(II)I" } : Jvm.MethodName) jdk_29_method_65_code (2 : Nat) (Option.some Jvm.ClassFile.FieldType.int)).before args0 about1 = true := code_word (m := ⟨6, 1⟩) (meth := k6m1) (c := k6c1) (by decide +kernel) rfl rfl rfl (by decide +kernel)
set_option maxRecDepth 65536 in
theorem w_c14 : (Jvm.Cond.code ({ cls := "java/util/Arrays", name := "copyOfRange", desc := "([JII)[J" } : Jvm.MethodName) jdk_65_method_138_code (3 : Nat) (Option.some (Jvm.ClassFile.FieldType.array Jvm.ClassFile.FieldType.long))).before args0 about1 = true := code_word (m := ⟨7, 4⟩) (meth := k7m4) (c := k7c4) (by decide +kernel) rfl rfl rfl (by decide +kernel)
set_option maxRecDepth 65536 in
theorem w_c15 : (Jvm.Cond.code ({ cls := "java/util/Arrays", name := "copyOfRangeLong", desc := "([JII)[J" } : Jvm.MethodName) jdk_65_method_139_code (5 : Nat) (Option.some (Jvm.ClassFile.FieldType.array Jvm.ClassFile.FieldType.long))).before args0 about1 = true := code_word (m := ⟨7, 5⟩) (meth := k7m5) (c := k7c5) (by decide +kernel) rfl rfl rfl (by decide +kernel)
set_option maxRecDepth 65536 in
theorem w_c16 : (Jvm.Cond.code ({ cls := "java/util/Arrays", name := "checkLength", desc := "(II)V" } : Jvm.MethodName) jdk_65_method_131_code (2 : Nat) (Option.none : Option Jvm.ClassFile.FieldType)).before args0 about1 = true := code_word (m := ⟨7, 3⟩) (meth := k7m3) (c := k7c3) (by decide +kernel) rfl rfl rfl (by decide +kernel)
set_option maxRecDepth 65536 in
theorem w_c17 : (Jvm.Cond.code ({ cls := "java/util/Arrays", name := "copyOfRange", desc := "([ZII)[Z" } : Jvm.MethodName) jdk_65_method_146_code (3 : Nat) (Option.some (Jvm.ClassFile.FieldType.array Jvm.ClassFile.FieldType.boolean))).before args0 about1 = true := code_word (m := ⟨7, 6⟩) (meth := k7m6) (c := k7c6) (by decide +kernel) rfl rfl rfl (by decide +kernel)
set_option maxRecDepth 65536 in
theorem w_c18 : (Jvm.Cond.code ({ cls := "java/util/Arrays", name := "copyOfRangeBoolean", desc := "([ZII)[Z" } : Jvm.MethodName) jdk_65_method_147_code (5 : Nat) (Option.some (Jvm.ClassFile.FieldType.array Jvm.ClassFile.FieldType.boolean))).before args0 about1 = true := code_word (m := ⟨7, 7⟩) (meth := k7m7) (c := k7c7) (by decide +kernel) rfl rfl rfl (by decide +kernel)
def codes1 : List Jvm.Cond := [Jvm.Cond.code x code maxLocals ret, Jvm.Cond.code ({ cls := "lonewatch/model/InstanceValues", name := "<init>", desc := "()V" } : Jvm.MethodName) prog_110_method_1_code (1 : Nat) (Option.none : Option Jvm.ClassFile.FieldType), Jvm.Cond.code ({ cls := "java/lang/Object", name := "<init>", desc := "()V" } : Jvm.MethodName) object_method_1_code (1 : Nat) (Option.none : Option Jvm.ClassFile.FieldType), Jvm.Cond.code ({ cls := "lonewatch/model/InstanceValues$View", name := "<init>", desc := "(Llonewatch/model/InstanceValues;)V" } : Jvm.MethodName) prog_111_method_1_code (2 : Nat) (Option.none : Option Jvm.ClassFile.FieldType), Jvm.Cond.code ({ cls := "java/util/AbstractMap", name := "<init>", desc := "()V" } : Jvm.MethodName) jdk_71_method_1_code (1 : Nat) (Option.none : Option Jvm.ClassFile.FieldType), Jvm.Cond.code ({ cls := "lonewatch/model/InstanceValues", name := "put", desc := "(JJ)V" } : Jvm.MethodName) prog_110_method_4_code (7 : Nat) (Option.none : Option Jvm.ClassFile.FieldType), Jvm.Cond.code ({ cls := "lonewatch/model/InstanceValues", name := "holds", desc := "(J)Z" } : Jvm.MethodName) prog_110_method_3_code (3 : Nat) (Option.some Jvm.ClassFile.FieldType.boolean), Jvm.Cond.code ({ cls := "lonewatch/model/InstanceValues", name := "forgetBelow", desc := "(J)V" } : Jvm.MethodName) prog_110_method_5_code (7 : Nat) (Option.none : Option Jvm.ClassFile.FieldType), Jvm.Cond.code ({ cls := "java/lang/Math", name := "min", desc := "(JJ)J" } : Jvm.MethodName) jdk_29_method_70_code (4 : Nat) (Option.some Jvm.ClassFile.FieldType.long), Jvm.Cond.code ({ cls := "java/lang/Math", name := "max", desc := "(JJ)J" } : Jvm.MethodName) jdk_29_method_66_code (4 : Nat) (Option.some Jvm.ClassFile.FieldType.long), Jvm.Cond.code ({ cls := "java/util/Arrays", name := "copyOf", desc := "([JI)[J" } : Jvm.MethodName) jdk_65_method_124_code (3 : Nat) (Option.some (Jvm.ClassFile.FieldType.array Jvm.ClassFile.FieldType.long)), Jvm.Cond.code ({ cls := "java/lang/Math", name := "min", desc := "(II)I" } : Jvm.MethodName) jdk_29_method_69_code (2 : Nat) (Option.some Jvm.ClassFile.FieldType.int), Jvm.Cond.code ({ cls := "java/util/Arrays", name := "copyOf", desc := "([ZI)[Z" } : Jvm.MethodName) jdk_65_method_128_code (3 : Nat) (Option.some (Jvm.ClassFile.FieldType.array Jvm.ClassFile.FieldType.boolean)), Jvm.Cond.code ({ cls := "java/lang/Math", name := "max", desc := "(II)I" } : Jvm.MethodName) jdk_29_method_65_code (2 : Nat) (Option.some Jvm.ClassFile.FieldType.int), Jvm.Cond.code ({ cls := "java/util/Arrays", name := "copyOfRange", desc := "([JII)[J" } : Jvm.MethodName) jdk_65_method_138_code (3 : Nat) (Option.some (Jvm.ClassFile.FieldType.array Jvm.ClassFile.FieldType.long)), Jvm.Cond.code ({ cls := "java/util/Arrays", name := "copyOfRangeLong", desc := "([JII)[J" } : Jvm.MethodName) jdk_65_method_139_code (5 : Nat) (Option.some (Jvm.ClassFile.FieldType.array Jvm.ClassFile.FieldType.long)), Jvm.Cond.code ({ cls := "java/util/Arrays", name := "checkLength", desc := "(II)V" } : Jvm.MethodName) jdk_65_method_131_code (2 : Nat) (Option.none : Option Jvm.ClassFile.FieldType), Jvm.Cond.code ({ cls := "java/util/Arrays", name := "copyOfRange", desc := "([ZII)[Z" } : Jvm.MethodName) jdk_65_method_146_code (3 : Nat) (Option.some (Jvm.ClassFile.FieldType.array Jvm.ClassFile.FieldType.boolean)), Jvm.Cond.code ({ cls := "java/util/Arrays", name := "copyOfRangeBoolean", desc := "([ZII)[Z" } : Jvm.MethodName) jdk_65_method_147_code (5 : Nat) (Option.some (Jvm.ClassFile.FieldType.array Jvm.ClassFile.FieldType.boolean))]
set_option maxRecDepth 65536 in
theorem codes_eq : words1.filter isCode = codes1 := rfl
theorem w_codes : ∀ c ∈ words1.filter isCode, c.before args0 about1 = true := by
  rw [codes_eq]
  intro c hc
  simp only [codes1, List.mem_cons, List.not_mem_nil, or_false] at hc
  rcases hc with rfl | rfl | rfl | rfl | rfl | rfl | rfl | rfl | rfl | rfl | rfl | rfl | rfl | rfl | rfl | rfl | rfl | rfl | rfl
  · exact w_c0
  · exact w_c1
  · exact w_c2
  · exact w_c3
  · exact w_c4
  · exact w_c5
  · exact w_c6
  · exact w_c7
  · exact w_c8
  · exact w_c9
  · exact w_c10
  · exact w_c11
  · exact w_c12
  · exact w_c13
  · exact w_c14
  · exact w_c15
  · exact w_c16
  · exact w_c17
  · exact w_c18
set_option maxRecDepth 65536 in
theorem w_t1 : (words1.take 24).all (fun c => isCode c || c.before args0 about1) = true := by decide +kernel
set_option maxRecDepth 65536 in
theorem w_t2 : ((words1.drop 24).take 24).all (fun c => isCode c || c.before args0 about1) = true := by decide +kernel
set_option maxRecDepth 65536 in
theorem w_t3 : (((words1.drop 24).drop 24).take 24).all (fun c => isCode c || c.before args0 about1) = true := by decide +kernel
set_option maxRecDepth 65536 in
theorem w_t4 : ((((words1.drop 24).drop 24).drop 24).take 24).all (fun c => isCode c || c.before args0 about1) = true := by decide +kernel
set_option maxRecDepth 65536 in
theorem w_t5 : ((((words1.drop 24).drop 24).drop 24).drop 24).all (fun c => isCode c || c.before args0 about1) = true := by decide +kernel
theorem w_tables : (allAtoms (Jvm.Cond.code x code maxLocals ret :: tables_1)).before args0 about1 = true := by
  rw [allAtoms_all]
  show words1.all (fun c => c.before args0 about1) = true
  refine all_split ?_ w_codes
  rw [← List.take_append_drop 24 words1, List.all_append, w_t1, ← List.take_append_drop 24 (words1.drop 24), List.all_append, w_t2, ← List.take_append_drop 24 ((words1.drop 24).drop 24), List.all_append, w_t3, ← List.take_append_drop 24 (((words1.drop 24).drop 24).drop 24), List.all_append, w_t4, w_t5]
  rfl
set_option maxRecDepth 65536 in
theorem w_case : (Jvm.Cond.and given_1 narrow_1).before args0 about1 = true := by decide +kernel
theorem w_applies : (headSpec (Jvm.Cond.code x code maxLocals ret :: tables_1) room_1).applies x e0.platform about1 = true :=
  (Spec.applies_iff w_frames).mpr ⟨w_running, w_runnable, w_alone, w_named, w_hears, w_ripe, w_room, w_tables⟩
theorem atStart : AtStart classFile x code maxLocals ret World_1 tables_1 room_1 Calls_1 rest_1 Pre_1 launch0 p0 e0 about1 theMethod args0 below0 :=
  ⟨lists_1, trivial, launch0.admits_env _ _ _, launch0.least_env, fairChoices_fair.cas, fairChoices_fair.clock, w_frames, w_args, w_heap, w_applies, trivial, trivial, w_case⟩
end start1
theorem witness_1 : WitnessClaimed_1 := ⟨start1.p0, start1.e0, start1.about1, start1.theMethod, start1.args0, start1.below0, start1.atStart⟩
end Jvm.Pilot.@@N@@
