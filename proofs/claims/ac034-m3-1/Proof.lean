import JvmDerived
import JvmDerived.Pilot.@@N@@Statement
import JvmDerived.Pilot.@@N@@Code
set_option linter.unusedVariables false
set_option linter.unusedSimpArgs false
namespace Jvm.Pilot.@@N@@
open Jvm Jvm.ClassFile Sem Op Lib Jvm.Free Jvm.Stand Jvm.LawKit Jvm.RoadKit Bundle Jvm.Pilot.@@N@@.Jvm.D

/-! THE OWN LAYER. 1. Straight roads by evaluation: an instruction, its length, the int that it brings, where a goto leads -/
abbrev El := Instr × Nat × Int32 × Nat
def okc (i : Instr) (n : Nat) (k : Int32) (t pc : Nat) : Bool :=
  match i with
  | .iload _ => n == 2
  | .lload _ => n == 2
  | .aload _ => n == 2
  | .istore _ => n == 2
  | .lstore _ => n == 2
  | .astore _ => n == 2
  | .bipush j => n == 2 && decide ((Int8.ofInt j).toInt32 = k)
  | .sipush j => n == 3 && decide ((Int16.ofInt j).toInt32 = k)
  | .iconst j => n == 1 && decide (Int32.ofInt j = k)
  | .iinc _ j => n == 3 && decide (Int32.ofInt j = k)
  | .goto o => n == 3 && (decide (0 ≤ (pc : Int) + o) && decide (((pc : Int) + o).toNat = t))
  | .ldc _ => n == 2
  | .ldc2_w _ => n == 3
  | _ => n == 1
def nx (i : Instr) (n t pc : Nat) : Nat := match i with | .goto _ => t | _ => pc + n
def Dec (b : ByteArray) : List El → Nat → Nat → Bool
  | [], pc, pc' => pc == pc'
  | (i, n, k, t) :: L, pc, pc' => decide (decode b pc = .ok (i, n)) && (okc i n k t pc && Dec b L (nx i n t pc) pc')
def own_look {α : Type} : List (Nat × α) → Nat → Option α
  | [], _ => none
  | q :: r, i => if i = q.1 then some q.2 else own_look r i
theorem own_look_mem {α : Type} : ∀ (L : List (Nat × α)) (i : Nat) (v : α), own_look L i = some v → (i, v) ∈ L
  | [], _, _, h => nomatch h
  | q :: r, i, v, h => by
    unfold own_look at h
    split at h
    · rename_i e; cases h; subst e; exact List.mem_cons_self ..
    · exact List.mem_cons_of_mem _ (own_look_mem r i v h)
def pV (KI : List (Nat × Int32)) (KJ : List (Nat × Int64)) (i : Instr) (k : Int32) (ls : Array Slot) (st : List Value) : Option (Array Slot × List Value) :=
  match i with
  | .iload_n a => match ls[a.val]? with | some (.val (.int v)) => some (ls, .int v :: st) | _ => none
  | .iload a => match ls[a]? with | some (.val (.int v)) => some (ls, .int v :: st) | _ => none
  | .lload_n a => match ls[a.val]? with | some (.val (.long v)) => some (ls, .long v :: st) | _ => none
  | .lload a => match ls[a]? with | some (.val (.long v)) => some (ls, .long v :: st) | _ => none
  | .aload_n a => match ls[a.val]? with | some (.val (.ref v)) => some (ls, .ref v :: st) | some (.val .null) => some (ls, .null :: st) | _ => none
  | .aload a => match ls[a]? with | some (.val (.ref v)) => some (ls, .ref v :: st) | some (.val .null) => some (ls, .null :: st) | _ => none
  | .istore_n a => match st with | .int x :: r => (match storeLocals ls a.val (.int x) with | some l2 => some (l2, r) | none => none) | _ => none
  | .istore a => match st with | .int x :: r => (match storeLocals ls a (.int x) with | some l2 => some (l2, r) | none => none) | _ => none
  | .lstore_n a => match st with | .long x :: r => (match storeLocals ls a.val (.long x) with | some l2 => some (l2, r) | none => none) | _ => none
  | .lstore a => match st with | .long x :: r => (match storeLocals ls a (.long x) with | some l2 => some (l2, r) | none => none) | _ => none
  | .astore_n a => match st with | .ref x :: r => (match storeLocals ls a.val (.ref x) with | some l2 => some (l2, r) | none => none) | .null :: r => (match storeLocals ls a.val .null with | some l2 => some (l2, r) | none => none) | _ => none
  | .astore a => match st with | .ref x :: r => (match storeLocals ls a (.ref x) with | some l2 => some (l2, r) | none => none) | .null :: r => (match storeLocals ls a .null with | some l2 => some (l2, r) | none => none) | _ => none
  | .iconst j => some (ls, .int k :: st)
  | .bipush j => some (ls, .int k :: st)
  | .sipush j => some (ls, .int k :: st)
  | .lconst j => match j with | 0 => some (ls, .long 0 :: st) | 1 => some (ls, .long 1 :: st)
  | .aconst_null => some (ls, .null :: st)
  | .iadd => match st with | .int y :: .int x :: r => some (ls, .int (x + y) :: r) | _ => none
  | .isub => match st with | .int y :: .int x :: r => some (ls, .int (x - y) :: r) | _ => none
  | .imul => match st with | .int y :: .int x :: r => some (ls, .int (x * y) :: r) | _ => none
  | .iand => match st with | .int y :: .int x :: r => some (ls, .int (x &&& y) :: r) | _ => none
  | .ior => match st with | .int y :: .int x :: r => some (ls, .int (x ||| y) :: r) | _ => none
  | .ixor => match st with | .int y :: .int x :: r => some (ls, .int (x ^^^ y) :: r) | _ => none
  | .ishl => match st with | .int y :: .int x :: r => some (ls, .int (x <<< (y &&& 31)) :: r) | _ => none
  | .ishr => match st with | .int y :: .int x :: r => some (ls, .int (x >>> (y &&& 31)) :: r) | _ => none
  | .iushr => match st with | .int y :: .int x :: r => some (ls, .int (XT.ushr x y) :: r) | _ => none
  | .ladd => match st with | .long y :: .long x :: r => some (ls, .long (x + y) :: r) | _ => none
  | .lsub => match st with | .long y :: .long x :: r => some (ls, .long (x - y) :: r) | _ => none
  | .lmul => match st with | .long y :: .long x :: r => some (ls, .long (x * y) :: r) | _ => none
  | .land => match st with | .long y :: .long x :: r => some (ls, .long (x &&& y) :: r) | _ => none
  | .lor => match st with | .long y :: .long x :: r => some (ls, .long (x ||| y) :: r) | _ => none
  | .lxor => match st with | .long y :: .long x :: r => some (ls, .long (x ^^^ y) :: r) | _ => none
  | .lshl => match st with | .int y :: .long x :: r => some (ls, .long (x <<< (y.toInt64 &&& 63)) :: r) | _ => none
  | .lushr => match st with | .int y :: .long x :: r => some (ls, .long (XT.ushrL x y) :: r) | _ => none
  | .lshr => match st with | .int y :: .long x :: r => some (ls, .long (x >>> (y.toInt64 &&& 63)) :: r) | _ => none
  | .ineg => match st with | .int x :: r => some (ls, .int (-x) :: r) | _ => none
  | .lneg => match st with | .long x :: r => some (ls, .long (-x) :: r) | _ => none
  | .i2l => match st with | .int x :: r => some (ls, .long x.toInt64 :: r) | _ => none
  | .l2i => match st with | .long x :: r => some (ls, .int x.toInt32 :: r) | _ => none
  | .i2b => match st with | .int x :: r => some (ls, .int x.toInt8.toInt32 :: r) | _ => none
  | .i2s => match st with | .int x :: r => some (ls, .int x.toInt16.toInt32 :: r) | _ => none
  | .dup => match st with | .int x :: r => some (ls, .int x :: .int x :: r) | .ref x :: r => some (ls, .ref x :: .ref x :: r) | _ => none
  | .dup2 => match st with | .int x :: .ref y :: r => some (ls, .int x :: .ref y :: .int x :: .ref y :: r) | .long x :: r => some (ls, .long x :: .long x :: r) | _ => none
  | .dup_x2 => match st with | .int x :: .int y :: .ref z :: r => some (ls, .int x :: .int y :: .ref z :: .int x :: r) | _ => none
  | .goto o => some (ls, st)
  | .iinc a j => match ls[a]? with | some (.val (.int v)) => (match storeLocals ls a (.int (v + k)) with | some l2 => some (l2, st) | none => none) | _ => none
  | .ldc a => match own_look KI a with | some v => some (ls, .int v :: st) | none => none
  | .ldc2_w a => match own_look KJ a with | some v => some (ls, .long v :: st) | none => none
  | _ => none
def prun (KI : List (Nat × Int32)) (KJ : List (Nat × Int64)) : List El → Array Slot → List Value → Option (Array Slot × List Value)
  | [], ls, st => some (ls, st)
  | (i, _, k, _) :: L, ls, st => match pV KI KJ i k ls st with | some (l2, s2) => prun KI KJ L l2 s2 | none => none
theorem own_dupX2 {tb : Tables} [Ours tb] {e : Env} {below : List Frame} {T target : State} {m : MethodId} {c : Code} {g : JFrame} (h : At T m c below) (hx : tb.exec = Jvm.exec) (hg : g.method = m) {x y z : Value} {rest : List Value} (hd : decode c.code g.pc = .ok (.dup_x2, 1)) (hs : g.stack = x :: y :: z :: rest) (h1 : x.category = 1) (h2 : y.category = 1) (h3 : z.category = 1)
    (hr : Steps tb e below (T.setTop { g with pc := g.pc + 1, stack := x :: y :: z :: x :: rest }) target) : Steps tb e below (T.setTop g) target := by
  subst hg
  jvm_step h [h.top, hx, hd, hs, h1, h2, h3, dup_x2.wp_sem]
  exact hr
section OwnSteps
variable {p : Program} {l : Launch} {e : Env} {R : Room} {s : State} {m : MethodId} {args : Array Value} {below : List Frame} {meth : Method} {c : Code} {T : State} {locs : List Loc} {cells slots : Nat} {Z : State} {a0 : Array Value} {own : String} {KI : List (Nat × Int32)} {KJ : List (Nat × Int64)}
set_option maxHeartbeats 4000000 in
theorem pV_ok (X : Stand p l e R s m args below meth c T locs cells slots) (hx : p.tables.exec = Jvm.exec) (hZ : Z.Warmed39 s.vm) (hown : s.vm.findClass own = some m.cls) (hKI : ∀ q ∈ KI, (Jvm.Cond.constant own q.1 q.2).before a0 Z = true) (hKJ : ∀ q ∈ KJ, (Jvm.Cond.constantLong own q.1 q.2).before a0 Z = true)
    {pc n t : Nat} {i : Instr} {k : Int32} {ls ls' : Array Slot} {st st' : List Value} (hd : decode c.code pc = .ok (i, n)) (ho : okc i n k t pc = true) (h : pV KI KJ i k ls st = some (ls', st')) {target : State}
    (hr : Steps p.tables e below (T.setTop (mkF m (nx i n t pc) ls' st')) target) : Steps p.tables e below (T.setTop (mkF m pc ls st)) target := by
  cases i
  case iload_n a =>
    simp only [okc, beq_iff_eq] at ho
    subst ho
    simp only [pV] at h
    split at h
    · cases h
      exact XS.iloadN X.here hx rfl hd (by assumption) hr
    · cases h
  case iload a =>
    simp only [okc, beq_iff_eq] at ho
    subst ho
    simp only [pV] at h
    split at h
    · cases h
      exact XS.iload X.here hx rfl hd (by assumption) hr
    · cases h
  case lload_n a =>
    simp only [okc, beq_iff_eq] at ho
    subst ho
    simp only [pV] at h
    split at h
    · cases h
      exact XT.lloadN X.here hx rfl hd (by assumption) hr
    · cases h
  case lload a =>
    simp only [okc, beq_iff_eq] at ho
    subst ho
    simp only [pV] at h
    split at h
    · cases h
      exact XT.lload X.here hx rfl hd (by assumption) hr
    · cases h
  case aload_n a =>
    simp only [okc, beq_iff_eq] at ho
    subst ho
    simp only [pV] at h
    split at h
    · cases h
      exact XS.aloadN X.here hx rfl hd (by assumption) rfl hr
    · cases h
      exact XS.aloadN X.here hx rfl hd (by assumption) rfl hr
    · cases h
  case aload a =>
    simp only [okc, beq_iff_eq] at ho
    subst ho
    simp only [pV] at h
    split at h
    · cases h
      exact XS.aload X.here hx rfl hd (by assumption) rfl hr
    · cases h
      exact XS.aload X.here hx rfl hd (by assumption) rfl hr
    · cases h
  case istore_n a =>
    simp only [okc, beq_iff_eq] at ho
    subst ho
    simp only [pV] at h
    split at h
    · split at h
      · cases h
        exact XS.istoreN X.here hx rfl hd rfl (by assumption) hr
      · cases h
    · cases h
  case istore a =>
    simp only [okc, beq_iff_eq] at ho
    subst ho
    simp only [pV] at h
    split at h
    · split at h
      · cases h
        exact XS.istore X.here hx rfl hd rfl (by assumption) hr
      · cases h
    · cases h
  case lstore_n a =>
    simp only [okc, beq_iff_eq] at ho
    subst ho
    simp only [pV] at h
    split at h
    · split at h
      · cases h
        exact XT.lstoreN X.here hx rfl hd rfl (by assumption) hr
      · cases h
    · cases h
  case lstore a =>
    simp only [okc, beq_iff_eq] at ho
    subst ho
    simp only [pV] at h
    split at h
    · split at h
      · cases h
        exact XT.lstore X.here hx rfl hd rfl (by assumption) hr
      · cases h
    · cases h
  case astore_n a =>
    simp only [okc, beq_iff_eq] at ho
    subst ho
    simp only [pV] at h
    split at h
    · split at h
      · cases h
        exact XS.astoreN X.here hx rfl hd rfl rfl (by assumption) hr
      · cases h
    · split at h
      · cases h
        exact XS.astoreN X.here hx rfl hd rfl rfl (by assumption) hr
      · cases h
    · cases h
  case astore a =>
    simp only [okc, beq_iff_eq] at ho
    subst ho
    simp only [pV] at h
    split at h
    · split at h
      · cases h
        exact XS.astore X.here hx rfl hd rfl rfl (by assumption) hr
      · cases h
    · split at h
      · cases h
        exact XS.astore X.here hx rfl hd rfl rfl (by assumption) hr
      · cases h
    · cases h
  case iconst j =>
    simp only [okc, Bool.and_eq_true, beq_iff_eq, decide_eq_true_eq] at ho
    obtain ⟨rfl, rfl⟩ := ho
    simp only [pV] at h
    cases h
    exact XS.iconst X.here hx rfl hd hr
  case bipush j =>
    simp only [okc, Bool.and_eq_true, beq_iff_eq, decide_eq_true_eq] at ho
    obtain ⟨rfl, rfl⟩ := ho
    simp only [pV] at h
    cases h
    exact XS.bipush X.here hx rfl hd hr
  case sipush j =>
    simp only [okc, Bool.and_eq_true, beq_iff_eq, decide_eq_true_eq] at ho
    obtain ⟨rfl, rfl⟩ := ho
    simp only [pV] at h
    cases h
    exact XS.sipush X.here hx rfl hd hr
  case lconst j =>
    simp only [okc, beq_iff_eq] at ho
    subst ho
    simp only [pV] at h
    split at h
    · cases h
      exact XT.lconst X.here hx rfl hd hr
    · cases h
      exact XT.lconst X.here hx rfl hd hr
  case aconst_null =>
    simp only [okc, beq_iff_eq] at ho
    subst ho
    simp only [pV] at h
    cases h
    exact XS.aconstNull X.here hx rfl hd hr
  case iadd =>
    simp only [okc, beq_iff_eq] at ho
    subst ho
    simp only [pV] at h
    split at h
    · cases h
      exact XS.iadd X.here hx rfl hd rfl hr
    · cases h
  case isub =>
    simp only [okc, beq_iff_eq] at ho
    subst ho
    simp only [pV] at h
    split at h
    · cases h
      exact XS.isub X.here hx rfl hd rfl hr
    · cases h
  case imul =>
    simp only [okc, beq_iff_eq] at ho
    subst ho
    simp only [pV] at h
    split at h
    · cases h
      exact XS.imul X.here hx rfl hd rfl hr
    · cases h
  case iand =>
    simp only [okc, beq_iff_eq] at ho
    subst ho
    simp only [pV] at h
    split at h
    · cases h
      exact XS.iand X.here hx rfl hd rfl hr
    · cases h
  case ior =>
    simp only [okc, beq_iff_eq] at ho
    subst ho
    simp only [pV] at h
    split at h
    · cases h
      exact XT.ior X.here hx rfl hd rfl hr
    · cases h
  case ixor =>
    simp only [okc, beq_iff_eq] at ho
    subst ho
    simp only [pV] at h
    split at h
    · cases h
      exact XT.ixor X.here hx rfl hd rfl hr
    · cases h
  case ishl =>
    simp only [okc, beq_iff_eq] at ho
    subst ho
    simp only [pV] at h
    split at h
    · cases h
      exact XT.ishl X.here hx rfl hd rfl hr
    · cases h
  case ishr =>
    simp only [okc, beq_iff_eq] at ho
    subst ho
    simp only [pV] at h
    split at h
    · cases h
      exact XT.ishr X.here hx rfl hd rfl hr
    · cases h
  case iushr =>
    simp only [okc, beq_iff_eq] at ho
    subst ho
    simp only [pV] at h
    split at h
    · cases h
      exact XT.iushr X.here hx rfl hd rfl hr
    · cases h
  case ladd =>
    simp only [okc, beq_iff_eq] at ho
    subst ho
    simp only [pV] at h
    split at h
    · cases h
      exact XT.ladd X.here hx rfl hd rfl hr
    · cases h
  case lsub =>
    simp only [okc, beq_iff_eq] at ho
    subst ho
    simp only [pV] at h
    split at h
    · cases h
      exact XT.lsub X.here hx rfl hd rfl hr
    · cases h
  case lmul =>
    simp only [okc, beq_iff_eq] at ho
    subst ho
    simp only [pV] at h
    split at h
    · cases h
      exact XT.lmul X.here hx rfl hd rfl hr
    · cases h
  case land =>
    simp only [okc, beq_iff_eq] at ho
    subst ho
    simp only [pV] at h
    split at h
    · cases h
      exact XT.land X.here hx rfl hd rfl hr
    · cases h
  case lor =>
    simp only [okc, beq_iff_eq] at ho
    subst ho
    simp only [pV] at h
    split at h
    · cases h
      exact XT.lor X.here hx rfl hd rfl hr
    · cases h
  case lxor =>
    simp only [okc, beq_iff_eq] at ho
    subst ho
    simp only [pV] at h
    split at h
    · cases h
      exact XT.lxor X.here hx rfl hd rfl hr
    · cases h
  case lshl =>
    simp only [okc, beq_iff_eq] at ho
    subst ho
    simp only [pV] at h
    split at h
    · cases h
      exact XT.lshl X.here hx rfl hd rfl hr
    · cases h
  case lushr =>
    simp only [okc, beq_iff_eq] at ho
    subst ho
    simp only [pV] at h
    split at h
    · cases h
      exact XT.lushr X.here hx rfl hd rfl hr
    · cases h
  case lshr =>
    simp only [okc, beq_iff_eq] at ho
    subst ho
    simp only [pV] at h
    split at h
    · cases h
      exact XT.lshr X.here hx rfl hd rfl hr
    · cases h
  case ineg =>
    simp only [okc, beq_iff_eq] at ho
    subst ho
    simp only [pV] at h
    split at h
    · cases h
      exact XS.ineg X.here hx rfl hd rfl hr
    · cases h
  case lneg =>
    simp only [okc, beq_iff_eq] at ho
    subst ho
    simp only [pV] at h
    split at h
    · cases h
      exact XT.lneg X.here hx rfl hd rfl hr
    · cases h
  case i2l =>
    simp only [okc, beq_iff_eq] at ho
    subst ho
    simp only [pV] at h
    split at h
    · cases h
      exact XT.i2l X.here hx rfl hd rfl hr
    · cases h
  case l2i =>
    simp only [okc, beq_iff_eq] at ho
    subst ho
    simp only [pV] at h
    split at h
    · cases h
      exact XT.l2i X.here hx rfl hd rfl hr
    · cases h
  case i2b =>
    simp only [okc, beq_iff_eq] at ho
    subst ho
    simp only [pV] at h
    split at h
    · cases h
      exact XT.i2b X.here hx rfl hd rfl hr
    · cases h
  case i2s =>
    simp only [okc, beq_iff_eq] at ho
    subst ho
    simp only [pV] at h
    split at h
    · cases h
      exact XT.i2s X.here hx rfl hd rfl hr
    · cases h
  case dup =>
    simp only [okc, beq_iff_eq] at ho
    subst ho
    simp only [pV] at h
    split at h
    · cases h
      exact XS.dup X.here hx rfl hd rfl rfl hr
    · cases h
      exact XS.dup X.here hx rfl hd rfl rfl hr
    · cases h
  case dup2 =>
    simp only [okc, beq_iff_eq] at ho
    subst ho
    simp only [pV] at h
    split at h
    · cases h
      exact XT.dup2 X.here hx rfl hd rfl rfl rfl hr
    · cases h
      exact XT.dup2L X.here hx rfl hd rfl hr
    · cases h
  case dup_x2 =>
    simp only [okc, beq_iff_eq] at ho
    subst ho
    simp only [pV] at h
    split at h
    · cases h
      exact own_dupX2 X.here hx rfl hd rfl rfl rfl rfl hr
    · cases h
  case goto o =>
    simp only [okc, Bool.and_eq_true, beq_iff_eq, decide_eq_true_eq] at ho
    obtain ⟨rfl, h1, h2⟩ := ho
    simp only [pV] at h
    cases h
    exact XS.goto X.here hx rfl (pc0 := pc) (pc' := t) rfl hd h1 h2 hr
  case iinc a j =>
    simp only [okc, Bool.and_eq_true, beq_iff_eq, decide_eq_true_eq] at ho
    obtain ⟨rfl, rfl⟩ := ho
    simp only [pV] at h
    split at h
    · split at h
      · cases h
        exact XS.iinc X.here hx rfl hd (by assumption) (by assumption) hr
      · cases h
    · cases h
  case ldc a =>
    simp only [okc, beq_iff_eq] at ho
    subst ho
    simp only [pV] at h
    split at h
    · rename_i v q
      cases h
      exact X.ldcInt hx hown (mv hZ (hKI _ (own_look_mem _ _ _ q))) (g := mkF m pc ls st) rfl hd _ hr
    · cases h
  case ldc2_w a =>
    simp only [okc, beq_iff_eq] at ho
    subst ho
    simp only [pV] at h
    split at h
    · rename_i v q
      cases h
      exact X.ldc2Long hx hown (mv hZ (hKJ _ (own_look_mem _ _ _ q))) (g := mkF m pc ls st) rfl hd _ hr
    · cases h
  all_goals exact nomatch (show (none : Option (Array Slot × List Value)) = some (ls', st') from h)
theorem prun_ok (X : Stand p l e R s m args below meth c T locs cells slots) (hx : p.tables.exec = Jvm.exec) (hZ : Z.Warmed39 s.vm) (hown : s.vm.findClass own = some m.cls) (hKI : ∀ q ∈ KI, (Jvm.Cond.constant own q.1 q.2).before a0 Z = true) (hKJ : ∀ q ∈ KJ, (Jvm.Cond.constantLong own q.1 q.2).before a0 Z = true) {target : State} {pc' : Nat} {ls' : Array Slot} {st' : List Value} :
    ∀ (L : List El) (pc : Nat) (ls : Array Slot) (st : List Value), Dec c.code L pc pc' = true → prun KI KJ L ls st = some (ls', st') → Steps p.tables e below (T.setTop (mkF m pc' ls' st')) target → Steps p.tables e below (T.setTop (mkF m pc ls st)) target
  | [], pc, ls, st, hD, h, hr => by
    simp only [Dec, beq_iff_eq] at hD
    simp only [prun] at h
    cases h; subst hD
    exact hr
  | (i, n, k, t) :: L, pc, ls, st, hD, h, hr => by
    simp only [Dec, Bool.and_eq_true, decide_eq_true_eq] at hD
    simp only [prun] at h
    split at h
    · rename_i l2 s2 q
      exact pV_ok X hx hZ hown hKI hKJ hD.1 hD.2.1 q (prun_ok X hx hZ hown hKI hKJ L _ l2 s2 hD.2.2 h hr)
    · cases h
end OwnSteps
/-! 2. Where a walk stands (Wk), that it comes to its end (Go), a method's contract (Cnt) -/
def Wk (Z : State) (l : Launch) (p : Program) (e : Env) (R : Room) (s : State) (m : MethodId) (args : Array Value) (below : List Frame) (meth : Method) (c : Code) (own nm : String) (bytes : ByteArray) (maxL : Nat) (ret : Option FieldType) (n0 : Nat) (T : State) (h : Heap) (cells slots : Nat) : Prop :=
  (∃ locs, Stand p l e R s m args below meth c T locs cells slots ∧ Fr n0 locs) ∧ T.heap = h ∧ n0 ≤ h.size ∧ p.tables.exec = Jvm.exec ∧ Z.Warmed39 s.vm ∧ s.vm.findClass own = some m.cls ∧ c.code = bytes ∧ c.maxLocals = maxL ∧ meth.sig.returnType = ret ∧ meth.locks = false ∧ meth.name = nm
def Go (p : Program) (e : Env) (below : List Frame) (s : State) (R : Room) (n0 : Nat) (Q : Option Value → Heap → Prop) (A : State) : Prop :=
  ∃ (s₂ : State) (v : Option Value) (L : List Loc), Steps p.tables e below A s₂ ∧ s₂.status = .running ∧ Ended s₂ below (.returned v) ∧ (Q v s₂.heap ∧ n0 ≤ s₂.heap.size ∧ Fr n0 L) ∧ FrameEnd s (.returned v) s₂ L R.cells R.slots
def Cnt (l : Launch) (Z : State) (y : MethodName) (bytes : ByteArray) (maxL : Nat) (ret : Option FieldType) (rm : Room) (n0 : Nat) (as' : Array Value) (h : Heap) (Q : Option Value → Heap → Prop) : Prop :=
  ∀ ws : List Jvm.Cond, MetFree l y (head1 (Jvm.Cond.code y bytes maxL ret :: ws) rm) (fun a U => a = as' ∧ Z.Warmed39 U.vm ∧ U.heap = h) (fun _ _ _ _ _ => True) (fun _ U o U' => ∃ v L, o = .returned v ∧ (Q v U'.heap ∧ n0 ≤ U'.heap.size ∧ Fr n0 L) ∧ FrameEnd U o U' L rm.cells rm.slots)
theorem Cnt.mk {l : Launch} {Z : State} {y : MethodName} {bytes : ByteArray} {maxL : Nat} {ret : Option FieldType} {rm : Room} {n0 : Nat} {as' : Array Value} {h : Heap} {Q : Option Value → Heap → Prop} (hn : plainFor y = true) (hh : n0 ≤ h.size)
    (H : ∀ p e s m below meth c T, Wk Z l p e rm s m as' below meth c y.cls y.name bytes maxL ret n0 T h 0 0 → Go p e below s rm n0 Q (T.setTop (entryFrame m as' maxL))) : Cnt l Z y bytes maxL ret rm n0 as' h Q := by
  intro ws
  refine MetFree.of_bodySF hn hisR ?_
  intro p e s m args below meth c s₁ Bd hml hP hK
  obtain ⟨rfl, hZ, hq⟩ := hP
  have hX : Stand p l e rm s m args below meth c s₁ [] 0 0 := Stand.of_body Bd
  obtain ⟨s₂, v, L, h1, h2, h3, h4, h5⟩ := H p e s m below meth c s₁ ⟨⟨[], hX, Fr.nil n0⟩, by rw [← hq, Bd.state]; rfl, hh, Bd.exec, hZ, findClass_of_methodNamed Bd.named, Bd.bytes, hml, Bd.returns, Bd.notSynchronized, (name_of_methodNamed Bd.named Bd.method).1⟩
  exact ⟨s₂, _, h1, h2, h3, v, L, rfl, h4, h5⟩
section OwnLaws
variable {Z : State} {l : Launch} {p : Program} {e : Env} {R : Room} {s : State} {m : MethodId} {args : Array Value} {below : List Frame} {meth : Method} {c : Code} {own nm : String} {bytes : ByteArray} {maxL : Nat} {ret : Option FieldType} {n0 : Nat} {T : State} {h : Heap} {cells slots : Nat} {Q : Option Value → Heap → Prop} {a0 : Array Value} {pc : Nat} {ls : Array Slot} {st rest : List Value}
theorem Go.lift {A A' : State} (k : ∀ t, Steps p.tables e below A' t → Steps p.tables e below A t) (g : Go p e below s R n0 Q A') : Go p e below s R n0 Q A := by
  obtain ⟨s2, v, L, h1, r⟩ := g
  exact ⟨s2, v, L, k _ h1, r⟩
theorem Go.cast {g g' : JFrame} (q : g = g') (k : Go p e below s R n0 Q (T.setTop g')) : Go p e below s R n0 Q (T.setTop g) := q ▸ k
theorem Wk.blk (X : Wk Z l p e R s m args below meth c own nm bytes maxL ret n0 T h cells slots) {KI : List (Nat × Int32)} {KJ : List (Nat × Int64)} (hK : (∀ q ∈ KI, (Jvm.Cond.constant own q.1 q.2).before a0 Z = true) ∧ (∀ q ∈ KJ, (Jvm.Cond.constantLong own q.1 q.2).before a0 Z = true)) {L : List El} {pc' : Nat} {ls' : Array Slot} {st' : List Value}
    (hD : Dec bytes L pc pc' = true) (hr : prun KI KJ L ls st = some (ls', st')) (g : Go p e below s R n0 Q (T.setTop (mkF m pc' ls' st'))) : Go p e below s R n0 Q (T.setTop (mkF m pc ls st)) := by
  obtain ⟨⟨locs, Y, N⟩, eT, hn, hx, hZ, hown, hby, hml, hrt, hlk, hnm⟩ := X
  subst hby
  exact g.lift fun t k => prun_ok Y hx hZ hown hK.1 hK.2 L pc ls st hD hr k
theorem Wk.more (X : Wk Z l p e R s m args below meth c own nm bytes maxL ret n0 T h cells slots) {c' s' : Nat} (h1 : cells ≤ c') (h2 : slots ≤ s') : Wk Z l p e R s m args below meth c own nm bytes maxL ret n0 T h c' s' := by
  obtain ⟨⟨locs, Y, N⟩, r⟩ := X
  exact ⟨⟨locs, Y.more h1 h2, N⟩, r⟩
theorem Wk.size (X : Wk Z l p e R s m args below meth c own nm bytes maxL ret n0 T h cells slots) : n0 ≤ h.size := X.2.2.1
/-! branches -/
def cT (cd : ClassFile.Cond) (x y : Int32) : Prop := match cd with | .eq => x = y | .ne => ¬ x = y | .lt => x < y | .ge => ¬ x < y | .gt => y < x | .le => ¬ y < x
def cF (cd : ClassFile.Cond) (x y : Int32) : Prop := match cd with | .eq => ¬ x = y | .ne => x = y | .lt => ¬ x < y | .ge => x < y | .gt => ¬ y < x | .le => y < x
theorem cT_cF (cd : ClassFile.Cond) (x y : Int32) : (if_icmp.holds cd x y = true ∧ cT cd x y) ∨ (if_icmp.holds cd x y = false ∧ cF cd x y) := by
  cases cd <;> simp only [cT, cF]
  · by_cases q : x = y
    · exact Or.inl ⟨(teq q).1, q⟩
    · exact Or.inr ⟨(feq q).1, q⟩
  · by_cases q : x = y
    · exact Or.inr ⟨(teq q).2, q⟩
    · exact Or.inl ⟨(feq q).2, q⟩
  all_goals first
    | (by_cases q : x < y
       · first | exact Or.inl ⟨(tlt q).1, q⟩ | exact Or.inr ⟨(tlt q).2.1, q⟩
       · first | exact Or.inr ⟨(flt q).1, q⟩ | exact Or.inl ⟨(flt q).2.1, q⟩)
    | (by_cases q : y < x
       · first | exact Or.inl ⟨(tlt q).2.2.1, q⟩ | exact Or.inr ⟨(tlt q).2.2.2, q⟩
       · first | exact Or.inr ⟨(flt q).2.2.1, q⟩ | exact Or.inl ⟨(flt q).2.2.2, q⟩)
def lT (cd : ClassFile.Cond) (x y : Int64) : Prop := match cd with | .eq => x = y | .ne => ¬ x = y | .lt => x < y | .ge => ¬ x < y | .gt => y < x | .le => ¬ y < x
def lF (cd : ClassFile.Cond) (x y : Int64) : Prop := match cd with | .eq => ¬ x = y | .ne => x = y | .lt => ¬ x < y | .ge => x < y | .gt => ¬ y < x | .le => y < x
theorem cmpL_W (x y : Int64) : XT.cmpL x y = lcmpW x y := rfl
theorem lT_lF (cd : ClassFile.Cond) (x y : Int64) : (if_icmp.holds cd (XT.cmpL x y) 0 = true ∧ lT cd x y) ∨ (if_icmp.holds cd (XT.cmpL x y) 0 = false ∧ lF cd x y) := by
  rw [cmpL_W]
  rcases cT_cF cd (lcmpW x y) 0 with ⟨a, b⟩ | ⟨a, b⟩
  · refine Or.inl ⟨a, ?_⟩
    cases cd <;> simp only [cT, lT] at b ⊢
    all_goals first | exact (lw_eq x y).mp b | exact fun q => b ((lw_eq x y).mpr q) | exact (lw_lt x y).mp b | exact fun q => b ((lw_lt x y).mpr q) | exact (lw_gt x y).mp b | exact fun q => b ((lw_gt x y).mpr q)
  · refine Or.inr ⟨a, ?_⟩
    cases cd <;> simp only [cF, lF] at b ⊢
    all_goals first | exact (lw_eq x y).mp b | exact fun q => b ((lw_eq x y).mpr q) | exact (lw_lt x y).mp b | exact fun q => b ((lw_lt x y).mpr q) | exact (lw_gt x y).mp b | exact fun q => b ((lw_gt x y).mpr q)
def DecB (b : ByteArray) (pc : Nat) (i : Instr) (o : Int) (t : Nat) : Bool := decide (decode b pc = .ok (i, 3)) && (decide (0 ≤ (pc : Int) + o) && decide (((pc : Int) + o).toNat = t))
theorem DecB.spec {b : ByteArray} {i : Instr} {o : Int} {t : Nat} (hD : DecB b pc i o t = true) : decode b pc = .ok (i, 3) ∧ 0 ≤ (pc : Int) + o ∧ ((pc : Int) + o).toNat = t := by
  simpa only [DecB, Bool.and_eq_true, decide_eq_true_eq] using hD
theorem Wk.icmp (X : Wk Z l p e R s m args below meth c own nm bytes maxL ret n0 T h cells slots) (cd : ClassFile.Cond) (o : Int) (t f : Nat) {x y : Int32} (hD : (DecB bytes pc (.if_icmp cd o) o t && pc + 3 == f) = true)
    (ky : cT cd x y → Go p e below s R n0 Q (T.setTop (mkF m t ls rest))) (kn : cF cd x y → Go p e below s R n0 Q (T.setTop (mkF m f ls rest))) : Go p e below s R n0 Q (T.setTop (mkF m pc ls (.int y :: .int x :: rest))) := by
  obtain ⟨⟨locs, Y, N⟩, eT, hn, hx, hZ, hown, hby, r⟩ := X
  simp only [Bool.and_eq_true, beq_iff_eq] at hD
  obtain ⟨hD, rfl⟩ := hD
  obtain ⟨hd, h1, h2⟩ := DecB.spec hD
  rcases cT_cF cd x y with ⟨a, b⟩ | ⟨a, b⟩
  · exact (ky b).lift fun _ k => XS.icmpYes Y.here hx rfl (pc0 := pc) (pc' := t) rfl (hb hby hd) rfl a h1 h2 k
  · exact (kn b).lift fun _ k => XS.icmpNo Y.here hx rfl (hb hby hd) rfl a k
theorem Wk.ifc (X : Wk Z l p e R s m args below meth c own nm bytes maxL ret n0 T h cells slots) (cd : ClassFile.Cond) (o : Int) (t f : Nat) {x : Int32} (hD : (DecB bytes pc (.ifCond cd o) o t && pc + 3 == f) = true)
    (ky : cT cd x 0 → Go p e below s R n0 Q (T.setTop (mkF m t ls rest))) (kn : cF cd x 0 → Go p e below s R n0 Q (T.setTop (mkF m f ls rest))) : Go p e below s R n0 Q (T.setTop (mkF m pc ls (.int x :: rest))) := by
  obtain ⟨⟨locs, Y, N⟩, eT, hn, hx, hZ, hown, hby, r⟩ := X
  simp only [Bool.and_eq_true, beq_iff_eq] at hD
  obtain ⟨hD, rfl⟩ := hD
  obtain ⟨hd, h1, h2⟩ := DecB.spec hD
  rcases cT_cF cd x 0 with ⟨a, b⟩ | ⟨a, b⟩
  · exact (ky b).lift fun _ k => XS.ifYes Y.here hx rfl (pc0 := pc) (pc' := t) rfl (hb hby hd) rfl ((if0 _ _).trans a) h1 h2 k
  · exact (kn b).lift fun _ k => XS.ifNo Y.here hx rfl (hb hby hd) rfl ((if0 _ _).trans a) k
theorem Wk.lcmp (X : Wk Z l p e R s m args below meth c own nm bytes maxL ret n0 T h cells slots) (cd : ClassFile.Cond) (o : Int) (t f : Nat) {x y : Int64} (hD : (decide (decode bytes pc = .ok (.lcmp, 1)) && (DecB bytes (pc + 1) (.ifCond cd o) o t && pc + 4 == f)) = true)
    (ky : lT cd x y → Go p e below s R n0 Q (T.setTop (mkF m t ls rest))) (kn : lF cd x y → Go p e below s R n0 Q (T.setTop (mkF m f ls rest))) : Go p e below s R n0 Q (T.setTop (mkF m pc ls (.long y :: .long x :: rest))) := by
  obtain ⟨⟨locs, Y, N⟩, eT, hn, hx, hZ, hown, hby, r⟩ := X
  simp only [Bool.and_eq_true, beq_iff_eq, decide_eq_true_eq] at hD
  obtain ⟨hL, hD, rfl⟩ := hD
  obtain ⟨hd, h1, h2⟩ := DecB.spec hD
  rcases lT_lF cd x y with ⟨a, b⟩ | ⟨a, b⟩
  · exact (ky b).lift fun _ k => XT.lcmp Y.here hx rfl (hb hby hL) rfl (XS.ifYes Y.here hx rfl (pc0 := pc + 1) (pc' := t) rfl (hb hby hd) rfl ((if0 _ _).trans a) h1 h2 k)
  · exact (kn b).lift fun _ k => XT.lcmp Y.here hx rfl (hb hby hL) rfl (XS.ifNo Y.here hx rfl (hb hby hd) rfl ((if0 _ _).trans a) k)
theorem Wk.ifnullY (X : Wk Z l p e R s m args below meth c own nm bytes maxL ret n0 T h cells slots) (o : Int) (t : Nat) (hD : DecB bytes pc (.ifnull o) o t = true) (k : Go p e below s R n0 Q (T.setTop (mkF m t ls rest))) : Go p e below s R n0 Q (T.setTop (mkF m pc ls (.null :: rest))) := by
  obtain ⟨⟨locs, Y, N⟩, eT, hn, hx, hZ, hown, hby, r⟩ := X
  obtain ⟨hd, h1, h2⟩ := DecB.spec hD
  exact k.lift fun _ k => XS.ifnullYes Y.here hx rfl (pc0 := pc) (pc' := t) rfl (hb hby hd) rfl h1 h2 k
theorem Wk.ifnullN (X : Wk Z l p e R s m args below meth c own nm bytes maxL ret n0 T h cells slots) (o : Int) (f : Nat) {a : Addr} (hD : (decide (decode bytes pc = .ok (.ifnull o, 3)) && pc + 3 == f) = true) (k : Go p e below s R n0 Q (T.setTop (mkF m f ls rest))) : Go p e below s R n0 Q (T.setTop (mkF m pc ls (.ref a :: rest))) := by
  obtain ⟨⟨locs, Y, N⟩, eT, hn, hx, hZ, hown, hby, r⟩ := X
  simp only [Bool.and_eq_true, beq_iff_eq, decide_eq_true_eq] at hD
  obtain ⟨hd, rfl⟩ := hD
  exact k.lift fun _ k => XS.ifnullNo Y.here hx rfl (hb hby hd) rfl k
theorem Wk.ifnnY (X : Wk Z l p e R s m args below meth c own nm bytes maxL ret n0 T h cells slots) (o : Int) (t : Nat) {a : Addr} (hD : DecB bytes pc (.ifnonnull o) o t = true) (k : Go p e below s R n0 Q (T.setTop (mkF m t ls rest))) : Go p e below s R n0 Q (T.setTop (mkF m pc ls (.ref a :: rest))) := by
  obtain ⟨⟨locs, Y, N⟩, eT, hn, hx, hZ, hown, hby, r⟩ := X
  obtain ⟨hd, h1, h2⟩ := DecB.spec hD
  exact k.lift fun _ k => XT.ifnonnullYes Y.here hx rfl (pc0 := pc) (pc' := t) rfl (hb hby hd) rfl h1 h2 k
theorem Wk.ifnnN (X : Wk Z l p e R s m args below meth c own nm bytes maxL ret n0 T h cells slots) (o : Int) (f : Nat) (hD : (decide (decode bytes pc = .ok (.ifnonnull o, 3)) && pc + 3 == f) = true) (k : Go p e below s R n0 Q (T.setTop (mkF m f ls rest))) : Go p e below s R n0 Q (T.setTop (mkF m pc ls (.null :: rest))) := by
  obtain ⟨⟨locs, Y, N⟩, eT, hn, hx, hZ, hown, hby, r⟩ := X
  simp only [Bool.and_eq_true, beq_iff_eq, decide_eq_true_eq] at hD
  obtain ⟨hd, rfl⟩ := hD
  exact k.lift fun _ k => XT.ifnonnullNo Y.here hx rfl (hb hby hd) rfl k
/-- two references that differ: if_acmpne is taken, if_acmpeq isn't -/
theorem Wk.acmpNeT (X : Wk Z l p e R s m args below meth c own nm bytes maxL ret n0 T h cells slots) (o : Int) (t : Nat) {a b : Addr} (hne : a ≠ b) (hD : DecB bytes pc (.if_acmp .ne o) o t = true) (k : Go p e below s R n0 Q (T.setTop (mkF m t ls rest))) : Go p e below s R n0 Q (T.setTop (mkF m pc ls (.ref b :: .ref a :: rest))) := by
  obtain ⟨⟨locs, Y, N⟩, eT, hn, hx, hZ, hown, hby, r⟩ := X
  obtain ⟨hd, h1, h2⟩ := DecB.spec hD
  exact k.lift fun _ k => XT.acmpYes Y.here hx rfl (pc0 := pc) (pc' := t) rfl (hb hby hd) rfl rfl rfl (by simp [XT.acmp, hne]) h1 h2 k
theorem Wk.acmpEqF (X : Wk Z l p e R s m args below meth c own nm bytes maxL ret n0 T h cells slots) (o : Int) (f : Nat) {a b : Addr} (hne : a ≠ b) (hD : (decide (decode bytes pc = .ok (.if_acmp .eq o, 3)) && pc + 3 == f) = true) (k : Go p e below s R n0 Q (T.setTop (mkF m f ls rest))) : Go p e below s R n0 Q (T.setTop (mkF m pc ls (.ref b :: .ref a :: rest))) := by
  obtain ⟨⟨locs, Y, N⟩, eT, hn, hx, hZ, hown, hby, r⟩ := X
  simp only [Bool.and_eq_true, beq_iff_eq, decide_eq_true_eq] at hD
  obtain ⟨hd, rfl⟩ := hD
  exact k.lift fun _ k => XT.acmpNo Y.here hx rfl (hb hby hd) rfl rfl rfl (by simp [XT.acmp, hne]) k
/-! division -/
def De (b : ByteArray) (pc : Nat) (i : Instr) (n pc' : Nat) : Bool := decide (decode b pc = .ok (i, n)) && pc + n == pc'
theorem De.spec {b : ByteArray} {i : Instr} {n pc' : Nat} (hD : De b pc i n pc' = true) : decode b pc = .ok (i, n) ∧ pc + n = pc' := by
  simpa only [De, Bool.and_eq_true, decide_eq_true_eq, beq_iff_eq] using hD
theorem Wk.irem (X : Wk Z l p e R s m args below meth c own nm bytes maxL ret n0 T h cells slots) (pc' : Nat) {x y : Int32} (hD : De bytes pc .irem 1 pc' = true) (hy : y ≠ 0) (k : Go p e below s R n0 Q (T.setTop (mkF m pc' ls (.int (x % y) :: rest)))) : Go p e below s R n0 Q (T.setTop (mkF m pc ls (.int y :: .int x :: rest))) := by
  obtain ⟨⟨locs, Y, N⟩, eT, hn, hx, hZ, hown, hby, r⟩ := X
  obtain ⟨hd, rfl⟩ := De.spec hD
  exact k.lift fun _ k => iremM Y hx rfl (hb hby hd) rfl hy k
theorem Wk.idiv (X : Wk Z l p e R s m args below meth c own nm bytes maxL ret n0 T h cells slots) (pc' : Nat) {x y : Int32} (hD : De bytes pc .idiv 1 pc' = true) (hy : y ≠ 0) (k : Go p e below s R n0 Q (T.setTop (mkF m pc' ls (.int (x / y) :: rest)))) : Go p e below s R n0 Q (T.setTop (mkF m pc ls (.int y :: .int x :: rest))) := by
  obtain ⟨⟨locs, Y, N⟩, eT, hn, hx, hZ, hown, hby, r⟩ := X
  obtain ⟨hd, rfl⟩ := De.spec hD
  exact k.lift fun _ k => XS.idiv Y.here hx rfl (hb hby hd) rfl hy k
theorem Wk.ldiv (X : Wk Z l p e R s m args below meth c own nm bytes maxL ret n0 T h cells slots) (pc' : Nat) {x y : Int64} (hD : De bytes pc .ldiv 1 pc' = true) (hy : y ≠ 0) (k : Go p e below s R n0 Q (T.setTop (mkF m pc' ls (.long (x / y) :: rest)))) : Go p e below s R n0 Q (T.setTop (mkF m pc ls (.long y :: .long x :: rest))) := by
  obtain ⟨⟨locs, Y, N⟩, eT, hn, hx, hZ, hown, hby, r⟩ := X
  obtain ⟨hd, rfl⟩ := De.spec hD
  exact k.lift fun _ k => XT.ldiv Y.here hx rfl (hb hby hd) rfl hy k
theorem Wk.lrem (X : Wk Z l p e R s m args below meth c own nm bytes maxL ret n0 T h cells slots) (pc' : Nat) {x y : Int64} (hD : De bytes pc .lrem 1 pc' = true) (hy : y ≠ 0) (k : Go p e below s R n0 Q (T.setTop (mkF m pc' ls (.long (x % y) :: rest)))) : Go p e below s R n0 Q (T.setTop (mkF m pc ls (.long y :: .long x :: rest))) := by
  obtain ⟨⟨locs, Y, N⟩, eT, hn, hx, hZ, hown, hby, r⟩ := X
  obtain ⟨hd, rfl⟩ := De.spec hD
  exact k.lift fun _ k => XT.lrem Y.here hx rfl (hb hby hd) rfl hy (by rw [lrem_mod]; exact k)
/-! returns -/
theorem Wk.retG (X : Wk Z l p e R s m args below meth c own nm bytes maxL ret n0 T h cells slots) {i : Instr} {t : FieldType} {w : Value} (hd : decode bytes pc = .ok (i, 1)) (hret : ret = some t) (hnw : narrow t w = w)
    (hi : (i = .ireturn ∧ (t = .int ∨ t = .boolean ∨ t = .byte ∨ t = .char ∨ t = .short) ∧ ∃ z, w = .int z) ∨ (i = .lreturn ∧ t = .long ∧ ∃ z, w = .long z) ∨ (i = .dreturn ∧ t = .double ∧ ∃ z, w = .double z) ∨ (i = .freturn ∧ t = .float ∧ ∃ z, w = .float z) ∨ (i = .areturn ∧ t.isReference = true ∧ w.isRef = true))
    (hc : cells ≤ R.cells) (hs : slots ≤ R.slots) (hq : Q (some w) h) : Go p e below s R n0 Q (T.setTop (mkF m pc ls (w :: rest))) := by
  obtain ⟨⟨locs, Y, N⟩, eT, hn, hx, hZ, hown, hby, hml, hr, hlk, hnm⟩ := X
  obtain ⟨fs, hl, hrun, hended, hW, hsame⟩ := Y.leave (v := some w) (fun q => by rw [hr, hret] at q; cases q) hlk
  refine ⟨T.setFrames fs, some w, locs, retOut Y hx (hr.trans hret) hnw hi (hb hby hd) hl, hrun, hended, ⟨?_, ?_, N⟩, ⟨_, rfl⟩, hW, hsame.mono hc hs⟩
  · show Q (some w) T.heap
    rw [eT]; exact hq
  · show n0 ≤ T.heap.size
    rw [eT]; exact hn
theorem Wk.retI (X : Wk Z l p e R s m args below meth c own nm bytes maxL (some .int) n0 T h cells slots) {z : Int32} (hd : decode bytes pc = .ok (.ireturn, 1)) (hc : cells ≤ R.cells) (hs : slots ≤ R.slots) (hq : Q (some (.int z)) h) : Go p e below s R n0 Q (T.setTop (mkF m pc ls (.int z :: rest))) :=
  X.retG hd rfl rfl (Or.inl ⟨rfl, Or.inl rfl, z, rfl⟩) hc hs hq
theorem Wk.retL (X : Wk Z l p e R s m args below meth c own nm bytes maxL (some .long) n0 T h cells slots) {z : Int64} (hd : decode bytes pc = .ok (.lreturn, 1)) (hc : cells ≤ R.cells) (hs : slots ≤ R.slots) (hq : Q (some (.long z)) h) : Go p e below s R n0 Q (T.setTop (mkF m pc ls (.long z :: rest))) :=
  X.retG hd rfl rfl (Or.inr (Or.inl ⟨rfl, rfl, z, rfl⟩)) hc hs hq
theorem Wk.retA (X : Wk Z l p e R s m args below meth c own nm bytes maxL ret n0 T h cells slots) {t : FieldType} {w : Value} (hd : decode bytes pc = .ok (.areturn, 1)) (hret : ret = some t) (ht : t.isReference = true) (hw : w.isRef = true) (hc : cells ≤ R.cells) (hs : slots ≤ R.slots) (hq : Q (some w) h) : Go p e below s R n0 Q (T.setTop (mkF m pc ls (w :: rest))) :=
  X.retG hd hret (by rcases ref_cases hw with rfl | ⟨z, rfl⟩ <;> cases t <;> first | rfl | simp [FieldType.isReference] at ht) (Or.inr (Or.inr (Or.inr (Or.inr ⟨rfl, ht, hw⟩)))) hc hs hq
theorem Wk.retZ (X : Wk Z l p e R s m args below meth c own nm bytes maxL (some .boolean) n0 T h cells slots) {z : Int32} (hd : decode bytes pc = .ok (.ireturn, 1)) (hc : cells ≤ R.cells) (hs : slots ≤ R.slots) (hz : z = 0 ∨ z = 1) (hq : Q (some (.int z)) h) : Go p e below s R n0 Q (T.setTop (mkF m pc ls (.int z :: rest))) :=
  X.retG hd rfl (by rcases hz with rfl | rfl <;> rfl) (Or.inl ⟨rfl, Or.inr (Or.inl rfl), z, rfl⟩) hc hs hq
theorem Wk.retV (X : Wk Z l p e R s m args below meth c own nm bytes maxL none n0 T h cells slots) (hd : decode bytes pc = .ok (.return_, 1)) (hc : cells ≤ R.cells) (hs : slots ≤ R.slots) (hq : Q none h) : Go p e below s R n0 Q (T.setTop (mkF m pc ls [])) := by
  obtain ⟨⟨locs, Y, N⟩, eT, hn, hx, hZ, hown, hby, hml, hr, hlk, hnm⟩ := X
  obtain ⟨fs, hl, hrun, hended, hW, hsame⟩ := Y.leave (v := none) (fun _ => rfl) hlk
  refine ⟨T.setFrames fs, none, locs, Y.returnOut hx hr (hb hby hd) hl, hrun, hended, ⟨?_, ?_, N⟩, ⟨_, rfl⟩, hW, hsame.mono hc hs⟩
  · show Q none T.heap
    rw [eT]; exact hq
  · show n0 ≤ T.heap.size
    rw [eT]; exact hn
/-! arrays: all their components by a list -/
def AV (Z : State) (h : Heap) (a : Addr) (ty : FieldType) (vs : List Value) : Prop := ∃ cl : Cell, Arr Z h a cl ty ∧ cl.slots.toList = vs ∧ vs.length < 2 ^ 31 ∧ (∀ v ∈ vs, fits ty v = true) ∧ Exa Z h a ("[" ++ ty.toString)
theorem AV.lt {a : Addr} {ty : FieldType} {vs : List Value} (A : AV Z h a ty vs) : a < h.size := by obtain ⟨cl, A, -⟩ := A; exact A.lt
theorem AV.ext {h' : Heap} {a : Addr} {ty : FieldType} {vs : List Value} (A : AV Z h a ty vs) (E : Ext h h') : AV Z h' a ty vs := by obtain ⟨cl, A, q1, q2, q3, q4⟩ := A; exact ⟨cl, A.ext E, q1, q2, q3, q4.ext E⟩
theorem AV.other {h' : Heap} {a b : Addr} {sl : Nat} {v : Value} {ty : FieldType} {vs : List Value} (A : AV Z h a ty vs) (W : Wr h h' b sl v) (ne : a ≠ b) : AV Z h' a ty vs := by obtain ⟨cl, A, q1, q2, q3, q4⟩ := A; exact ⟨cl, A.other W ne, q1, q2, q3, q4.wr W⟩
theorem AV.keep {h' : Heap} {a : Addr} {ws : List Addr} {ty : FieldType} {vs : List Value} (A : AV Z h a ty vs) (K : Keep h h' ws) (ne : a ∉ ws) : AV Z h' a ty vs := by obtain ⟨cl, A, q1, q2, q3, q4⟩ := A; exact ⟨cl, ⟨K.2.1 a cl A.1 ne, A.2⟩, q1, q2, q3, q4.keep K⟩
theorem AV.arv {a : Addr} {ty : FieldType} {vs : List Value} (A : AV Z h a ty vs) (d : Value) : ∃ k, Arv Z h a k ty vs.length.toInt32 vs d := by
  obtain ⟨cl, A, rfl, q2, q3, q4⟩ := A
  have hz : ¬ cl.slots.toList.length.toInt32 < 0 := by rw [Int32.lt_iff_toInt_lt, len_toInt q2]; show ¬ ((_ : Int) < (0 : Int)); omega
  have hs : cl.slots.size = cl.slots.toList.length.toInt32.toNatClampNeg := by
    have := nat_of hz; rw [len_toInt q2] at this; simp only [Array.length_toList] at *; omega
  refine ⟨cl.cls, cl, A, rfl, hs, hz, fun i hi => ?_, fun i hi => ?_⟩
  · rw [List.getD_eq_getElem?_getD, Array.getElem?_toList, Array.getElem?_eq_getElem hi]; rfl
  · rw [List.getD_eq_getElem?_getD, Array.getElem?_toList, Array.getElem?_eq_getElem hi]; exact q3 _ (by simp)
theorem AV.of_arv {a : Addr} {k : ClassId} {ty : FieldType} {vs : List Value} {d : Value} {z : Int32} (A : Arv Z h a k ty z vs d) (hl : z.toNatClampNeg = vs.length) (E : Exa Z h a ("[" ++ ty.toString)) : AV Z h a ty vs := by
  obtain ⟨cl, A, -, S, hz, H, G⟩ := A
  have e : cl.slots.toList = vs := by
    refine List.ext_getElem? fun i => ?_
    rw [Array.getElem?_toList]
    by_cases hi : i < cl.slots.size
    · rw [H i hi, List.getD_eq_getElem?_getD, List.getElem?_eq_getElem (by omega)]; rfl
    · rw [Array.getElem?_eq_none (by omega), List.getElem?_eq_none (by omega)]
  refine ⟨cl, A, e, by rw [← hl]; exact (back32 hz).2, fun v hv => ?_, E⟩
  obtain ⟨i, hi, rfl⟩ := List.getElem_of_mem hv
  have q := G i (by omega)
  rwa [List.getD_eq_getElem?_getD, List.getElem?_eq_getElem hi] at q
theorem AV.exa {a : Addr} {ty : FieldType} {vs : List Value} (A : AV Z h a ty vs) : Exa Z h a ("[" ++ ty.toString) := by obtain ⟨cl, -, -, -, -, E⟩ := A; exact E
theorem fits_default {ty : FieldType} : fits ty (defaultValue ty) = true := by cases ty <;> rfl
theorem Wk.newarr (X : Wk Z l p e R s m args below meth c own nm bytes maxL ret n0 T h cells slots) (pc' cap : Nat) {aty : ArrayType} {ty : FieldType} {n : Int32} (w : (Jvm.Cond.arrayClass ty).before a0 Z = true) (hty : newarray.typeOf aty = ty) (hD : De bytes pc (.newarray aty) 2 pc' = true) (hn : ¬ n < 0) (hcap : n.toNatClampNeg ≤ cap) (hrm : (decide (cap * 8 ≤ 536870912) && (decide (cells + 1 ≤ R.cells) && decide (slots + cap ≤ R.slots))) = true)
    (k : ∀ T' h', Wk Z l p e R s m args below meth c own nm bytes maxL ret n0 T' h' (cells + 1) (slots + cap) → Ext h h' → AV Z h' h.size ty (List.replicate n.toNatClampNeg (defaultValue ty)) → Go p e below s R n0 Q (T'.setTop (mkF m pc' ls (.ref h.size :: rest)))) : Go p e below s R n0 Q (T.setTop (mkF m pc ls (.int n :: rest))) := by
  obtain ⟨⟨locs, Y, N⟩, eT, hn0, hx, hZ, hown, hby, hml, hrt, hlk, hnm⟩ := X
  obtain ⟨hd, rfl⟩ := De.spec hD
  subst hty
  simp only [Bool.and_eq_true, decide_eq_true_eq] at hrm
  obtain ⟨T', h', cA, Y', e', E, A, E2, stp⟩ := newPE Y hx hZ w eT (g := mkF m pc ls (.int n :: rest)) rfl (hb hby hd) rfl hn hcap hrm.1 hrm.2.1 hrm.2.2 (ad := "[" ++ (newarray.typeOf aty).toString) rfl
  refine (k T' h' ⟨⟨locs, Y', N⟩, e', Nat.le_trans hn0 E.1, hx, hZ, hown, hby, hml, hrt, hlk, hnm⟩ E ⟨_, A, by simp [newA], ?_, ?_, E2⟩).lift stp
  · rw [List.length_replicate]; exact (back32 hn).2
  · intro v hv
    rw [(List.mem_replicate.mp hv).2]; exact fits_default
theorem Wk.baload (X : Wk Z l p e R s m args below meth c own nm bytes maxL ret n0 T h cells slots) (pc' : Nat) {a : Addr} {vs : List Value} {j : Int32} {v : Value} (A : AV Z h a .byte vs) (hD : De bytes pc .baload 1 pc' = true) (hj : ¬ j < 0) (hv : vs[j.toNatClampNeg]? = some v) (k : Go p e below s R n0 Q (T.setTop (mkF m pc' ls (v :: rest)))) : Go p e below s R n0 Q (T.setTop (mkF m pc ls (.int j :: .ref a :: rest))) := by
  obtain ⟨⟨locs, Y, N⟩, eT, hn, hx, hZ, hown, hby, hml, hrt, hlk, hnm⟩ := X
  obtain ⟨hd, rfl⟩ := De.spec hD
  obtain ⟨cl, A, rfl, q2, q3, q4⟩ := A
  rw [Array.getElem?_toList] at hv
  have hlt := (Array.getElem?_eq_some_iff.mp hv).1
  exact k.lift fun t k => Y.baloadBytes hx (by rw [eT]; exact A.1) (State.isArrayOf_alike hZ.alike A.2.1) A.2.2 (fun q => q.elim hj fun q => absurd hlt (Nat.not_lt.mpr q)) hv (g := mkF m pc ls (.int j :: .ref a :: rest)) rfl rfl (hb hby hd) t k
theorem Wk.iaload (X : Wk Z l p e R s m args below meth c own nm bytes maxL ret n0 T h cells slots) (pc' : Nat) {a : Addr} {vs : List Value} {j : Int32} {v : Value} (A : AV Z h a .int vs) (hD : De bytes pc .iaload 1 pc' = true) (hj : ¬ j < 0) (hv : vs[j.toNatClampNeg]? = some v) (k : Go p e below s R n0 Q (T.setTop (mkF m pc' ls (v :: rest)))) : Go p e below s R n0 Q (T.setTop (mkF m pc ls (.int j :: .ref a :: rest))) := by
  obtain ⟨⟨locs, Y, N⟩, eT, hn, hx, hZ, hown, hby, hml, hrt, hlk, hnm⟩ := X
  obtain ⟨hd, rfl⟩ := De.spec hD
  obtain ⟨cl, A, rfl, q2, q3, q4⟩ := A
  rw [Array.getElem?_toList] at hv
  have hlt := (Array.getElem?_eq_some_iff.mp hv).1
  exact k.lift fun t k => Y.iaload hx (by rw [eT]; exact A.1) (State.isArrayOf_alike hZ.alike A.2.1) A.2.2 (fun q => q.elim hj fun q => absurd hlt (Nat.not_lt.mpr q)) hv (g := mkF m pc ls (.int j :: .ref a :: rest)) rfl rfl (hb hby hd) t k
theorem Wk.laload (X : Wk Z l p e R s m args below meth c own nm bytes maxL ret n0 T h cells slots) (pc' : Nat) {a : Addr} {vs : List Value} {j : Int32} {v : Value} (A : AV Z h a .long vs) (hD : De bytes pc .laload 1 pc' = true) (hj : ¬ j < 0) (hv : vs[j.toNatClampNeg]? = some v) (k : Go p e below s R n0 Q (T.setTop (mkF m pc' ls (v :: rest)))) : Go p e below s R n0 Q (T.setTop (mkF m pc ls (.int j :: .ref a :: rest))) := by
  obtain ⟨⟨locs, Y, N⟩, eT, hn, hx, hZ, hown, hby, hml, hrt, hlk, hnm⟩ := X
  obtain ⟨hd, rfl⟩ := De.spec hD
  obtain ⟨cl, A, rfl, q2, q3, q4⟩ := A
  rw [Array.getElem?_toList] at hv
  have hlt := (Array.getElem?_eq_some_iff.mp hv).1
  exact k.lift fun t k => Y.laload hx (by rw [eT]; exact A.1) (State.isArrayOf_alike hZ.alike A.2.1) A.2.2 (fun q => q.elim hj fun q => absurd hlt (Nat.not_lt.mpr q)) hv (g := mkF m pc ls (.int j :: .ref a :: rest)) rfl rfl (hb hby hd) t k
theorem Wk.saload (X : Wk Z l p e R s m args below meth c own nm bytes maxL ret n0 T h cells slots) (pc' : Nat) {a : Addr} {vs : List Value} {j : Int32} {v : Value} (A : AV Z h a .short vs) (hD : De bytes pc .saload 1 pc' = true) (hj : ¬ j < 0) (hv : vs[j.toNatClampNeg]? = some v) (k : Go p e below s R n0 Q (T.setTop (mkF m pc' ls (v :: rest)))) : Go p e below s R n0 Q (T.setTop (mkF m pc ls (.int j :: .ref a :: rest))) := by
  obtain ⟨⟨locs, Y, N⟩, eT, hn, hx, hZ, hown, hby, hml, hrt, hlk, hnm⟩ := X
  obtain ⟨hd, rfl⟩ := De.spec hD
  obtain ⟨cl, A, rfl, q2, q3, q4⟩ := A
  rw [Array.getElem?_toList] at hv
  have hlt := (Array.getElem?_eq_some_iff.mp hv).1
  exact k.lift fun t k => Y.saload hx (by rw [eT]; exact A.1) (State.isArrayOf_alike hZ.alike A.2.1) A.2.2 (fun q => q.elim hj fun q => absurd hlt (Nat.not_lt.mpr q)) hv (g := mkF m pc ls (.int j :: .ref a :: rest)) rfl rfl (hb hby hd) t k
theorem Wk.alen (X : Wk Z l p e R s m args below meth c own nm bytes maxL ret n0 T h cells slots) (pc' : Nat) {a : Addr} {vs : List Value} {ty : FieldType} {n : Int32} (A : AV Z h a ty vs) (hD : De bytes pc .arraylength 1 pc' = true) (hl : vs.length.toInt32 = n) (k : Go p e below s R n0 Q (T.setTop (mkF m pc' ls (.int n :: rest)))) : Go p e below s R n0 Q (T.setTop (mkF m pc ls (.ref a :: rest))) := by
  obtain ⟨⟨locs, Y, N⟩, eT, hn, hx, hZ, hown, hby, hml, hrt, hlk, hnm⟩ := X
  obtain ⟨hd, rfl⟩ := De.spec hD
  obtain ⟨cl, A, rfl, q2, q3, q4⟩ := A
  subst hl
  exact k.lift fun t k => Y.arraylength hx (by rw [eT]; exact A.1) (State.isArrayOf_alike hZ.alike A.2.1) (g := mkF m pc ls (.ref a :: rest)) rfl rfl (hb hby hd) t (by simpa using k)
theorem Wk.bastore (X : Wk Z l p e R s m args below meth c own nm bytes maxL ret n0 T h cells slots) (pc' : Nat) {a : Addr} {vs : List Value} {j : Int32} {x x' : Int32} (hx' : nar .byte x = x') (A : AV Z h a .byte vs) (hD : De bytes pc .bastore 1 pc' = true) (hj : ¬ j < 0) (hl : j.toNatClampNeg < vs.length) (ha : n0 ≤ a)
    (k : ∀ T' h', Wk Z l p e R s m args below meth c own nm bytes maxL ret n0 T' h' cells slots → Wr h h' a j.toNatClampNeg (.int x') → AV Z h' a .byte (vs.set j.toNatClampNeg (.int x')) → Go p e below s R n0 Q (T'.setTop (mkF m pc' ls rest))) : Go p e below s R n0 Q (T.setTop (mkF m pc ls (.int x :: .int j :: .ref a :: rest))) := by
  obtain ⟨⟨locs, Y, N⟩, eT, hn, hx, hZ, hown, hby, hml, hrt, hlk, hnm⟩ := X
  obtain ⟨hd, rfl⟩ := De.spec hD
  obtain ⟨cl, A, rfl, q2, q3, q4⟩ := A
  subst hx'
  rw [Array.length_toList] at hl
  obtain ⟨T', h', Y', e', W, stp⟩ := stB Y hx hZ eT A (fun q => q.elim hj fun q => absurd hl (Nat.not_lt.mpr q)) (g := mkF m pc ls (.int x :: .int j :: .ref a :: rest)) rfl rfl (hb hby hd)
  refine (k T' h' ⟨⟨_, Y', Fr.snoc Y' N ha⟩, e', by rw [W.size]; exact hn, hx, hZ, hown, hby, hml, hrt, hlk, hnm⟩ W ⟨_, Arr.same W A, by simp [Cell.setSlot], by simpa using q2, fun v hv => ?_, q4.wr W⟩).lift stp
  rcases List.mem_or_eq_of_mem_set hv with q | rfl
  · exact q3 _ q
  · exact fits_nar_byte _
theorem Wk.iastore (X : Wk Z l p e R s m args below meth c own nm bytes maxL ret n0 T h cells slots) (pc' : Nat) {a : Addr} {vs : List Value} {j : Int32} {x : Int32} (A : AV Z h a .int vs) (hD : De bytes pc .iastore 1 pc' = true) (hj : ¬ j < 0) (hl : j.toNatClampNeg < vs.length) (ha : n0 ≤ a)
    (k : ∀ T' h', Wk Z l p e R s m args below meth c own nm bytes maxL ret n0 T' h' cells slots → Wr h h' a j.toNatClampNeg (.int x) → AV Z h' a .int (vs.set j.toNatClampNeg (.int x)) → Go p e below s R n0 Q (T'.setTop (mkF m pc' ls rest))) : Go p e below s R n0 Q (T.setTop (mkF m pc ls (.int x :: .int j :: .ref a :: rest))) := by
  obtain ⟨⟨locs, Y, N⟩, eT, hn, hx, hZ, hown, hby, hml, hrt, hlk, hnm⟩ := X
  obtain ⟨hd, rfl⟩ := De.spec hD
  obtain ⟨cl, A, rfl, q2, q3, q4⟩ := A
  rw [Array.length_toList] at hl
  obtain ⟨T', h', Y', e', W, stp⟩ := stI Y hx hZ eT A (fun q => q.elim hj fun q => absurd hl (Nat.not_lt.mpr q)) (g := mkF m pc ls (.int x :: .int j :: .ref a :: rest)) rfl rfl (hb hby hd)
  refine (k T' h' ⟨⟨_, Y', Fr.snoc Y' N ha⟩, e', by rw [W.size]; exact hn, hx, hZ, hown, hby, hml, hrt, hlk, hnm⟩ W ⟨_, Arr.same W A, by simp [Cell.setSlot], by simpa using q2, fun v hv => ?_, q4.wr W⟩).lift stp
  rcases List.mem_or_eq_of_mem_set hv with q | rfl
  · exact q3 _ q
  · rfl
theorem Wk.lastore (X : Wk Z l p e R s m args below meth c own nm bytes maxL ret n0 T h cells slots) (pc' : Nat) {a : Addr} {vs : List Value} {j : Int32} {x : Int64} (A : AV Z h a .long vs) (hD : De bytes pc .lastore 1 pc' = true) (hj : ¬ j < 0) (hl : j.toNatClampNeg < vs.length) (ha : n0 ≤ a)
    (k : ∀ T' h', Wk Z l p e R s m args below meth c own nm bytes maxL ret n0 T' h' cells slots → Wr h h' a j.toNatClampNeg (.long x) → AV Z h' a .long (vs.set j.toNatClampNeg (.long x)) → Go p e below s R n0 Q (T'.setTop (mkF m pc' ls rest))) : Go p e below s R n0 Q (T.setTop (mkF m pc ls (.long x :: .int j :: .ref a :: rest))) := by
  obtain ⟨⟨locs, Y, N⟩, eT, hn, hx, hZ, hown, hby, hml, hrt, hlk, hnm⟩ := X
  obtain ⟨hd, rfl⟩ := De.spec hD
  obtain ⟨cl, A, rfl, q2, q3, q4⟩ := A
  rw [Array.length_toList] at hl
  obtain ⟨T', h', Y', e', W, stp⟩ := stJ Y hx hZ eT A (fun q => q.elim hj fun q => absurd hl (Nat.not_lt.mpr q)) (g := mkF m pc ls (.long x :: .int j :: .ref a :: rest)) rfl rfl (hb hby hd)
  refine (k T' h' ⟨⟨_, Y', Fr.snoc Y' N ha⟩, e', by rw [W.size]; exact hn, hx, hZ, hown, hby, hml, hrt, hlk, hnm⟩ W ⟨_, Arr.same W A, by simp [Cell.setSlot], by simpa using q2, fun v hv => ?_, q4.wr W⟩).lift stp
  rcases List.mem_or_eq_of_mem_set hv with q | rfl
  · exact q3 _ q
  · rfl
theorem Wk.sastore (X : Wk Z l p e R s m args below meth c own nm bytes maxL ret n0 T h cells slots) (pc' : Nat) {a : Addr} {vs : List Value} {j : Int32} {x x' : Int32} (hx' : nar .short x = x') (A : AV Z h a .short vs) (hD : De bytes pc .sastore 1 pc' = true) (hj : ¬ j < 0) (hl : j.toNatClampNeg < vs.length) (ha : n0 ≤ a)
    (k : ∀ T' h', Wk Z l p e R s m args below meth c own nm bytes maxL ret n0 T' h' cells slots → Wr h h' a j.toNatClampNeg (.int x') → AV Z h' a .short (vs.set j.toNatClampNeg (.int x')) → Go p e below s R n0 Q (T'.setTop (mkF m pc' ls rest))) : Go p e below s R n0 Q (T.setTop (mkF m pc ls (.int x :: .int j :: .ref a :: rest))) := by
  obtain ⟨⟨locs, Y, N⟩, eT, hn, hx, hZ, hown, hby, hml, hrt, hlk, hnm⟩ := X
  obtain ⟨hd, rfl⟩ := De.spec hD
  obtain ⟨cl, A, rfl, q2, q3, q4⟩ := A
  subst hx'
  rw [Array.length_toList] at hl
  obtain ⟨T', h', Y', e', W, stp⟩ := stS Y hx hZ eT A (fun q => q.elim hj fun q => absurd hl (Nat.not_lt.mpr q)) (g := mkF m pc ls (.int x :: .int j :: .ref a :: rest)) rfl rfl (hb hby hd)
  refine (k T' h' ⟨⟨_, Y', Fr.snoc Y' N ha⟩, e', by rw [W.size]; exact hn, hx, hZ, hown, hby, hml, hrt, hlk, hnm⟩ W ⟨_, Arr.same W A, by simp [Cell.setSlot], by simpa using q2, fun v hv => ?_, q4.wr W⟩).lift stp
  rcases List.mem_or_eq_of_mem_set hv with q | rfl
  · exact q3 _ q
  · exact fits_nar_short _
theorem Wk.getf (X : Wk Z l p e R s m args below meth c own nm bytes maxL ret n0 T h cells slots) (pc' : Nat) {index : Nat} {O n d : String} {a : Addr} {v : Value} (w : (Jvm.Cond.fieldLink own index O n d).before a0 Z = true) (F : Fld Z h a O n d v) (hD : De bytes pc (.getfield index) 3 pc' = true)
    (k : ∀ T', Wk Z l p e R s m args below meth c own nm bytes maxL ret n0 T' h cells slots → Go p e below s R n0 Q (T'.setTop (mkF m pc' ls (v :: rest)))) : Go p e below s R n0 Q (T.setTop (mkF m pc ls (.ref a :: rest))) := by
  obtain ⟨⟨locs, Y, N⟩, eT, hn, hx, hZ, hown, hby, hml, hrt, hlk, hnm⟩ := X
  obtain ⟨hd, rfl⟩ := De.spec hD
  obtain ⟨T', Y', e', stp⟩ := getF Y hx hZ hown (host := "") (Or.inl w) Via.refl eT F (g := mkF m pc ls (.ref a :: rest)) rfl rfl (hb hby hd)
  exact (k T' ⟨⟨_, Y', N⟩, e', hn, hx, hZ, hown, hby, hml, hrt, hlk, hnm⟩).lift stp
theorem Wk.putf (X : Wk Z l p e R s m args below meth c own nm bytes maxL ret n0 T h cells slots) (pc' : Nat) {index kk : Nat} {O n d C : String} {a : Addr} {v old : Value} {ty : FieldType} (w : (Jvm.Cond.fieldLink own index O n d).before a0 Z = true) (F : Fld Z h a O n d old) (E : Exa Z h a C) (L : (Jvm.Cond.lays C O n d).before a0 Z = true ∨ ((Jvm.Cond.laysFinal C O n d).before a0 Z = true ∧ own = O ∧ nm = "<init>")) (wi : (Jvm.Cond.instantiable C kk).before a0 Z = true) (hty : parseFieldDescriptor d = some ty) (hnw : narrow ty v = v) (hf : fits ty v = true) (ha : n0 ≤ a) (hD : De bytes pc (.putfield index) 3 pc' = true)
    (k : ∀ T' h', Wk Z l p e R s m args below meth c own nm bytes maxL ret n0 T' h' cells slots → Wr h h' a (RoadKit.slotOf Z O n d) v → Go p e below s R n0 Q (T'.setTop (mkF m pc' ls rest))) : Go p e below s R n0 Q (T.setTop (mkF m pc ls (v :: .ref a :: rest))) := by
  obtain ⟨⟨locs, Y, N⟩, eT, hn, hx, hZ, hown, hby, hml, hrt, hlk, hnm⟩ := X
  obtain ⟨hd, rfl⟩ := De.spec hD
  obtain ⟨T', h', Y', e', W, stp⟩ := putF Y hx hZ hown (host := "") (Or.inl w) Via.refl eT F E (L.imp id fun q => ⟨q.1, q.2.1, hnm.trans q.2.2⟩) wi hty hnw hf (g := mkF m pc ls (v :: .ref a :: rest)) rfl rfl (hb hby hd)
  exact (k T' h' ⟨⟨_, Y', Fr.snoc Y' N ha⟩, e', by rw [W.size]; exact hn, hx, hZ, hown, hby, hml, hrt, hlk, hnm⟩ W).lift stp
theorem Wk.newobj (X : Wk Z l p e R s m args below meth c own nm bytes maxL ret n0 T h cells slots) (pc' : Nat) {index n : Nat} {C : String} (w : (Jvm.Cond.classLink own index C).before a0 Z = true) (wi : (Jvm.Cond.instantiable C n).before a0 Z = true) (wz : (Jvm.Cond.initialized C).before a0 Z = true) (hD : De bytes pc (.new index) 3 pc' = true) (hrm : (decide (cells + 1 ≤ R.cells) && decide (slots + n ≤ R.slots)) = true)
    (k : ∀ T' h', Wk Z l p e R s m args below meth c own nm bytes maxL ret n0 T' h' (cells + 1) (slots + n) → Ext h h' → Exa Z h' h.size C → (∀ {O nm d : String} {ty : FieldType}, Laid Z a0 C O nm d → parseFieldDescriptor d = some ty → Fld Z h' h.size O nm d (defaultValue ty)) → Go p e below s R n0 Q (T'.setTop (mkF m pc' ls (.ref h.size :: st)))) : Go p e below s R n0 Q (T.setTop (mkF m pc ls st)) := by
  obtain ⟨⟨locs, Y, N⟩, eT, hn, hx, hZ, hown, hby, hml, hrt, hlk, hnm⟩ := X
  obtain ⟨hd, rfl⟩ := De.spec hD
  simp only [Bool.and_eq_true, decide_eq_true_eq] at hrm
  obtain ⟨T', h', Y', e', E, A, D, -, stp⟩ := newO Y hx hZ hown w wi wz eT (g := mkF m pc ls st) rfl (hb hby hd) hrm.1 hrm.2
  exact (k T' h' ⟨⟨_, Y', N⟩, e', Nat.le_trans hn E.1, hx, hZ, hown, hby, hml, hrt, hlk, hnm⟩ E A D).lift stp
theorem Wk.initO (X : Wk Z l p e R s m args below meth c own nm bytes maxL ret n0 T h cells slots) (pc' W : Nat) {index : Nat} {a : Addr} (w1 : (Jvm.Cond.methodLink own index Lib.objectInit).before a0 Z = true) (w2 : (Jvm.Cond.instanceMethod Lib.objectInit).before a0 Z = true) (w3 : (Jvm.Cond.code Lib.objectInit ⟨#[0xb1]⟩ 1 none).before a0 Z = true) (hsz : ls.size = maxL) (hW : (rest.map fun v => v.category).sum = W) (hD : De bytes pc (.invokespecial index) 3 pc' = true) (hrm : (decide (1 ≤ R.frames) && decide (W + 12 ≤ R.locals)) = true)
    (k : ∀ T', Wk Z l p e R s m args below meth c own nm bytes maxL ret n0 T' h cells slots → Go p e below s R n0 Q (T'.setTop (mkF m pc' ls rest))) : Go p e below s R n0 Q (T.setTop (mkF m pc ls (.ref a :: rest))) := by
  obtain ⟨⟨locs, Y, N⟩, eT, hn, hx, hZ, hown, hby, hml, hrt, hlk, hnm⟩ := X
  obtain ⟨hd, rfl⟩ := De.spec hD
  simp only [Bool.and_eq_true, decide_eq_true_eq] at hrm
  obtain ⟨T', Y', e', stp⟩ := RoadKit.initO Y hx hZ hown w1 w2 w3 eT (g := mkF m pc ls (.ref a :: rest)) rfl (hsz.trans hml.symm) rfl (hb hby hd) hrm.1 (W := W) (by show 2 * 0 + _ ≤ _; omega) hrm.2
  exact (k T' ⟨⟨_, Y', N⟩, e', hn, hx, hZ, hown, hby, hml, hrt, hlk, hnm⟩).lift stp
theorem Wk.callS (X : Wk Z l p e R s m args below meth c own nm bytes maxL ret n0 T h cells slots) (pc' W : Nat) {y : MethodName} {yb : ByteArray} {yml : Nat} {yret : Option FieldType} {rm : Room} {Q' : Option Value → Heap → Prop} {argsL : List Value} {ps : List FieldType} {r : Option FieldType} {index : Nat} (K : Cnt l Z y yb yml yret rm n0 argsL.toArray h Q') (w1 : (Jvm.Cond.methodLink own index y).before a0 Z = true) (w2 : (Jvm.Cond.static y).before a0 Z = true) (w3 : (Jvm.Cond.initialized y.cls).before a0 Z = true) (w4 : (Jvm.Cond.code y yb yml yret).before a0 Z = true) (hy : (decide (y.cls ≠ "java/lang/invoke/MethodHandle") && decide (y.cls ≠ "java/lang/invoke/VarHandle")) = true) (hpd : parseMethodDescriptor y.desc = some ⟨ps, r⟩) (hlen : argsL.length = ps.length) (hst : st = argsL.reverse ++ rest) (hsz : ls.size = maxL) (hW : (rest.map fun v => v.category).sum = W) (hD : De bytes pc (.invokestatic index) 3 pc' = true) (hrm : (decide (rm.frames + 1 ≤ R.frames) && (decide (W + (yml + 11) + rm.locals ≤ R.locals) && (decide (cells + rm.cells ≤ R.cells) && decide (slots + rm.slots ≤ R.slots)))) = true)
    (k : ∀ T' h' v, Wk Z l p e R s m args below meth c own nm bytes maxL ret n0 T' h' (cells + rm.cells) (slots + rm.slots) → Q' v h' → Go p e below s R n0 Q (T'.setTop (mkF m pc' ls (v.toList ++ rest)))) : Go p e below s R n0 Q (T.setTop (mkF m pc ls st)) := by
  obtain ⟨⟨locs, Y, N⟩, eT, hn, hx, hZ, hown, hby, hml, hrt, hlk, hnm⟩ := X
  obtain ⟨hd, rfl⟩ := De.spec hD
  simp only [Bool.and_eq_true, decide_eq_true_eq] at hrm hy
  obtain ⟨v, _, ⟨U', L', c', s'⟩, -, Y', ⟨Lc, hq, el, ec, es⟩, stp⟩ := Jvm.LawKit.callS Y hx (y := y) hown (mvT hZ w1) (mvT hZ w2) (mvT hZ w3) (mvT hZ w4) hy (backOf (W := W) (Q := fun v h L => Q' v h ∧ n0 ≤ h.size ∧ Fr n0 L) (K []) hZ w4 w3 hrm.1 hrm.2.1) (g := mkF m pc ls st) rfl (hsz.trans hml.symm) (argsL := argsL) (rest := rest) (lenOf hpd hlen) hst (by show 2 * 0 + _ ≤ _; omega) (hb hby hd) (fun _ _ => ⟨rfl, eT, hrm.2.2.1, hrm.2.2.2⟩)
  dsimp only [Pt.U, Pt.locs, Pt.cells, Pt.slots] at Y' el ec es stp hq
  subst el ec es
  exact (k U' U'.heap v ⟨⟨_, Y', N.app hq.2.2⟩, rfl, hq.2.1, hx, hZ, hown, hby, hml, hrt, hlk, hnm⟩ hq.1).lift stp
theorem Wk.callI (X : Wk Z l p e R s m args below meth c own nm bytes maxL ret n0 T h cells slots) (pc' W : Nat) {y : MethodName} {yb : ByteArray} {yml : Nat} {rm : Room} {Q' : Option Value → Heap → Prop} {argsL : List Value} {ps : List FieldType} {r : Option FieldType} {index : Nat} {a : Addr} (K : Cnt l Z y yb yml none rm n0 (.ref a :: argsL).toArray h Q') (hnm' : y.name = "<init>") (w1 : (Jvm.Cond.methodLink own index y).before a0 Z = true) (w2 : (Jvm.Cond.instanceMethod y).before a0 Z = true) (w3 : (Jvm.Cond.initialized y.cls).before a0 Z = true) (w4 : (Jvm.Cond.code y yb yml none).before a0 Z = true) (hy : (decide (y.cls ≠ "java/lang/invoke/MethodHandle") && decide (y.cls ≠ "java/lang/invoke/VarHandle")) = true) (hpd : parseMethodDescriptor y.desc = some ⟨ps, r⟩) (hlen : argsL.length = ps.length) (hst : st = argsL.reverse ++ .ref a :: rest) (hsz : ls.size = maxL) (hW : (rest.map fun v => v.category).sum = W) (hD : De bytes pc (.invokespecial index) 3 pc' = true) (hrm : (decide (rm.frames + 1 ≤ R.frames) && (decide (W + (yml + 11) + rm.locals ≤ R.locals) && (decide (cells + rm.cells ≤ R.cells) && decide (slots + rm.slots ≤ R.slots)))) = true)
    (k : ∀ T' h' v, Wk Z l p e R s m args below meth c own nm bytes maxL ret n0 T' h' (cells + rm.cells) (slots + rm.slots) → Q' v h' → Go p e below s R n0 Q (T'.setTop (mkF m pc' ls (v.toList ++ rest)))) : Go p e below s R n0 Q (T.setTop (mkF m pc ls st)) := by
  obtain ⟨⟨locs, Y, N⟩, eT, hn, hx, hZ, hown, hby, hml, hrt, hlk, hnm⟩ := X
  obtain ⟨hd, rfl⟩ := De.spec hD
  simp only [Bool.and_eq_true, decide_eq_true_eq] at hrm hy
  obtain ⟨v, _, ⟨U', L', c', s'⟩, -, Y', ⟨Lc, hq, el, ec, es⟩, stp⟩ := Y.specialBack hx (y := y) hnm' hown (mvT hZ w1) (mvT hZ w2) (mvT hZ w4) hy (backOf (W := W) (Q := fun v h L => Q' v h ∧ n0 ≤ h.size ∧ Fr n0 L) (K []) hZ w4 w3 hrm.1 hrm.2.1) (g := mkF m pc ls st) rfl (hsz.trans hml.symm) (Steps.refl _) (a := a) (argsL := argsL) (rest := rest) (lenOf hpd hlen) hst (by show 2 * 0 + _ ≤ _; omega) (hb hby hd) (fun _ _ => ⟨rfl, eT, hrm.2.2.1, hrm.2.2.2⟩)
  dsimp only [Pt.U, Pt.locs, Pt.cells, Pt.slots] at Y' el ec es stp hq
  subst el ec es
  exact (k U' U'.heap v ⟨⟨_, Y', N.app hq.2.2⟩, rfl, hq.2.1, hx, hZ, hown, hby, hml, hrt, hlk, hnm⟩ hq.1).lift fun _ k => stp.trans k
theorem Wk.callV (X : Wk Z l p e R s m args below meth c own nm bytes maxL ret n0 T h cells slots) (pc' W : Nat) {y : MethodName} {yb : ByteArray} {yml : Nat} {yret : Option FieldType} {rm : Room} {Q' : Option Value → Heap → Prop} {argsL : List Value} {ps : List FieldType} {r : Option FieldType} {index : Nat} {b : Addr} {C : String} (E : Exa Z h b C) (K : Cnt l Z y yb yml yret rm n0 (.ref b :: argsL).toArray h Q') (w1 : (Jvm.Cond.methodLink own index y).before a0 Z = true) (w2 : (Jvm.Cond.declares y).before a0 Z = true) (w5 : (Jvm.Cond.selects C y y).before a0 Z = true) (w6 : (Jvm.Cond.instanceMethod y).before a0 Z = true) (w3 : (Jvm.Cond.initialized y.cls).before a0 Z = true) (w4 : (Jvm.Cond.code y yb yml yret).before a0 Z = true) (hy : (decide (y.cls ≠ "java/lang/invoke/MethodHandle") && decide (y.cls ≠ "java/lang/invoke/VarHandle")) = true) (hpd : parseMethodDescriptor y.desc = some ⟨ps, r⟩) (hlen : argsL.length = ps.length) (hst : st = argsL.reverse ++ .ref b :: rest) (hsz : ls.size = maxL) (hW : (rest.map fun v => v.category).sum = W) (hD : De bytes pc (.invokevirtual index) 3 pc' = true) (hrm : (decide (rm.frames + 1 ≤ R.frames) && (decide (W + (yml + 11) + rm.locals ≤ R.locals) && (decide (cells + rm.cells ≤ R.cells) && decide (slots + rm.slots ≤ R.slots)))) = true)
    (k : ∀ T' h' v, Wk Z l p e R s m args below meth c own nm bytes maxL ret n0 T' h' (cells + rm.cells) (slots + rm.slots) → Q' v h' → Go p e below s R n0 Q (T'.setTop (mkF m pc' ls (v.toList ++ rest)))) : Go p e below s R n0 Q (T.setTop (mkF m pc ls st)) := by
  obtain ⟨⟨locs, Y, N⟩, eT, hn, hx, hZ, hown, hby, hml, hrt, hlk, hnm⟩ := X
  obtain ⟨hd, rfl⟩ := De.spec hD
  simp only [Bool.and_eq_true, decide_eq_true_eq] at hrm hy
  obtain ⟨cq, kq, qa, qb, qc⟩ := isOf hZ eT E
  obtain ⟨v, _, ⟨U', L', c', s'⟩, -, Y', ⟨Lc, hq, el, ec, es⟩, stp⟩ := Y.virtualBack hx (y := y) (z := y) hown (mvT hZ w1) (mvT hZ w2) (notFace_of_selects (args := #[]) (mvT hZ w5)) (mvT hZ w5) (mvT hZ w6) hy (backOf (W := W) (Q := fun v h L => Q' v h ∧ n0 ≤ h.size ∧ Fr n0 L) (K []) hZ w4 w3 hrm.1 hrm.2.1) qa qc (g := mkF m pc ls st) rfl (hsz.trans hml.symm) (Steps.refl _) (argsL := argsL) (rest := rest) (lenOf hpd hlen) hst (by show 2 * 0 + _ ≤ _; omega) (hb hby hd) (fun _ _ => ⟨rfl, eT, hrm.2.2.1, hrm.2.2.2⟩)
  dsimp only [Pt.U, Pt.locs, Pt.cells, Pt.slots] at Y' el ec es stp hq
  subst el ec es
  exact (k U' U'.heap v ⟨⟨_, Y', N.app hq.2.2⟩, rfl, hq.2.1, hx, hZ, hown, hby, hml, hrt, hlk, hnm⟩ hq.1).lift fun _ k => stp.trans k
theorem Wk.callF (X : Wk Z l p e R s m args below meth c own nm bytes maxL ret n0 T h cells slots) (pc' W : Nat) {z : MethodName} {y : MethodName} {yb : ByteArray} {yml : Nat} {yret : Option FieldType} {rm : Room} {Q' : Option Value → Heap → Prop} {argsL : List Value} {ps : List FieldType} {r : Option FieldType} {index count : Nat} {b : Addr} {C : String} (E : Exa Z h b C) (K : Cnt l Z z yb yml yret rm n0 (.ref b :: argsL).toArray h Q') (w1 : (Jvm.Cond.methodLink own index y).before a0 Z = true) (w2 : (Jvm.Cond.declares y).before a0 Z = true) (w7 : (Jvm.Cond.interfaceMethod y.cls y.cls y.name y.desc).before a0 Z = true) (w5 : (Jvm.Cond.selects C y z).before a0 Z = true) (w6 : (Jvm.Cond.instanceMethod z).before a0 Z = true) (w8 : (Jvm.Cond.publicMethod z).before a0 Z = true) (w9 : (Jvm.Cond.unhidden C y.name y.desc).before a0 Z = true) (w10 : (Jvm.Cond.castable C y.cls).before a0 Z = true) (hfa : (Jvm.Cond.interfaceMethod y.cls y.cls y.name y.desc).faceAtom = true) (w3 : (Jvm.Cond.initialized z.cls).before a0 Z = true) (w4 : (Jvm.Cond.code z yb yml yret).before a0 Z = true) (hy : (decide (y.cls ≠ "java/lang/invoke/MethodHandle") && decide (y.cls ≠ "java/lang/invoke/VarHandle")) = true) (hpd : parseMethodDescriptor y.desc = some ⟨ps, r⟩) (hlen : argsL.length = ps.length) (hst : st = argsL.reverse ++ .ref b :: rest) (hsz : ls.size = maxL) (hW : (rest.map fun v => v.category).sum = W) (hD : De bytes pc (.invokeinterface index count) 5 pc' = true) (hrm : (decide (rm.frames + 1 ≤ R.frames) && (decide (W + (yml + 11) + rm.locals ≤ R.locals) && (decide (cells + rm.cells ≤ R.cells) && decide (slots + rm.slots ≤ R.slots)))) = true)
    (k : ∀ T' h' v, Wk Z l p e R s m args below meth c own nm bytes maxL ret n0 T' h' (cells + rm.cells) (slots + rm.slots) → Q' v h' → Go p e below s R n0 Q (T'.setTop (mkF m pc' ls (v.toList ++ rest)))) : Go p e below s R n0 Q (T.setTop (mkF m pc ls st)) := by
  obtain ⟨⟨locs, Y, N⟩, eT, hn, hx, hZ, hown, hby, hml, hrt, hlk, hnm⟩ := X
  obtain ⟨hd, rfl⟩ := De.spec hD
  simp only [Bool.and_eq_true, decide_eq_true_eq] at hrm hy
  obtain ⟨cq, kq, qa, qb, qc⟩ := isOf hZ eT E
  obtain ⟨v, _, ⟨U', L', c', s'⟩, -, Y', ⟨Lc, hq, el, ec, es⟩, stp⟩ := Y.interfaceBack hx (xi := y) (y := z) hown (mvT hZ w1) (mvT hZ w2) (mvT hZ w7 (by simp [Cond.onTables, Cond.keepsFace, Cond.keeps, Cond.steady, hfa])) (mvT hZ w5) (mvT hZ w6) (mvT hZ w8) (mvT hZ w9) (mvT hZ w10) hy (backOf (W := W) (Q := fun v h L => Q' v h ∧ n0 ≤ h.size ∧ Fr n0 L) (K []) hZ w4 w3 hrm.1 hrm.2.1) qa qb qc (g := mkF m pc ls st) rfl (hsz.trans hml.symm) (Steps.refl _) (argsL := argsL) (rest := rest) (lenOf hpd hlen) hst (by show 2 * 0 + _ ≤ _; omega) (hb hby hd) (fun _ _ => ⟨rfl, eT, hrm.2.2.1, hrm.2.2.2⟩)
  dsimp only [Pt.U, Pt.locs, Pt.cells, Pt.slots] at Y' el ec es stp hq
  subst el ec es
  exact (k U' U'.heap v ⟨⟨_, Y', N.app hq.2.2⟩, rfl, hq.2.1, hx, hZ, hown, hby, hml, hrt, hlk, hnm⟩ hq.1).lift fun _ k => stp.trans k
theorem Wk.clone (X : Wk Z l p e R s m args below meth c own nm bytes maxL ret n0 T h cells slots) (pc' W cap : Nat) {index : Nat} {ad : String} {a : Addr} {ty : FieldType} {vs : List Value} (A : AV Z h a ty vs) (had : "[" ++ ty.toString = ad) (w1 : (Jvm.Cond.methodLink own index ⟨ad, "clone", "()Ljava/lang/Object;"⟩).before a0 Z = true) (w2 : (Jvm.Cond.sameMethod ad "java/lang/Object" "clone" "()Ljava/lang/Object;").before a0 Z = true) (w3 : (Jvm.Cond.native ⟨"java/lang/Object", "clone", "()Ljava/lang/Object;"⟩).before a0 Z = true) (w4 : (Jvm.Cond.instanceMethod ⟨"java/lang/Object", "clone", "()Ljava/lang/Object;"⟩).before a0 Z = true) (w5 : (Jvm.Cond.selects ad ⟨ad, "clone", "()Ljava/lang/Object;"⟩ ⟨"java/lang/Object", "clone", "()Ljava/lang/Object;"⟩).before a0 Z = true) (w6 : (Jvm.Cond.castable ad "java/lang/Cloneable").before a0 Z = true) (hsz : ls.size = maxL) (hW : (rest.map fun v => v.category).sum = W) (hD : De bytes pc (.invokevirtual index) 3 pc' = true) (hcap : vs.length ≤ cap) (hrm : (decide (1 ≤ R.frames) && (decide (W + 14 ≤ R.locals) && (decide (cells + 1 ≤ R.cells) && decide (slots + cap ≤ R.slots)))) = true)
    (k : ∀ T' h', Wk Z l p e R s m args below meth c own nm bytes maxL ret n0 T' h' (cells + 1) (slots + cap) → Ext h h' → AV Z h' h.size ty vs → Go p e below s R n0 Q (T'.setTop (mkF m pc' ls (.ref h.size :: rest)))) : Go p e below s R n0 Q (T.setTop (mkF m pc ls (.ref a :: rest))) := by
  obtain ⟨⟨locs, Y, N⟩, eT, hn, hx, hZ, hown, hby, hml, hrt, hlk, hnm⟩ := X
  obtain ⟨hd, rfl⟩ := De.spec hD
  simp only [Bool.and_eq_true, decide_eq_true_eq] at hrm
  subst had
  obtain ⟨cl, A, rfl, q2, q3, q4⟩ := A
  have FC : FitC Z cl := fitC_of A fun i hi v hv => q3 v (by
    have := Array.getElem?_eq_some_iff.mp hv
    obtain ⟨_, e⟩ := this
    rw [← e]; simp)
  obtain ⟨T', h', Y', e', E, A', E', stp⟩ := cloneA Y hx hZ hown w1 w2 w3 w4 w5 w6 eT A q4 FC (g := mkF m pc ls (.ref a :: rest)) rfl (hsz.trans hml.symm) rfl (hb hby hd) hrm.1 (W := W) (cap := cap) (by show 2 * 0 + _ ≤ _; omega) hrm.2.1 (by simpa using hcap) hrm.2.2.1 hrm.2.2.2
  exact (k T' h' ⟨⟨_, Y', N⟩, e', Nat.le_trans hn E.1, hx, hZ, hown, hby, hml, hrt, hlk, hnm⟩ E ⟨_, A', rfl, q2, q3, E'⟩).lift stp
theorem Wk.cast (X : Wk Z l p e R s m args below meth c own nm bytes maxL ret n0 T h cells slots) (pc' : Nat) {index : Nat} {K : String} {a : Addr} (w : (Jvm.Cond.classLink own index K).before a0 Z = true) (E : Exa Z h a K) (hD : De bytes pc (.checkcast index) 3 pc' = true)
    (k : ∀ T', Wk Z l p e R s m args below meth c own nm bytes maxL ret n0 T' h cells slots → Go p e below s R n0 Q (T'.setTop (mkF m pc' ls (.ref a :: rest)))) : Go p e below s R n0 Q (T.setTop (mkF m pc ls (.ref a :: rest))) := by
  obtain ⟨⟨locs, Y, N⟩, eT, hn, hx, hZ, hown, hby, hml, hrt, hlk, hnm⟩ := X
  obtain ⟨hd, rfl⟩ := De.spec hD
  obtain ⟨T', Y', e', stp⟩ := castY Y hx hZ hown w eT (Ins.self E) (g := mkF m pc ls (.ref a :: rest)) rfl rfl (hb hby hd)
  exact (k T' ⟨⟨_, Y', N⟩, e', hn, hx, hZ, hown, hby, hml, hrt, hlk, hnm⟩).lift stp
theorem Wk.acopy (X : Wk Z l p e R s m args below meth c own nm bytes maxL ret n0 T h cells slots) (pc' W : Nat) {index : Nat} {a b : Addr} {ty : FieldType} {vs vd : List Value} {sp dp nn : Int32} (d : Value) (A : AV Z h a ty vs) (B : AV Z h b ty vd) (hp : refKind ty = false) (w1 : (Jvm.Cond.methodLink own index Jvm.Stand.acN).before a0 Z = true) (w2 : (Jvm.Cond.native Jvm.Stand.acN).before a0 Z = true) (w3 : (Jvm.Cond.static Jvm.Stand.acN).before a0 Z = true) (w4 : (Jvm.Cond.initialized "java/lang/System").before a0 Z = true) (h1 : ¬ sp < 0) (h2 : ¬ dp < 0) (h3 : ¬ nn < 0) (h4 : sp.toNatClampNeg + nn.toNatClampNeg ≤ vs.length) (h5 : dp.toNatClampNeg + nn.toNatClampNeg ≤ vd.length) (ha : n0 ≤ b) (hsz : ls.size = maxL) (hW : (rest.map fun v => v.category).sum = W) (hD : De bytes pc (.invokestatic index) 3 pc' = true) (hrm : (decide (1 ≤ R.frames) && decide (W + (nativeFrameWords "java/lang/System" "arraycopy" 5 + 11) ≤ R.locals)) = true)
    (k : ∀ T' h', Wk Z l p e R s m args below meth c own nm bytes maxL ret n0 T' h' cells slots → Keep h h' [b] → AV Z h' b ty (vd.take dp.toNatClampNeg ++ ((List.range nn.toNatClampNeg).map fun i => vs.getD (sp.toNatClampNeg + i) d) ++ vd.drop (dp.toNatClampNeg + nn.toNatClampNeg)) → Go p e below s R n0 Q (T'.setTop (mkF m pc' ls rest))) : Go p e below s R n0 Q (T.setTop (mkF m pc ls (.int nn :: .int dp :: .ref b :: .int sp :: .ref a :: rest))) := by
  obtain ⟨⟨locs, Y, N⟩, eT, hn, hx, hZ, hown, hby, hml, hrt, hlk, hnm⟩ := X
  obtain ⟨hd, rfl⟩ := De.spec hD
  simp only [Bool.and_eq_true, decide_eq_true_eq] at hrm
  have lz : ∀ {us : List Value}, us.length < 2 ^ 31 → us.length.toInt32.toNatClampNeg = us.length := fun {us} q => by
    have hz : ¬ us.length.toInt32 < 0 := by rw [Int32.lt_iff_toInt_lt, len_toInt q]; show ¬ ((_ : Int) < (0 : Int)); omega
    have := nat_of hz; rw [len_toInt q] at this; omega
  have lA : vs.length < 2 ^ 31 := by obtain ⟨_, _, _, q, _⟩ := A; exact q
  have lB : vd.length < 2 ^ 31 := by obtain ⟨_, _, _, q, _⟩ := B; exact q
  obtain ⟨k1, A'⟩ := A.arv d
  obtain ⟨k2, B'⟩ := B.arv d
  obtain ⟨T', h', L, Y', e', N', K, B2, stp⟩ := cpA Y hx hZ hown w1 w2 w3 w4 eT A' B' (Or.inl ⟨rfl, hp⟩) h1 h2 h3 (by rw [lz lA]; exact h4) (by rw [lz lB]; exact h5) rfl h5 N ha (g := mkF m pc ls (.int nn :: .int dp :: .ref b :: .int sp :: .ref a :: rest)) rfl (hsz.trans hml.symm) rfl (hb hby hd) hrm.1 (W := W) (by show 2 * 0 + _ ≤ _; omega) hrm.2
  exact (k T' h' ⟨⟨_, Y', N'⟩, e', Nat.le_trans hn K.1, hx, hZ, hown, hby, hml, hrt, hlk, hnm⟩ K (AV.of_arv B2 (by rw [lz lB]; simp; omega) (B.exa.keep K))).lift stp
theorem Wk.callP (X : Wk Z l p e R s m args below meth c own nm bytes maxL ret n0 T h cells slots) (pc' W : Nat) {y2 z2 : MethodName} {C2 : String} {y : MethodName} {yb : ByteArray} {yml : Nat} {yret : Option FieldType} {rm : Room} {Q' : Option Value → Heap → Prop} {argsL : List Value} {ps : List FieldType} {r : Option FieldType} {index : Nat} {b : Addr} {C : String} (E : Exa Z h b C) (K : Cnt l Z y yb yml yret rm n0 (.ref b :: argsL).toArray h Q') (w1 : (Jvm.Cond.methodLink own index y).before a0 Z = true) (w5 : (Jvm.Cond.selects C2 y2 z2).before a0 Z = true) (hz2 : z2.cls = y.cls) (w6 : (Jvm.Cond.instanceMethod y).before a0 Z = true) (w7 : (Jvm.Cond.privateMethod y).before a0 Z = true) (w3 : (Jvm.Cond.initialized y.cls).before a0 Z = true) (w4 : (Jvm.Cond.code y yb yml yret).before a0 Z = true) (hy : (decide (y.cls ≠ "java/lang/invoke/MethodHandle") && decide (y.cls ≠ "java/lang/invoke/VarHandle")) = true) (hpd : parseMethodDescriptor y.desc = some ⟨ps, r⟩) (hlen : argsL.length = ps.length) (hst : st = argsL.reverse ++ .ref b :: rest) (hsz : ls.size = maxL) (hW : (rest.map fun v => v.category).sum = W) (hD : De bytes pc (.invokevirtual index) 3 pc' = true) (hrm : (decide (rm.frames + 1 ≤ R.frames) && (decide (W + (yml + 11) + rm.locals ≤ R.locals) && (decide (cells + rm.cells ≤ R.cells) && decide (slots + rm.slots ≤ R.slots)))) = true)
    (k : ∀ T' h' v, Wk Z l p e R s m args below meth c own nm bytes maxL ret n0 T' h' (cells + rm.cells) (slots + rm.slots) → Q' v h' → Go p e below s R n0 Q (T'.setTop (mkF m pc' ls (v.toList ++ rest)))) : Go p e below s R n0 Q (T.setTop (mkF m pc ls st)) := by
  obtain ⟨⟨locs, Y, N⟩, eT, hn, hx, hZ, hown, hby, hml, hrt, hlk, hnm⟩ := X
  obtain ⟨hd, rfl⟩ := De.spec hD
  simp only [Bool.and_eq_true, decide_eq_true_eq] at hrm hy
  obtain ⟨cq, q, q'⟩ := E.cell
  have hpr : s.PrivateAt y := Cond.privateMethod_at (mvP hZ w7 (args := #[]))
  obtain ⟨c2, r2, m2, -, -, q3, -, kP, hkP, hkPi⟩ := Cond.selects_spec (mvT hZ w5 : (Jvm.Cond.selects C2 y2 z2).before args s = true)
  have hsel : (Jvm.Cond.selects y.cls y y).before args s = true := selects_self_of_private (by rw [← hz2]; exact findClass_of_methodNamed q3) hkP hkPi hpr (mvT hZ w6) hy
  obtain ⟨v, _, ⟨U', L', c', s'⟩, -, Y', ⟨Lc, hq, el, ec, es⟩, stp⟩ := Y.privateBack hx (y := y) hown (mvT hZ w1) (mvT hZ w6) hsel hpr (mvT hZ w4) hy (backOf (W := W) (Q := fun v h L => Q' v h ∧ n0 ≤ h.size ∧ Fr n0 L) (K []) hZ w4 w3 hrm.1 hrm.2.1) (g := mkF m pc ls st) rfl (hsz.trans hml.symm) (Steps.refl _) (a := b) (by rw [eT]; exact q) q' (argsL := argsL) (rest := rest) (lenOf hpd hlen) hst (by show 2 * 0 + _ ≤ _; omega) (hb hby hd) (fun _ _ => ⟨rfl, eT, hrm.2.2.1, hrm.2.2.2⟩)
  dsimp only [Pt.U, Pt.locs, Pt.cells, Pt.slots] at Y' el ec es stp hq
  subst el ec es
  exact (k U' U'.heap v ⟨⟨_, Y', N.app hq.2.2⟩, rfl, hq.2.1, hx, hZ, hown, hby, hml, hrt, hlk, hnm⟩ hq.1).lift fun _ k => stp.trans k
theorem Wk.tsw (X : Wk Z l p e R s m args below meth c own nm bytes maxL ret n0 T h cells slots) (t : Nat) {i : Int32} {df lo hi : Int} {offs : Array Int} {n : Nat} (hD : (decide (decode bytes pc = .ok (.tableswitch df lo hi offs, n)) && (if i.toInt < lo ∨ i.toInt > hi then decide (0 ≤ (pc : Int) + df) && decide (((pc : Int) + df).toNat = t) else (match offs[(i.toInt - lo).toNat]? with | some o => decide (0 ≤ (pc : Int) + o) && decide (((pc : Int) + o).toNat = t) | none => false))) = true) (k : Go p e below s R n0 Q (T.setTop (mkF m t ls rest))) : Go p e below s R n0 Q (T.setTop (mkF m pc ls (.int i :: rest))) := by
  obtain ⟨⟨locs, Y, N⟩, eT, hn, hx, hZ, hown, hby, r⟩ := X
  rw [Bool.and_eq_true, decide_eq_true_eq] at hD
  obtain ⟨hd, hD⟩ := hD
  split at hD
  · rename_i q
    rw [Bool.and_eq_true, decide_eq_true_eq, decide_eq_true_eq] at hD
    exact k.lift fun _ k => XS.tswOut Y.here hx rfl (pc0 := pc) (pc' := t) rfl (hb hby hd) rfl q hD.1 hD.2 k
  · rename_i q
    split at hD
    · rename_i o ho
      rw [Bool.and_eq_true, decide_eq_true_eq, decide_eq_true_eq] at hD
      exact k.lift fun _ k => XS.tswIn Y.here hx rfl (pc0 := pc) (pc' := t) rfl (hb hby hd) rfl q ho hD.1 hD.2 k
    · cases hD
end OwnLaws

theorem own_byte (x : Int32) : x.toInt8.toInt32 &&& 255 = x &&& 255 := by
  apply Int32.toInt_inj.mp
  rw [c_mask _ 255 8 (by decide) (by decide), c_mask _ 255 8 (by decide) (by decide)]
  have := c_i2b x
  have k : ((2 ^ 8 : Nat) : Int) = 256 := rfl
  rw [k]; omega
theorem own_small (x : Int32) : ∃ n : Fin 256, x &&& 255 = Int32.ofNat n.val := by
  have h := c_mask x 255 8 (by decide) (by decide)
  have h0 : 0 ≤ (x &&& 255).toInt ∧ (x &&& 255).toInt < 256 := by rw [h]; omega
  refine ⟨⟨(x &&& 255).toInt.toNat, by omega⟩, ?_⟩
  apply Int32.toInt_inj.mp
  show _ = (Int32.ofNat (x &&& 255).toInt.toNat).toInt
  rw [Int32.toInt_ofNat_small (by omega)]
  omega
theorem own_m255 (x : Int32) : 0 ≤ (x &&& 255).toInt ∧ (x &&& 255).toInt ≤ 255 := c_and x 255 (by decide)
theorem own_narb (x : Int32) : nar .byte x.toInt8.toInt32 = x.toInt8.toInt32 := by
  show x.toInt8.toInt32.toInt8.toInt32 = _
  have h1 := c_i2b x; have h2 := c_i2b x.toInt8.toInt32
  exact Int32.toInt_inj.mp (by omega)

theorem own_nn {j : Int32} (h : 0 ≤ j.toInt) : ¬ j < 0 := by rw [Int32.lt_iff_toInt_lt]; show ¬ _ < (0 : Int); omega
theorem own_nat {j : Int32} (h : 0 ≤ j.toInt) : (j.toNatClampNeg : Int) = j.toInt := by have := nat_of (own_nn h); omega

theorem own_step {acc b : Int32} {A r : Int} (hA : acc.toInt = A) (h0 : 0 ≤ A) (h1 : A < 16777216) (hb : b.toInt % 64 = r) : ((acc <<< ((6 : Int32) &&& 31)) ||| (b &&& 63)).toInt = A * 64 + r := by
  have e1 := c_ishl acc 6 6 (by decide)
  have e2 := c_mask b 63 6 (by decide) (by decide)
  have k6 : ((2 ^ 6 : Nat) : Int) = 64 := rfl
  rw [k6] at e1 e2
  have r1 := rng32 (acc <<< ((6 : Int32) &&& 31))
  have e3 := c_or (acc <<< ((6 : Int32) &&& 31)) (b &&& 63) 6 (by decide) 64 (by rfl) (by omega) (by omega) (by omega)
  have r2 := rng32 ((acc <<< ((6 : Int32) &&& 31)) ||| (b &&& 63))
  omega
theorem own_b64 (v : Int32) : v.toInt8.toInt32.toInt % 64 = v.toInt % 64 := by have := c_i2b v; omega
theorem own_div (x y : Int32) (d : Int) (hy : y.toInt = d) (h0 : 0 < d) (h : 0 ≤ x.toInt) : (x / y).toInt = x.toInt / d := (c_idiv x y d hy (by rintro rfl; have : (-1 : Int32).toInt = -1 := rfl; omega)).1 h
theorem own_mod (x y : Int32) (d : Int) (hy : y.toInt = d) (h : 0 ≤ x.toInt) : (x % y).toInt = x.toInt % d := (c_irem x y d hy).1 h
theorem own_add (x y : Int32) (h1 : -2147483648 ≤ x.toInt + y.toInt) (h2 : x.toInt + y.toInt < 2147483648) : (x + y).toInt = x.toInt + y.toInt := by have := c_iadd x y; have := rng32 (x + y); omega
theorem own_lead (v m : Int32) (k : Nat) (K : Int) (hk : k ≤ 31) (hm : m.toBitVec.toNat = 2 ^ k - 1) (hK : ((2 ^ k : Nat) : Int) = K) : (v &&& m).toInt = v.toInt % K := by rw [c_mask v m k hk hm, hK]
theorem own_1 {c : Int32} (h : 0 ≤ c.toInt ∧ c.toInt < 128) : c.toInt8.toInt32 &&& ((255 : Int32) >>> (((1 : Int32) + 0) &&& 31)) = c := by
  apply Int32.toInt_inj.mp
  rw [own_lead _ _ 7 128 (by decide) (by decide) rfl]
  have := c_i2b c; omega
theorem own_2 {c : Int32} (h : 128 ≤ c.toInt ∧ c.toInt < 2048) : (((192 + c / 64).toInt8.toInt32 &&& ((255 : Int32) >>> (((2 : Int32) + 1) &&& 31))) <<< ((6 : Int32) &&& 31)) ||| ((128 + c % 64).toInt8.toInt32 &&& 63) = c := by
  apply Int32.toInt_inj.mp
  have d1 := own_div c 64 64 rfl (by decide) (by omega)
  have m1 := own_mod c 64 64 rfl (by omega)
  have k1 : (192 : Int32).toInt = 192 := rfl
  have k2 : (128 : Int32).toInt = 128 := rfl
  have a1 := own_add 192 (c / 64) (by omega) (by omega)
  have a2 := own_add 128 (c % 64) (by omega) (by omega)
  have l := own_lead (192 + c / 64).toInt8.toInt32 ((255 : Int32) >>> (((2 : Int32) + 1) &&& 31)) 5 32 (by decide) (by decide) rfl
  have := c_i2b (192 + c / 64)
  rw [own_step (A := c.toInt / 64) (r := c.toInt % 64) (by rw [l]; omega) (by omega) (by omega) (by rw [own_b64]; omega)]
  omega
theorem own_3 {c : Int32} (h : 2048 ≤ c.toInt ∧ c.toInt < 65536) : (((((224 + c / 4096).toInt8.toInt32 &&& ((255 : Int32) >>> (((3 : Int32) + 1) &&& 31))) <<< ((6 : Int32) &&& 31)) ||| ((128 + (c / 64) % 64).toInt8.toInt32 &&& 63)) <<< ((6 : Int32) &&& 31)) ||| ((128 + c % 64).toInt8.toInt32 &&& 63) = c := by
  apply Int32.toInt_inj.mp
  have d1 := own_div c 4096 4096 rfl (by decide) (by omega)
  have d2 := own_div c 64 64 rfl (by decide) (by omega)
  have m2 := own_mod (c / 64) 64 64 rfl (by omega)
  have m1 := own_mod c 64 64 rfl (by omega)
  have k1 : (224 : Int32).toInt = 224 := rfl
  have k2 : (128 : Int32).toInt = 128 := rfl
  have a1 := own_add 224 (c / 4096) (by omega) (by omega)
  have a2 := own_add 128 (c % 64) (by omega) (by omega)
  have a3 := own_add 128 ((c / 64) % 64) (by omega) (by omega)
  have l := own_lead (224 + c / 4096).toInt8.toInt32 ((255 : Int32) >>> (((3 : Int32) + 1) &&& 31)) 4 16 (by decide) (by decide) rfl
  have := c_i2b (224 + c / 4096)
  have s1 := own_step (acc := (224 + c / 4096).toInt8.toInt32 &&& ((255 : Int32) >>> (((3 : Int32) + 1) &&& 31))) (b := (128 + (c / 64) % 64).toInt8.toInt32) (A := c.toInt / 4096) (r := c.toInt / 64 % 64) (by rw [l]; omega) (by omega) (by omega) (by rw [own_b64]; omega)
  rw [own_step (r := c.toInt % 64) s1 (by omega) (by omega) (by rw [own_b64]; omega)]
  omega
theorem own_4 {c : Int32} (h : 65536 ≤ c.toInt ∧ c.toInt < 1114112) : (((((((240 + c / 262144).toInt8.toInt32 &&& ((255 : Int32) >>> (((4 : Int32) + 1) &&& 31))) <<< ((6 : Int32) &&& 31)) ||| ((128 + (c / 4096) % 64).toInt8.toInt32 &&& 63)) <<< ((6 : Int32) &&& 31)) ||| ((128 + (c / 64) % 64).toInt8.toInt32 &&& 63)) <<< ((6 : Int32) &&& 31)) ||| ((128 + c % 64).toInt8.toInt32 &&& 63) = c := by
  apply Int32.toInt_inj.mp
  have d0 := own_div c 262144 262144 rfl (by decide) (by omega)
  have d1 := own_div c 4096 4096 rfl (by decide) (by omega)
  have d2 := own_div c 64 64 rfl (by decide) (by omega)
  have m3 := own_mod (c / 4096) 64 64 rfl (by omega)
  have m2 := own_mod (c / 64) 64 64 rfl (by omega)
  have m1 := own_mod c 64 64 rfl (by omega)
  have k1 : (240 : Int32).toInt = 240 := rfl
  have k2 : (128 : Int32).toInt = 128 := rfl
  have a1 := own_add 240 (c / 262144) (by omega) (by omega)
  have a2 := own_add 128 (c % 64) (by omega) (by omega)
  have a3 := own_add 128 ((c / 64) % 64) (by omega) (by omega)
  have a4 := own_add 128 ((c / 4096) % 64) (by omega) (by omega)
  have l := own_lead (240 + c / 262144).toInt8.toInt32 ((255 : Int32) >>> (((4 : Int32) + 1) &&& 31)) 3 8 (by decide) (by decide) rfl
  have := c_i2b (240 + c / 262144)
  have s1 := own_step (acc := (240 + c / 262144).toInt8.toInt32 &&& ((255 : Int32) >>> (((4 : Int32) + 1) &&& 31))) (b := (128 + (c / 4096) % 64).toInt8.toInt32) (A := c.toInt / 262144) (r := c.toInt / 4096 % 64) (by rw [l]; omega) (by omega) (by omega) (by rw [own_b64]; omega)
  have s2 := own_step (b := (128 + (c / 64) % 64).toInt8.toInt32) (r := c.toInt / 64 % 64) s1 (by omega) (by omega) (by rw [own_b64]; omega)
  rw [own_step (r := c.toInt % 64) s2 (by omega) (by omega) (by rw [own_b64]; omega)]
  omega
def Rg (n c : Int32) : Prop := (n = 1 ∧ 0 ≤ c.toInt ∧ c.toInt < 128) ∨ (n = 2 ∧ 128 ≤ c.toInt ∧ c.toInt < 2048) ∨ (n = 3 ∧ 2048 ≤ c.toInt ∧ c.toInt < 65536) ∨ (n = 4 ∧ 65536 ≤ c.toInt ∧ c.toInt < 1114112)
theorem own_or (x : Int32) (k : Nat) (K : Int) (hk : k ≤ 30) (m : Int32) (hK : ((2 ^ k : Nat) : Int) = K) (hm : m.toInt = K) (h : 0 ≤ x.toInt ∧ x.toInt < K) : (x ||| m).toInt = x.toInt + K := by
  have e := c_or m x k (by omega) K hK.symm (by rw [hm]; exact Int.emod_self) h.1 h.2
  rw [Int32.or_comm] at e
  have := rng32 (x ||| m)
  have : K ≤ 1073741824 := by
    rw [← hK]; have := Nat.pow_le_pow_right (n := 2) (by decide) hk; have e30 : 2 ^ 30 = 1073741824 := rfl; omega
  omega
theorem own_c1 (x : Int32) : Rg 1 (x &&& 127) := Or.inl ⟨rfl, by have := c_mask x 127 7 (by decide) (by decide); have k : ((2 ^ 7 : Nat) : Int) = 128 := rfl; omega, by have := c_mask x 127 7 (by decide) (by decide); have k : ((2 ^ 7 : Nat) : Int) = 128 := rfl; omega⟩
theorem own_m11 (x : Int32) : 0 ≤ (x &&& 2047).toInt ∧ (x &&& 2047).toInt < 2048 := by have := c_mask x 2047 11 (by decide) (by decide); have k : ((2 ^ 11 : Nat) : Int) = 2048 := rfl; omega
theorem own_m16 (x : Int32) : 0 ≤ (x &&& 65535).toInt ∧ (x &&& 65535).toInt < 65536 := by have := c_mask x 65535 16 (by decide) (by decide); have k : ((2 ^ 16 : Nat) : Int) = 65536 := rfl; omega
theorem own_c2 (x : Int32) (h : ¬ (x &&& 2047) < 128) : Rg 2 (x &&& 2047) := by
  have := own_m11 x; rw [Int32.lt_iff_toInt_lt] at h; have k : (128 : Int32).toInt = 128 := rfl
  exact Or.inr (Or.inl ⟨rfl, by omega, by omega⟩)
theorem own_c2' (x : Int32) (h : (x &&& 2047) < 128) : Rg 2 ((x &&& 2047) ||| 128) := by
  have := own_m11 x; rw [Int32.lt_iff_toInt_lt] at h; have k : (128 : Int32).toInt = 128 := rfl
  have := own_or (x &&& 2047) 7 128 (by decide) 128 rfl rfl (by omega)
  exact Or.inr (Or.inl ⟨rfl, by omega, by omega⟩)
theorem own_c3 (x : Int32) (h : ¬ (x &&& 65535) < 2048) : Rg 3 (x &&& 65535) := by
  have := own_m16 x; rw [Int32.lt_iff_toInt_lt] at h; have k : (2048 : Int32).toInt = 2048 := rfl
  exact Or.inr (Or.inr (Or.inl ⟨rfl, by omega, by omega⟩))
theorem own_c3' (x : Int32) (h : (x &&& 65535) < 2048) : Rg 3 ((x &&& 65535) ||| 2048) := by
  have := own_m16 x; rw [Int32.lt_iff_toInt_lt] at h; have k : (2048 : Int32).toInt = 2048 := rfl
  have := own_or (x &&& 65535) 11 2048 (by decide) 2048 rfl rfl (by omega)
  exact Or.inr (Or.inr (Or.inl ⟨rfl, by omega, by omega⟩))
theorem own_c4 (x : Int32) : Rg 4 (65536 + (x &&& 2147483647) % 1048576) := by
  have h1 := (c_and x 2147483647 (by decide)).1
  have h2 := own_mod (x &&& 2147483647) 1048576 1048576 rfl h1
  have k : (65536 : Int32).toInt = 65536 := rfl
  have h3 := own_add 65536 ((x &&& 2147483647) % 1048576) (by omega) (by omega)
  exact Or.inr (Or.inr (Or.inr ⟨rfl, by omega, by omega⟩))
set_option maxRecDepth 65536 in
set_option maxHeartbeats 40000000 in
theorem rm_cp1 (l : Launch) (Z : State) (a0 : Array Value) (hw : ∀ d ∈ tables_1, d.before a0 Z = true) (a1 : Addr) (p2 b0 : Int32) (vs : List Value) (h0 : Heap) (n0 : Nat) (Z0 : n0 ≤ h0.size) (A : AV Z h0 a1 .byte vs) (i0 : ¬ p2 < 0) (v0 : vs[(p2).toNatClampNeg]? = some (.int b0)) :
    Cnt l Z (⟨"com/example/dashkey/dashkey/Utf8", "codePoint", "([BII)I"⟩ : MethodName) prog_74_method_6_code 5 (some .int) ({ frames := 0, cells := 0, slots := 0, locals := 0 } : Room) n0 #[(.ref a1), (.int p2), (.int (1 : Int32))] h0 (fun v h => v = some (.int (b0 &&& ((255 : Int32) >>> (((1 : Int32) + (0 : Int32)) &&& 31)))) ∧ h0 = h) := by
  refine Cnt.mk (by first | exact plainFor_of_name (by first | (simp [plainName, overriddenIn]; done) | decide +kernel) | decide +kernel) Z0 ?_
  intro p e s m below meth c T X
  refine Go.cast (g' := mkF m 0 #[.val (.ref a1), .val (.int p2), .val (.int (1 : Int32)), .unset, .unset] []) (by first | (simp [entryFrame, mkF, argsToLocals, Value.category, maxLocals]; done) | rfl) ?_
  have hK : (∀ q ∈ ([] : List (Nat × Int32)), (Jvm.Cond.constant "com/example/dashkey/dashkey/Utf8" q.1 q.2).before a0 Z = true) ∧ (∀ q ∈ ([] : List (Nat × Int64)), (Jvm.Cond.constantLong "com/example/dashkey/dashkey/Utf8" q.1 q.2).before a0 Z = true) :=
    ⟨(fun q hq => nomatch hq), (fun q hq => nomatch hq)⟩
  refine X.blk hK (L := [(.aload_n 0, 1, 0, 0), (.iload_n 1, 1, 0, 0)]) (pc' := 2) (ls' := #[.val (.ref a1), .val (.int p2), .val (.int (1 : Int32)), .unset, .unset]) (st' := [(.int p2), (.ref a1)]) (by decide +kernel) rfl ?_
  refine X.baload 3 A (by decide +kernel) (i0) (v0) ?_
  refine X.blk hK (L := [(.sipush 255, 3, 255, 0), (.iload_n 2, 1, 0, 0), (.iload_n 2, 1, 0, 0), (.iconst 1, 1, 1, 0)]) (pc' := 9) (ls' := #[.val (.ref a1), .val (.int p2), .val (.int (1 : Int32)), .unset, .unset]) (st' := [(.int (1 : Int32)), (.int (1 : Int32)), (.int (1 : Int32)), (.int (255 : Int32)), (.int b0)]) (by decide +kernel) rfl ?_
  refine X.icmp .le (7) 16 12 (by decide +kernel) (fun (c9 : ¬ (1 : Int32) < (1 : Int32)) => ?_) (fun (c9 : (1 : Int32) < (1 : Int32)) => absurd c9 (by decide : ¬ (1 : Int32) < (1 : Int32)))
  refine X.blk hK (L := [(.iconst 0, 1, 0, 0), (.iadd, 1, 0, 0), (.ishr, 1, 0, 0), (.iand, 1, 0, 0), (.istore_n 3, 1, 0, 0), (.iconst 1, 1, 1, 0), (.istore 4, 2, 0, 0)]) (pc' := 24) (ls' := #[.val (.ref a1), .val (.int p2), .val (.int (1 : Int32)), .val (.int (b0 &&& ((255 : Int32) >>> (((1 : Int32) + (0 : Int32)) &&& 31)))), .val (.int (1 : Int32))]) (st' := []) (by decide +kernel) rfl ?_
  refine X.blk hK (L := [(.iload 4, 2, 0, 0), (.iload_n 2, 1, 0, 0)]) (pc' := 27) (ls' := #[.val (.ref a1), .val (.int p2), .val (.int (1 : Int32)), .val (.int (b0 &&& ((255 : Int32) >>> (((1 : Int32) + (0 : Int32)) &&& 31)))), .val (.int (1 : Int32))]) (st' := [(.int (1 : Int32)), (.int (1 : Int32))]) (by decide +kernel) rfl ?_
  refine X.icmp .ge (24) 51 30 (by decide +kernel) (fun (c27 : ¬ (1 : Int32) < (1 : Int32)) => ?_) (fun (c27 : (1 : Int32) < (1 : Int32)) => absurd c27 (by decide : ¬ (1 : Int32) < (1 : Int32)))
  refine X.blk hK (L := [(.iload_n 3, 1, 0, 0)]) (pc' := 52) (ls' := #[.val (.ref a1), .val (.int p2), .val (.int (1 : Int32)), .val (.int (b0 &&& ((255 : Int32) >>> (((1 : Int32) + (0 : Int32)) &&& 31)))), .val (.int (1 : Int32))]) (st' := [(.int (b0 &&& ((255 : Int32) >>> (((1 : Int32) + (0 : Int32)) &&& 31))))]) (by decide +kernel) rfl ?_
  exact X.retI (by decide +kernel) (by decide) (by decide) (⟨rfl, rfl⟩)
set_option maxRecDepth 65536 in
set_option maxHeartbeats 40000000 in
theorem rm_cp2 (l : Launch) (Z : State) (a0 : Array Value) (hw : ∀ d ∈ tables_1, d.before a0 Z = true) (a1 : Addr) (p2 b0 b1 : Int32) (vs : List Value) (h0 : Heap) (n0 : Nat) (Z0 : n0 ≤ h0.size) (A : AV Z h0 a1 .byte vs) (i0 : ¬ p2 < 0) (v0 : vs[(p2).toNatClampNeg]? = some (.int b0)) (i1 : ¬ p2 + 1 < 0) (v1 : vs[(p2 + 1).toNatClampNeg]? = some (.int b1)) :
    Cnt l Z (⟨"com/example/dashkey/dashkey/Utf8", "codePoint", "([BII)I"⟩ : MethodName) prog_74_method_6_code 5 (some .int) ({ frames := 0, cells := 0, slots := 0, locals := 0 } : Room) n0 #[(.ref a1), (.int p2), (.int (2 : Int32))] h0 (fun v h => v = some (.int (((b0 &&& ((255 : Int32) >>> (((2 : Int32) + (1 : Int32)) &&& 31))) <<< ((6 : Int32) &&& 31)) ||| (b1 &&& (63 : Int32)))) ∧ h0 = h) := by
  refine Cnt.mk (by first | exact plainFor_of_name (by first | (simp [plainName, overriddenIn]; done) | decide +kernel) | decide +kernel) Z0 ?_
  intro p e s m below meth c T X
  refine Go.cast (g' := mkF m 0 #[.val (.ref a1), .val (.int p2), .val (.int (2 : Int32)), .unset, .unset] []) (by first | (simp [entryFrame, mkF, argsToLocals, Value.category, maxLocals]; done) | rfl) ?_
  have hK : (∀ q ∈ ([] : List (Nat × Int32)), (Jvm.Cond.constant "com/example/dashkey/dashkey/Utf8" q.1 q.2).before a0 Z = true) ∧ (∀ q ∈ ([] : List (Nat × Int64)), (Jvm.Cond.constantLong "com/example/dashkey/dashkey/Utf8" q.1 q.2).before a0 Z = true) :=
    ⟨(fun q hq => nomatch hq), (fun q hq => nomatch hq)⟩
  refine X.blk hK (L := [(.aload_n 0, 1, 0, 0), (.iload_n 1, 1, 0, 0)]) (pc' := 2) (ls' := #[.val (.ref a1), .val (.int p2), .val (.int (2 : Int32)), .unset, .unset]) (st' := [(.int p2), (.ref a1)]) (by decide +kernel) rfl ?_
  refine X.baload 3 A (by decide +kernel) (i0) (v0) ?_
  refine X.blk hK (L := [(.sipush 255, 3, 255, 0), (.iload_n 2, 1, 0, 0), (.iload_n 2, 1, 0, 0), (.iconst 1, 1, 1, 0)]) (pc' := 9) (ls' := #[.val (.ref a1), .val (.int p2), .val (.int (2 : Int32)), .unset, .unset]) (st' := [(.int (1 : Int32)), (.int (2 : Int32)), (.int (2 : Int32)), (.int (255 : Int32)), (.int b0)]) (by decide +kernel) rfl ?_
  refine X.icmp .le (7) 16 12 (by decide +kernel) (fun (c9 : ¬ (1 : Int32) < (2 : Int32)) => absurd (by decide : (1 : Int32) < (2 : Int32)) c9) (fun (c9 : (1 : Int32) < (2 : Int32)) => ?_)
  refine X.blk hK (L := [(.iconst 1, 1, 1, 0), (.goto 4, 3, 0, 17), (.iadd, 1, 0, 0), (.ishr, 1, 0, 0), (.iand, 1, 0, 0), (.istore_n 3, 1, 0, 0), (.iconst 1, 1, 1, 0), (.istore 4, 2, 0, 0)]) (pc' := 24) (ls' := #[.val (.ref a1), .val (.int p2), .val (.int (2 : Int32)), .val (.int (b0 &&& ((255 : Int32) >>> (((2 : Int32) + (1 : Int32)) &&& 31)))), .val (.int (1 : Int32))]) (st' := []) (by decide +kernel) rfl ?_
  refine X.blk hK (L := [(.iload 4, 2, 0, 0), (.iload_n 2, 1, 0, 0)]) (pc' := 27) (ls' := #[.val (.ref a1), .val (.int p2), .val (.int (2 : Int32)), .val (.int (b0 &&& ((255 : Int32) >>> (((2 : Int32) + (1 : Int32)) &&& 31)))), .val (.int (1 : Int32))]) (st' := [(.int (2 : Int32)), (.int (1 : Int32))]) (by decide +kernel) rfl ?_
  refine X.icmp .ge (24) 51 30 (by decide +kernel) (fun (c27 : ¬ (1 : Int32) < (2 : Int32)) => absurd (by decide : (1 : Int32) < (2 : Int32)) c27) (fun (c27 : (1 : Int32) < (2 : Int32)) => ?_)
  refine X.blk hK (L := [(.iload_n 3, 1, 0, 0), (.bipush 6, 2, 6, 0), (.ishl, 1, 0, 0), (.aload_n 0, 1, 0, 0), (.iload_n 1, 1, 0, 0), (.iload 4, 2, 0, 0), (.iadd, 1, 0, 0)]) (pc' := 39) (ls' := #[.val (.ref a1), .val (.int p2), .val (.int (2 : Int32)), .val (.int (b0 &&& ((255 : Int32) >>> (((2 : Int32) + (1 : Int32)) &&& 31)))), .val (.int (1 : Int32))]) (st' := [(.int (p2 + (1 : Int32))), (.ref a1), (.int ((b0 &&& ((255 : Int32) >>> (((2 : Int32) + (1 : Int32)) &&& 31))) <<< ((6 : Int32) &&& 31)))]) (by decide +kernel) rfl ?_
  refine X.baload 40 A (by decide +kernel) (i1) (v1) ?_
  refine X.blk hK (L := [(.bipush 63, 2, 63, 0), (.iand, 1, 0, 0), (.ior, 1, 0, 0), (.istore_n 3, 1, 0, 0), (.iinc 4 1, 3, 1, 0), (.goto (-24), 3, 0, 24)]) (pc' := 24) (ls' := #[.val (.ref a1), .val (.int p2), .val (.int (2 : Int32)), .val (.int (((b0 &&& ((255 : Int32) >>> (((2 : Int32) + (1 : Int32)) &&& 31))) <<< ((6 : Int32) &&& 31)) ||| (b1 &&& (63 : Int32)))), .val (.int (2 : Int32))]) (st' := []) (by decide +kernel) rfl ?_
  refine X.blk hK (L := [(.iload 4, 2, 0, 0), (.iload_n 2, 1, 0, 0)]) (pc' := 27) (ls' := #[.val (.ref a1), .val (.int p2), .val (.int (2 : Int32)), .val (.int (((b0 &&& ((255 : Int32) >>> (((2 : Int32) + (1 : Int32)) &&& 31))) <<< ((6 : Int32) &&& 31)) ||| (b1 &&& (63 : Int32)))), .val (.int (2 : Int32))]) (st' := [(.int (2 : Int32)), (.int (2 : Int32))]) (by decide +kernel) rfl ?_
  refine X.icmp .ge (24) 51 30 (by decide +kernel) (fun (c27 : ¬ (2 : Int32) < (2 : Int32)) => ?_) (fun (c27 : (2 : Int32) < (2 : Int32)) => absurd c27 (by decide : ¬ (2 : Int32) < (2 : Int32)))
  refine X.blk hK (L := [(.iload_n 3, 1, 0, 0)]) (pc' := 52) (ls' := #[.val (.ref a1), .val (.int p2), .val (.int (2 : Int32)), .val (.int (((b0 &&& ((255 : Int32) >>> (((2 : Int32) + (1 : Int32)) &&& 31))) <<< ((6 : Int32) &&& 31)) ||| (b1 &&& (63 : Int32)))), .val (.int (2 : Int32))]) (st' := [(.int (((b0 &&& ((255 : Int32) >>> (((2 : Int32) + (1 : Int32)) &&& 31))) <<< ((6 : Int32) &&& 31)) ||| (b1 &&& (63 : Int32))))]) (by decide +kernel) rfl ?_
  exact X.retI (by decide +kernel) (by decide) (by decide) (⟨rfl, rfl⟩)
set_option maxRecDepth 65536 in
set_option maxHeartbeats 40000000 in
theorem rm_cp3 (l : Launch) (Z : State) (a0 : Array Value) (hw : ∀ d ∈ tables_1, d.before a0 Z = true) (a1 : Addr) (p2 b0 b1 b2 : Int32) (vs : List Value) (h0 : Heap) (n0 : Nat) (Z0 : n0 ≤ h0.size) (A : AV Z h0 a1 .byte vs) (i0 : ¬ p2 < 0) (v0 : vs[(p2).toNatClampNeg]? = some (.int b0)) (i1 : ¬ p2 + 1 < 0) (v1 : vs[(p2 + 1).toNatClampNeg]? = some (.int b1)) (i2 : ¬ p2 + 2 < 0) (v2 : vs[(p2 + 2).toNatClampNeg]? = some (.int b2)) :
    Cnt l Z (⟨"com/example/dashkey/dashkey/Utf8", "codePoint", "([BII)I"⟩ : MethodName) prog_74_method_6_code 5 (some .int) ({ frames := 0, cells := 0, slots := 0, locals := 0 } : Room) n0 #[(.ref a1), (.int p2), (.int (3 : Int32))] h0 (fun v h => v = some (.int (((((b0 &&& ((255 : Int32) >>> (((3 : Int32) + (1 : Int32)) &&& 31))) <<< ((6 : Int32) &&& 31)) ||| (b1 &&& (63 : Int32))) <<< ((6 : Int32) &&& 31)) ||| (b2 &&& (63 : Int32)))) ∧ h0 = h) := by
  refine Cnt.mk (by first | exact plainFor_of_name (by first | (simp [plainName, overriddenIn]; done) | decide +kernel) | decide +kernel) Z0 ?_
  intro p e s m below meth c T X
  refine Go.cast (g' := mkF m 0 #[.val (.ref a1), .val (.int p2), .val (.int (3 : Int32)), .unset, .unset] []) (by first | (simp [entryFrame, mkF, argsToLocals, Value.category, maxLocals]; done) | rfl) ?_
  have hK : (∀ q ∈ ([] : List (Nat × Int32)), (Jvm.Cond.constant "com/example/dashkey/dashkey/Utf8" q.1 q.2).before a0 Z = true) ∧ (∀ q ∈ ([] : List (Nat × Int64)), (Jvm.Cond.constantLong "com/example/dashkey/dashkey/Utf8" q.1 q.2).before a0 Z = true) :=
    ⟨(fun q hq => nomatch hq), (fun q hq => nomatch hq)⟩
  refine X.blk hK (L := [(.aload_n 0, 1, 0, 0), (.iload_n 1, 1, 0, 0)]) (pc' := 2) (ls' := #[.val (.ref a1), .val (.int p2), .val (.int (3 : Int32)), .unset, .unset]) (st' := [(.int p2), (.ref a1)]) (by decide +kernel) rfl ?_
  refine X.baload 3 A (by decide +kernel) (i0) (v0) ?_
  refine X.blk hK (L := [(.sipush 255, 3, 255, 0), (.iload_n 2, 1, 0, 0), (.iload_n 2, 1, 0, 0), (.iconst 1, 1, 1, 0)]) (pc' := 9) (ls' := #[.val (.ref a1), .val (.int p2), .val (.int (3 : Int32)), .unset, .unset]) (st' := [(.int (1 : Int32)), (.int (3 : Int32)), (.int (3 : Int32)), (.int (255 : Int32)), (.int b0)]) (by decide +kernel) rfl ?_
  refine X.icmp .le (7) 16 12 (by decide +kernel) (fun (c9 : ¬ (1 : Int32) < (3 : Int32)) => absurd (by decide : (1 : Int32) < (3 : Int32)) c9) (fun (c9 : (1 : Int32) < (3 : Int32)) => ?_)
  refine X.blk hK (L := [(.iconst 1, 1, 1, 0), (.goto 4, 3, 0, 17), (.iadd, 1, 0, 0), (.ishr, 1, 0, 0), (.iand, 1, 0, 0), (.istore_n 3, 1, 0, 0), (.iconst 1, 1, 1, 0), (.istore 4, 2, 0, 0)]) (pc' := 24) (ls' := #[.val (.ref a1), .val (.int p2), .val (.int (3 : Int32)), .val (.int (b0 &&& ((255 : Int32) >>> (((3 : Int32) + (1 : Int32)) &&& 31)))), .val (.int (1 : Int32))]) (st' := []) (by decide +kernel) rfl ?_
  refine X.blk hK (L := [(.iload 4, 2, 0, 0), (.iload_n 2, 1, 0, 0)]) (pc' := 27) (ls' := #[.val (.ref a1), .val (.int p2), .val (.int (3 : Int32)), .val (.int (b0 &&& ((255 : Int32) >>> (((3 : Int32) + (1 : Int32)) &&& 31)))), .val (.int (1 : Int32))]) (st' := [(.int (3 : Int32)), (.int (1 : Int32))]) (by decide +kernel) rfl ?_
  refine X.icmp .ge (24) 51 30 (by decide +kernel) (fun (c27 : ¬ (1 : Int32) < (3 : Int32)) => absurd (by decide : (1 : Int32) < (3 : Int32)) c27) (fun (c27 : (1 : Int32) < (3 : Int32)) => ?_)
  refine X.blk hK (L := [(.iload_n 3, 1, 0, 0), (.bipush 6, 2, 6, 0), (.ishl, 1, 0, 0), (.aload_n 0, 1, 0, 0), (.iload_n 1, 1, 0, 0), (.iload 4, 2, 0, 0), (.iadd, 1, 0, 0)]) (pc' := 39) (ls' := #[.val (.ref a1), .val (.int p2), .val (.int (3 : Int32)), .val (.int (b0 &&& ((255 : Int32) >>> (((3 : Int32) + (1 : Int32)) &&& 31)))), .val (.int (1 : Int32))]) (st' := [(.int (p2 + (1 : Int32))), (.ref a1), (.int ((b0 &&& ((255 : Int32) >>> (((3 : Int32) + (1 : Int32)) &&& 31))) <<< ((6 : Int32) &&& 31)))]) (by decide +kernel) rfl ?_
  refine X.baload 40 A (by decide +kernel) (i1) (v1) ?_
  refine X.blk hK (L := [(.bipush 63, 2, 63, 0), (.iand, 1, 0, 0), (.ior, 1, 0, 0), (.istore_n 3, 1, 0, 0), (.iinc 4 1, 3, 1, 0), (.goto (-24), 3, 0, 24)]) (pc' := 24) (ls' := #[.val (.ref a1), .val (.int p2), .val (.int (3 : Int32)), .val (.int (((b0 &&& ((255 : Int32) >>> (((3 : Int32) + (1 : Int32)) &&& 31))) <<< ((6 : Int32) &&& 31)) ||| (b1 &&& (63 : Int32)))), .val (.int (2 : Int32))]) (st' := []) (by decide +kernel) rfl ?_
  refine X.blk hK (L := [(.iload 4, 2, 0, 0), (.iload_n 2, 1, 0, 0)]) (pc' := 27) (ls' := #[.val (.ref a1), .val (.int p2), .val (.int (3 : Int32)), .val (.int (((b0 &&& ((255 : Int32) >>> (((3 : Int32) + (1 : Int32)) &&& 31))) <<< ((6 : Int32) &&& 31)) ||| (b1 &&& (63 : Int32)))), .val (.int (2 : Int32))]) (st' := [(.int (3 : Int32)), (.int (2 : Int32))]) (by decide +kernel) rfl ?_
  refine X.icmp .ge (24) 51 30 (by decide +kernel) (fun (c27 : ¬ (2 : Int32) < (3 : Int32)) => absurd (by decide : (2 : Int32) < (3 : Int32)) c27) (fun (c27 : (2 : Int32) < (3 : Int32)) => ?_)
  refine X.blk hK (L := [(.iload_n 3, 1, 0, 0), (.bipush 6, 2, 6, 0), (.ishl, 1, 0, 0), (.aload_n 0, 1, 0, 0), (.iload_n 1, 1, 0, 0), (.iload 4, 2, 0, 0), (.iadd, 1, 0, 0)]) (pc' := 39) (ls' := #[.val (.ref a1), .val (.int p2), .val (.int (3 : Int32)), .val (.int (((b0 &&& ((255 : Int32) >>> (((3 : Int32) + (1 : Int32)) &&& 31))) <<< ((6 : Int32) &&& 31)) ||| (b1 &&& (63 : Int32)))), .val (.int (2 : Int32))]) (st' := [(.int (p2 + (2 : Int32))), (.ref a1), (.int ((((b0 &&& ((255 : Int32) >>> (((3 : Int32) + (1 : Int32)) &&& 31))) <<< ((6 : Int32) &&& 31)) ||| (b1 &&& (63 : Int32))) <<< ((6 : Int32) &&& 31)))]) (by decide +kernel) rfl ?_
  refine X.baload 40 A (by decide +kernel) (i2) (v2) ?_
  refine X.blk hK (L := [(.bipush 63, 2, 63, 0), (.iand, 1, 0, 0), (.ior, 1, 0, 0), (.istore_n 3, 1, 0, 0), (.iinc 4 1, 3, 1, 0), (.goto (-24), 3, 0, 24)]) (pc' := 24) (ls' := #[.val (.ref a1), .val (.int p2), .val (.int (3 : Int32)), .val (.int (((((b0 &&& ((255 : Int32) >>> (((3 : Int32) + (1 : Int32)) &&& 31))) <<< ((6 : Int32) &&& 31)) ||| (b1 &&& (63 : Int32))) <<< ((6 : Int32) &&& 31)) ||| (b2 &&& (63 : Int32)))), .val (.int (3 : Int32))]) (st' := []) (by decide +kernel) rfl ?_
  refine X.blk hK (L := [(.iload 4, 2, 0, 0), (.iload_n 2, 1, 0, 0)]) (pc' := 27) (ls' := #[.val (.ref a1), .val (.int p2), .val (.int (3 : Int32)), .val (.int (((((b0 &&& ((255 : Int32) >>> (((3 : Int32) + (1 : Int32)) &&& 31))) <<< ((6 : Int32) &&& 31)) ||| (b1 &&& (63 : Int32))) <<< ((6 : Int32) &&& 31)) ||| (b2 &&& (63 : Int32)))), .val (.int (3 : Int32))]) (st' := [(.int (3 : Int32)), (.int (3 : Int32))]) (by decide +kernel) rfl ?_
  refine X.icmp .ge (24) 51 30 (by decide +kernel) (fun (c27 : ¬ (3 : Int32) < (3 : Int32)) => ?_) (fun (c27 : (3 : Int32) < (3 : Int32)) => absurd c27 (by decide : ¬ (3 : Int32) < (3 : Int32)))
  refine X.blk hK (L := [(.iload_n 3, 1, 0, 0)]) (pc' := 52) (ls' := #[.val (.ref a1), .val (.int p2), .val (.int (3 : Int32)), .val (.int (((((b0 &&& ((255 : Int32) >>> (((3 : Int32) + (1 : Int32)) &&& 31))) <<< ((6 : Int32) &&& 31)) ||| (b1 &&& (63 : Int32))) <<< ((6 : Int32) &&& 31)) ||| (b2 &&& (63 : Int32)))), .val (.int (3 : Int32))]) (st' := [(.int (((((b0 &&& ((255 : Int32) >>> (((3 : Int32) + (1 : Int32)) &&& 31))) <<< ((6 : Int32) &&& 31)) ||| (b1 &&& (63 : Int32))) <<< ((6 : Int32) &&& 31)) ||| (b2 &&& (63 : Int32))))]) (by decide +kernel) rfl ?_
  exact X.retI (by decide +kernel) (by decide) (by decide) (⟨rfl, rfl⟩)
set_option maxRecDepth 65536 in
set_option maxHeartbeats 40000000 in
theorem rm_cp4 (l : Launch) (Z : State) (a0 : Array Value) (hw : ∀ d ∈ tables_1, d.before a0 Z = true) (a1 : Addr) (p2 b0 b1 b2 b3 : Int32) (vs : List Value) (h0 : Heap) (n0 : Nat) (Z0 : n0 ≤ h0.size) (A : AV Z h0 a1 .byte vs) (i0 : ¬ p2 < 0) (v0 : vs[(p2).toNatClampNeg]? = some (.int b0)) (i1 : ¬ p2 + 1 < 0) (v1 : vs[(p2 + 1).toNatClampNeg]? = some (.int b1)) (i2 : ¬ p2 + 2 < 0) (v2 : vs[(p2 + 2).toNatClampNeg]? = some (.int b2)) (i3 : ¬ p2 + 3 < 0) (v3 : vs[(p2 + 3).toNatClampNeg]? = some (.int b3)) :
    Cnt l Z (⟨"com/example/dashkey/dashkey/Utf8", "codePoint", "([BII)I"⟩ : MethodName) prog_74_method_6_code 5 (some .int) ({ frames := 0, cells := 0, slots := 0, locals := 0 } : Room) n0 #[(.ref a1), (.int p2), (.int (4 : Int32))] h0 (fun v h => v = some (.int (((((((b0 &&& ((255 : Int32) >>> (((4 : Int32) + (1 : Int32)) &&& 31))) <<< ((6 : Int32) &&& 31)) ||| (b1 &&& (63 : Int32))) <<< ((6 : Int32) &&& 31)) ||| (b2 &&& (63 : Int32))) <<< ((6 : Int32) &&& 31)) ||| (b3 &&& (63 : Int32)))) ∧ h0 = h) := by
  refine Cnt.mk (by first | exact plainFor_of_name (by first | (simp [plainName, overriddenIn]; done) | decide +kernel) | decide +kernel) Z0 ?_
  intro p e s m below meth c T X
  refine Go.cast (g' := mkF m 0 #[.val (.ref a1), .val (.int p2), .val (.int (4 : Int32)), .unset, .unset] []) (by first | (simp [entryFrame, mkF, argsToLocals, Value.category, maxLocals]; done) | rfl) ?_
  have hK : (∀ q ∈ ([] : List (Nat × Int32)), (Jvm.Cond.constant "com/example/dashkey/dashkey/Utf8" q.1 q.2).before a0 Z = true) ∧ (∀ q ∈ ([] : List (Nat × Int64)), (Jvm.Cond.constantLong "com/example/dashkey/dashkey/Utf8" q.1 q.2).before a0 Z = true) :=
    ⟨(fun q hq => nomatch hq), (fun q hq => nomatch hq)⟩
  refine X.blk hK (L := [(.aload_n 0, 1, 0, 0), (.iload_n 1, 1, 0, 0)]) (pc' := 2) (ls' := #[.val (.ref a1), .val (.int p2), .val (.int (4 : Int32)), .unset, .unset]) (st' := [(.int p2), (.ref a1)]) (by decide +kernel) rfl ?_
  refine X.baload 3 A (by decide +kernel) (i0) (v0) ?_
  refine X.blk hK (L := [(.sipush 255, 3, 255, 0), (.iload_n 2, 1, 0, 0), (.iload_n 2, 1, 0, 0), (.iconst 1, 1, 1, 0)]) (pc' := 9) (ls' := #[.val (.ref a1), .val (.int p2), .val (.int (4 : Int32)), .unset, .unset]) (st' := [(.int (1 : Int32)), (.int (4 : Int32)), (.int (4 : Int32)), (.int (255 : Int32)), (.int b0)]) (by decide +kernel) rfl ?_
  refine X.icmp .le (7) 16 12 (by decide +kernel) (fun (c9 : ¬ (1 : Int32) < (4 : Int32)) => absurd (by decide : (1 : Int32) < (4 : Int32)) c9) (fun (c9 : (1 : Int32) < (4 : Int32)) => ?_)
  refine X.blk hK (L := [(.iconst 1, 1, 1, 0), (.goto 4, 3, 0, 17), (.iadd, 1, 0, 0), (.ishr, 1, 0, 0), (.iand, 1, 0, 0), (.istore_n 3, 1, 0, 0), (.iconst 1, 1, 1, 0), (.istore 4, 2, 0, 0)]) (pc' := 24) (ls' := #[.val (.ref a1), .val (.int p2), .val (.int (4 : Int32)), .val (.int (b0 &&& ((255 : Int32) >>> (((4 : Int32) + (1 : Int32)) &&& 31)))), .val (.int (1 : Int32))]) (st' := []) (by decide +kernel) rfl ?_
  refine X.blk hK (L := [(.iload 4, 2, 0, 0), (.iload_n 2, 1, 0, 0)]) (pc' := 27) (ls' := #[.val (.ref a1), .val (.int p2), .val (.int (4 : Int32)), .val (.int (b0 &&& ((255 : Int32) >>> (((4 : Int32) + (1 : Int32)) &&& 31)))), .val (.int (1 : Int32))]) (st' := [(.int (4 : Int32)), (.int (1 : Int32))]) (by decide +kernel) rfl ?_
  refine X.icmp .ge (24) 51 30 (by decide +kernel) (fun (c27 : ¬ (1 : Int32) < (4 : Int32)) => absurd (by decide : (1 : Int32) < (4 : Int32)) c27) (fun (c27 : (1 : Int32) < (4 : Int32)) => ?_)
  refine X.blk hK (L := [(.iload_n 3, 1, 0, 0), (.bipush 6, 2, 6, 0), (.ishl, 1, 0, 0), (.aload_n 0, 1, 0, 0), (.iload_n 1, 1, 0, 0), (.iload 4, 2, 0, 0), (.iadd, 1, 0, 0)]) (pc' := 39) (ls' := #[.val (.ref a1), .val (.int p2), .val (.int (4 : Int32)), .val (.int (b0 &&& ((255 : Int32) >>> (((4 : Int32) + (1 : Int32)) &&& 31)))), .val (.int (1 : Int32))]) (st' := [(.int (p2 + (1 : Int32))), (.ref a1), (.int ((b0 &&& ((255 : Int32) >>> (((4 : Int32) + (1 : Int32)) &&& 31))) <<< ((6 : Int32) &&& 31)))]) (by decide +kernel) rfl ?_
  refine X.baload 40 A (by decide +kernel) (i1) (v1) ?_
  refine X.blk hK (L := [(.bipush 63, 2, 63, 0), (.iand, 1, 0, 0), (.ior, 1, 0, 0), (.istore_n 3, 1, 0, 0), (.iinc 4 1, 3, 1, 0), (.goto (-24), 3, 0, 24)]) (pc' := 24) (ls' := #[.val (.ref a1), .val (.int p2), .val (.int (4 : Int32)), .val (.int (((b0 &&& ((255 : Int32) >>> (((4 : Int32) + (1 : Int32)) &&& 31))) <<< ((6 : Int32) &&& 31)) ||| (b1 &&& (63 : Int32)))), .val (.int (2 : Int32))]) (st' := []) (by decide +kernel) rfl ?_
  refine X.blk hK (L := [(.iload 4, 2, 0, 0), (.iload_n 2, 1, 0, 0)]) (pc' := 27) (ls' := #[.val (.ref a1), .val (.int p2), .val (.int (4 : Int32)), .val (.int (((b0 &&& ((255 : Int32) >>> (((4 : Int32) + (1 : Int32)) &&& 31))) <<< ((6 : Int32) &&& 31)) ||| (b1 &&& (63 : Int32)))), .val (.int (2 : Int32))]) (st' := [(.int (4 : Int32)), (.int (2 : Int32))]) (by decide +kernel) rfl ?_
  refine X.icmp .ge (24) 51 30 (by decide +kernel) (fun (c27 : ¬ (2 : Int32) < (4 : Int32)) => absurd (by decide : (2 : Int32) < (4 : Int32)) c27) (fun (c27 : (2 : Int32) < (4 : Int32)) => ?_)
  refine X.blk hK (L := [(.iload_n 3, 1, 0, 0), (.bipush 6, 2, 6, 0), (.ishl, 1, 0, 0), (.aload_n 0, 1, 0, 0), (.iload_n 1, 1, 0, 0), (.iload 4, 2, 0, 0), (.iadd, 1, 0, 0)]) (pc' := 39) (ls' := #[.val (.ref a1), .val (.int p2), .val (.int (4 : Int32)), .val (.int (((b0 &&& ((255 : Int32) >>> (((4 : Int32) + (1 : Int32)) &&& 31))) <<< ((6 : Int32) &&& 31)) ||| (b1 &&& (63 : Int32)))), .val (.int (2 : Int32))]) (st' := [(.int (p2 + (2 : Int32))), (.ref a1), (.int ((((b0 &&& ((255 : Int32) >>> (((4 : Int32) + (1 : Int32)) &&& 31))) <<< ((6 : Int32) &&& 31)) ||| (b1 &&& (63 : Int32))) <<< ((6 : Int32) &&& 31)))]) (by decide +kernel) rfl ?_
  refine X.baload 40 A (by decide +kernel) (i2) (v2) ?_
  refine X.blk hK (L := [(.bipush 63, 2, 63, 0), (.iand, 1, 0, 0), (.ior, 1, 0, 0), (.istore_n 3, 1, 0, 0), (.iinc 4 1, 3, 1, 0), (.goto (-24), 3, 0, 24)]) (pc' := 24) (ls' := #[.val (.ref a1), .val (.int p2), .val (.int (4 : Int32)), .val (.int (((((b0 &&& ((255 : Int32) >>> (((4 : Int32) + (1 : Int32)) &&& 31))) <<< ((6 : Int32) &&& 31)) ||| (b1 &&& (63 : Int32))) <<< ((6 : Int32) &&& 31)) ||| (b2 &&& (63 : Int32)))), .val (.int (3 : Int32))]) (st' := []) (by decide +kernel) rfl ?_
  refine X.blk hK (L := [(.iload 4, 2, 0, 0), (.iload_n 2, 1, 0, 0)]) (pc' := 27) (ls' := #[.val (.ref a1), .val (.int p2), .val (.int (4 : Int32)), .val (.int (((((b0 &&& ((255 : Int32) >>> (((4 : Int32) + (1 : Int32)) &&& 31))) <<< ((6 : Int32) &&& 31)) ||| (b1 &&& (63 : Int32))) <<< ((6 : Int32) &&& 31)) ||| (b2 &&& (63 : Int32)))), .val (.int (3 : Int32))]) (st' := [(.int (4 : Int32)), (.int (3 : Int32))]) (by decide +kernel) rfl ?_
  refine X.icmp .ge (24) 51 30 (by decide +kernel) (fun (c27 : ¬ (3 : Int32) < (4 : Int32)) => absurd (by decide : (3 : Int32) < (4 : Int32)) c27) (fun (c27 : (3 : Int32) < (4 : Int32)) => ?_)
  refine X.blk hK (L := [(.iload_n 3, 1, 0, 0), (.bipush 6, 2, 6, 0), (.ishl, 1, 0, 0), (.aload_n 0, 1, 0, 0), (.iload_n 1, 1, 0, 0), (.iload 4, 2, 0, 0), (.iadd, 1, 0, 0)]) (pc' := 39) (ls' := #[.val (.ref a1), .val (.int p2), .val (.int (4 : Int32)), .val (.int (((((b0 &&& ((255 : Int32) >>> (((4 : Int32) + (1 : Int32)) &&& 31))) <<< ((6 : Int32) &&& 31)) ||| (b1 &&& (63 : Int32))) <<< ((6 : Int32) &&& 31)) ||| (b2 &&& (63 : Int32)))), .val (.int (3 : Int32))]) (st' := [(.int (p2 + (3 : Int32))), (.ref a1), (.int ((((((b0 &&& ((255 : Int32) >>> (((4 : Int32) + (1 : Int32)) &&& 31))) <<< ((6 : Int32) &&& 31)) ||| (b1 &&& (63 : Int32))) <<< ((6 : Int32) &&& 31)) ||| (b2 &&& (63 : Int32))) <<< ((6 : Int32) &&& 31)))]) (by decide +kernel) rfl ?_
  refine X.baload 40 A (by decide +kernel) (i3) (v3) ?_
  refine X.blk hK (L := [(.bipush 63, 2, 63, 0), (.iand, 1, 0, 0), (.ior, 1, 0, 0), (.istore_n 3, 1, 0, 0), (.iinc 4 1, 3, 1, 0), (.goto (-24), 3, 0, 24)]) (pc' := 24) (ls' := #[.val (.ref a1), .val (.int p2), .val (.int (4 : Int32)), .val (.int (((((((b0 &&& ((255 : Int32) >>> (((4 : Int32) + (1 : Int32)) &&& 31))) <<< ((6 : Int32) &&& 31)) ||| (b1 &&& (63 : Int32))) <<< ((6 : Int32) &&& 31)) ||| (b2 &&& (63 : Int32))) <<< ((6 : Int32) &&& 31)) ||| (b3 &&& (63 : Int32)))), .val (.int (4 : Int32))]) (st' := []) (by decide +kernel) rfl ?_
  refine X.blk hK (L := [(.iload 4, 2, 0, 0), (.iload_n 2, 1, 0, 0)]) (pc' := 27) (ls' := #[.val (.ref a1), .val (.int p2), .val (.int (4 : Int32)), .val (.int (((((((b0 &&& ((255 : Int32) >>> (((4 : Int32) + (1 : Int32)) &&& 31))) <<< ((6 : Int32) &&& 31)) ||| (b1 &&& (63 : Int32))) <<< ((6 : Int32) &&& 31)) ||| (b2 &&& (63 : Int32))) <<< ((6 : Int32) &&& 31)) ||| (b3 &&& (63 : Int32)))), .val (.int (4 : Int32))]) (st' := [(.int (4 : Int32)), (.int (4 : Int32))]) (by decide +kernel) rfl ?_
  refine X.icmp .ge (24) 51 30 (by decide +kernel) (fun (c27 : ¬ (4 : Int32) < (4 : Int32)) => ?_) (fun (c27 : (4 : Int32) < (4 : Int32)) => absurd c27 (by decide : ¬ (4 : Int32) < (4 : Int32)))
  refine X.blk hK (L := [(.iload_n 3, 1, 0, 0)]) (pc' := 52) (ls' := #[.val (.ref a1), .val (.int p2), .val (.int (4 : Int32)), .val (.int (((((((b0 &&& ((255 : Int32) >>> (((4 : Int32) + (1 : Int32)) &&& 31))) <<< ((6 : Int32) &&& 31)) ||| (b1 &&& (63 : Int32))) <<< ((6 : Int32) &&& 31)) ||| (b2 &&& (63 : Int32))) <<< ((6 : Int32) &&& 31)) ||| (b3 &&& (63 : Int32)))), .val (.int (4 : Int32))]) (st' := [(.int (((((((b0 &&& ((255 : Int32) >>> (((4 : Int32) + (1 : Int32)) &&& 31))) <<< ((6 : Int32) &&& 31)) ||| (b1 &&& (63 : Int32))) <<< ((6 : Int32) &&& 31)) ||| (b2 &&& (63 : Int32))) <<< ((6 : Int32) &&& 31)) ||| (b3 &&& (63 : Int32))))]) (by decide +kernel) rfl ?_
  exact X.retI (by decide +kernel) (by decide) (by decide) (⟨rfl, rfl⟩)
set_option maxRecDepth 65536 in
set_option maxHeartbeats 40000000 in
theorem rm_law (l : Launch) (Z : State) (a0 : Array Value) (hw : ∀ d ∈ tables_1, d.before a0 Z = true) (p1 p2 : Int32) (p3 : Int64) (h0 : Heap) (n0 : Nat) (Z0 : n0 ≤ h0.size)  :
    Cnt l Z x code maxLocals ret room_1 n0 #[(.int p1), (.int p2), (.long p3)] h0 (fun v h => v = some (.int 1)) := by
  refine Cnt.mk (by first | exact plainFor_of_name (by first | (simp [plainName, overriddenIn]; done) | decide +kernel) | decide +kernel) Z0 ?_
  intro p e s m below meth c T X
  refine Go.cast (g' := mkF m 0 #[.val (.int p1), .val (.int p2), .val (.long p3), .second, .unset, .unset, .unset, .unset, .unset] []) (by first | (simp [entryFrame, mkF, argsToLocals, Value.category, maxLocals]; done) | rfl) ?_
  have hK : (∀ q ∈ ([(8, (65536 : Int32)), (9, (2147483647 : Int32)), (10, (1048576 : Int32)), (11, (262144 : Int32)), (7, (65535 : Int32))] : List (Nat × Int32)), (Jvm.Cond.constant "com/example/dashkey/dashkey/Utf8CodePointPinLaw" q.1 q.2).before a0 Z = true) ∧ (∀ q ∈ ([] : List (Nat × Int64)), (Jvm.Cond.constantLong "com/example/dashkey/dashkey/Utf8CodePointPinLaw" q.1 q.2).before a0 Z = true) :=
    ⟨(fun q hq => by
      rcases List.mem_cons.mp hq with rfl | hq
      · exact hw _ (List.mem_of_getElem? (i := 5) rfl)
      rcases List.mem_cons.mp hq with rfl | hq
      · exact hw _ (List.mem_of_getElem? (i := 6) rfl)
      rcases List.mem_cons.mp hq with rfl | hq
      · exact hw _ (List.mem_of_getElem? (i := 7) rfl)
      rcases List.mem_cons.mp hq with rfl | hq
      · exact hw _ (List.mem_of_getElem? (i := 8) rfl)
      rcases List.mem_cons.mp hq with rfl | hq
      · exact hw _ (List.mem_of_getElem? (i := 9) rfl)
      exact nomatch hq), (fun q hq => nomatch hq)⟩
  obtain ⟨qa, h_qa⟩ : ∃ z, z = (XT.ushr p1 (2 : Int32)) &&& (3 : Int32) := ⟨_, rfl⟩
  have r_a : 0 ≤ qa.toInt ∧ qa.toInt ≤ 3 := by rw [h_qa]; exact c_and _ 3 (by decide)
  have k_1 : (1 : Int32).toInt = 1 := rfl
  have k_2 : (2 : Int32).toInt = 2 := rfl
  have k_3 : (3 : Int32).toInt = 3 := rfl
  have t1 := own_add qa 1 (by omega) (by omega)
  have t2 := own_add qa 2 (by omega) (by omega)
  have t3 := own_add qa 3 (by omega) (by omega)
  have n_0 := own_nat r_a.1
  have n_1 := own_nat (j := qa + 1) (by omega)
  have n_2 := own_nat (j := qa + 2) (by omega)
  have n_3 := own_nat (j := qa + 3) (by omega)
  have J113 : ∀ (ln c : Int32), Rg ln c → Go p e below s room_1 n0 (fun v h => v = some (.int 1)) (T.setTop (mkF m 113 #[.val (.int p1), .val (.int p2), .val (.long p3), .second, .val (.int (p1 &&& (3 : Int32))), .val (.int qa), .val (.int ln), .val (.int c), .unset] [])) := by
    intro ln c hR
    refine X.blk hK (L := [(.bipush 8, 2, 8, 0)]) (pc' := 115) (ls' := #[.val (.int p1), .val (.int p2), .val (.long p3), .second, .val (.int (p1 &&& (3 : Int32))), .val (.int qa), .val (.int ln), .val (.int c), .unset]) (st' := [(.int (8 : Int32))]) (by decide +kernel) rfl ?_
    refine X.newarr 117 8 (aty := .byte) (hw _ (List.mem_of_getElem? (i := 0) rfl)) rfl (by decide +kernel) (by decide) (by decide) (by decide) ?_
    intro Tn hn Xn En A0
    obtain ⟨an, gn⟩ : ∃ z, z = h0.size := ⟨_, rfl⟩
    rw [← gn] at A0 ⊢
    have A0 : AV Z hn an .byte (List.replicate 8 (.int 0)) := A0
    have ga : n0 ≤ an := by rw [gn]; exact Z0
    refine Xn.blk hK (L := [(.astore 8, 2, 0, 0), (.aload 8, 2, 0, 0), (.iconst 0, 1, 0, 0), (.lload_n 2, 1, 0, 0), (.l2i, 1, 0, 0), (.i2b, 1, 0, 0)]) (pc' := 125) (ls' := #[.val (.int p1), .val (.int p2), .val (.long p3), .second, .val (.int (p1 &&& (3 : Int32))), .val (.int qa), .val (.int ln), .val (.int c), .val (.ref an)]) (st' := [(.int p3.toInt32.toInt8.toInt32), (.int (0 : Int32)), (.ref an)]) (by decide +kernel) rfl ?_
    refine Xn.bastore 126 (hx' := own_narb _) A0 (by decide +kernel) (by decide) (by simp) (ga) ?_
    intro Ts0 hs0 Xs0 Ws0 A1
    refine Xs0.blk hK (L := [(.aload 8, 2, 0, 0), (.iconst 1, 1, 1, 0), (.lload_n 2, 1, 0, 0), (.bipush 8, 2, 8, 0), (.lshr, 1, 0, 0), (.l2i, 1, 0, 0), (.i2b, 1, 0, 0)]) (pc' := 135) (ls' := #[.val (.int p1), .val (.int p2), .val (.long p3), .second, .val (.int (p1 &&& (3 : Int32))), .val (.int qa), .val (.int ln), .val (.int c), .val (.ref an)]) (st' := [(.int (((p3 >>> ((8 : Int32).toInt64 &&& 63)).toInt32).toInt8.toInt32)), (.int (1 : Int32)), (.ref an)]) (by decide +kernel) rfl ?_
    refine Xs0.bastore 136 (hx' := own_narb _) A1 (by decide +kernel) (by decide) (by simp) (ga) ?_
    intro Ts1 hs1 Xs1 Ws1 A2
    refine Xs1.blk hK (L := [(.aload 8, 2, 0, 0), (.iconst 2, 1, 2, 0), (.lload_n 2, 1, 0, 0), (.bipush 16, 2, 16, 0), (.lshr, 1, 0, 0), (.l2i, 1, 0, 0), (.i2b, 1, 0, 0)]) (pc' := 145) (ls' := #[.val (.int p1), .val (.int p2), .val (.long p3), .second, .val (.int (p1 &&& (3 : Int32))), .val (.int qa), .val (.int ln), .val (.int c), .val (.ref an)]) (st' := [(.int (((p3 >>> ((16 : Int32).toInt64 &&& 63)).toInt32).toInt8.toInt32)), (.int (2 : Int32)), (.ref an)]) (by decide +kernel) rfl ?_
    refine Xs1.bastore 146 (hx' := own_narb _) A2 (by decide +kernel) (by decide) (by simp) (ga) ?_
    intro Ts2 hs2 Xs2 Ws2 A3
    refine Xs2.blk hK (L := [(.aload 8, 2, 0, 0), (.iconst 3, 1, 3, 0), (.lload_n 2, 1, 0, 0), (.bipush 24, 2, 24, 0), (.lshr, 1, 0, 0), (.l2i, 1, 0, 0), (.i2b, 1, 0, 0)]) (pc' := 155) (ls' := #[.val (.int p1), .val (.int p2), .val (.long p3), .second, .val (.int (p1 &&& (3 : Int32))), .val (.int qa), .val (.int ln), .val (.int c), .val (.ref an)]) (st' := [(.int (((p3 >>> ((24 : Int32).toInt64 &&& 63)).toInt32).toInt8.toInt32)), (.int (3 : Int32)), (.ref an)]) (by decide +kernel) rfl ?_
    refine Xs2.bastore 156 (hx' := own_narb _) A3 (by decide +kernel) (by decide) (by simp) (ga) ?_
    intro Ts3 hs3 Xs3 Ws3 A4
    refine Xs3.blk hK (L := [(.aload 8, 2, 0, 0), (.iconst 4, 1, 4, 0), (.lload_n 2, 1, 0, 0), (.bipush 32, 2, 32, 0), (.lshr, 1, 0, 0), (.l2i, 1, 0, 0), (.i2b, 1, 0, 0)]) (pc' := 165) (ls' := #[.val (.int p1), .val (.int p2), .val (.long p3), .second, .val (.int (p1 &&& (3 : Int32))), .val (.int qa), .val (.int ln), .val (.int c), .val (.ref an)]) (st' := [(.int (((p3 >>> ((32 : Int32).toInt64 &&& 63)).toInt32).toInt8.toInt32)), (.int (4 : Int32)), (.ref an)]) (by decide +kernel) rfl ?_
    refine Xs3.bastore 166 (hx' := own_narb _) A4 (by decide +kernel) (by decide) (by simp) (ga) ?_
    intro Ts4 hs4 Xs4 Ws4 A5
    refine Xs4.blk hK (L := [(.aload 8, 2, 0, 0), (.iconst 5, 1, 5, 0), (.lload_n 2, 1, 0, 0), (.bipush 40, 2, 40, 0), (.lshr, 1, 0, 0), (.l2i, 1, 0, 0), (.i2b, 1, 0, 0)]) (pc' := 175) (ls' := #[.val (.int p1), .val (.int p2), .val (.long p3), .second, .val (.int (p1 &&& (3 : Int32))), .val (.int qa), .val (.int ln), .val (.int c), .val (.ref an)]) (st' := [(.int (((p3 >>> ((40 : Int32).toInt64 &&& 63)).toInt32).toInt8.toInt32)), (.int (5 : Int32)), (.ref an)]) (by decide +kernel) rfl ?_
    refine Xs4.bastore 176 (hx' := own_narb _) A5 (by decide +kernel) (by decide) (by simp) (ga) ?_
    intro Ts5 hs5 Xs5 Ws5 A6
    refine Xs5.blk hK (L := [(.aload 8, 2, 0, 0), (.bipush 6, 2, 6, 0), (.lload_n 2, 1, 0, 0), (.bipush 48, 2, 48, 0), (.lshr, 1, 0, 0), (.l2i, 1, 0, 0), (.i2b, 1, 0, 0)]) (pc' := 186) (ls' := #[.val (.int p1), .val (.int p2), .val (.long p3), .second, .val (.int (p1 &&& (3 : Int32))), .val (.int qa), .val (.int ln), .val (.int c), .val (.ref an)]) (st' := [(.int (((p3 >>> ((48 : Int32).toInt64 &&& 63)).toInt32).toInt8.toInt32)), (.int (6 : Int32)), (.ref an)]) (by decide +kernel) rfl ?_
    refine Xs5.bastore 187 (hx' := own_narb _) A6 (by decide +kernel) (by decide) (by simp) (ga) ?_
    intro Ts6 hs6 Xs6 Ws6 A7
    refine Xs6.blk hK (L := [(.aload 8, 2, 0, 0), (.bipush 7, 2, 7, 0), (.lload_n 2, 1, 0, 0), (.bipush 56, 2, 56, 0), (.lshr, 1, 0, 0), (.l2i, 1, 0, 0), (.i2b, 1, 0, 0)]) (pc' := 197) (ls' := #[.val (.int p1), .val (.int p2), .val (.long p3), .second, .val (.int (p1 &&& (3 : Int32))), .val (.int qa), .val (.int ln), .val (.int c), .val (.ref an)]) (st' := [(.int (((p3 >>> ((56 : Int32).toInt64 &&& 63)).toInt32).toInt8.toInt32)), (.int (7 : Int32)), (.ref an)]) (by decide +kernel) rfl ?_
    refine Xs6.bastore 198 (hx' := own_narb _) A7 (by decide +kernel) (by decide) (by simp) (ga) ?_
    intro Ts7 hs7 Xs7 Ws7 A8
    obtain ⟨vs, hvs⟩ : ∃ vs, AV Z hs7 an .byte vs ∧ vs.length = 8 := ⟨_, A8, by simp⟩
    obtain ⟨B0, l_vs⟩ := hvs
    refine Xs7.blk hK (L := [(.iload 6, 2, 0, 0), (.iconst 1, 1, 1, 0)]) (pc' := 201) (ls' := #[.val (.int p1), .val (.int p2), .val (.long p3), .second, .val (.int (p1 &&& (3 : Int32))), .val (.int qa), .val (.int ln), .val (.int c), .val (.ref an)]) (st' := [(.int (1 : Int32)), (.int ln)]) (by decide +kernel) rfl ?_
    refine Xs7.icmp .ne (14) 215 204 (by decide +kernel) (fun (c201 : ¬ ln = (1 : Int32)) => ?_) (fun (c201 : ln = (1 : Int32)) => ?_)
    · refine Xs7.blk hK (L := [(.iload 6, 2, 0, 0), (.iconst 2, 1, 2, 0)]) (pc' := 218) (ls' := #[.val (.int p1), .val (.int p2), .val (.long p3), .second, .val (.int (p1 &&& (3 : Int32))), .val (.int qa), .val (.int ln), .val (.int c), .val (.ref an)]) (st' := [(.int (2 : Int32)), (.int ln)]) (by decide +kernel) rfl ?_
      refine Xs7.icmp .ne (38) 256 221 (by decide +kernel) (fun (c218 : ¬ ln = (2 : Int32)) => ?_) (fun (c218 : ln = (2 : Int32)) => ?_)
      · refine Xs7.blk hK (L := [(.iload 6, 2, 0, 0), (.iconst 3, 1, 3, 0)]) (pc' := 259) (ls' := #[.val (.int p1), .val (.int p2), .val (.long p3), .second, .val (.int (p1 &&& (3 : Int32))), .val (.int qa), .val (.int ln), .val (.int c), .val (.ref an)]) (st' := [(.int (3 : Int32)), (.int ln)]) (by decide +kernel) rfl ?_
        refine Xs7.icmp .ne (59) 318 262 (by decide +kernel) (fun (c259 : ¬ ln = (3 : Int32)) => ?_) (fun (c259 : ln = (3 : Int32)) => ?_)
        · have hr : 65536 ≤ c.toInt ∧ c.toInt < 1114112 := by
            rcases hR with q | q | q | q <;> first | exact q.2 | (exfalso; simp_all)
          refine Xs7.blk hK (L := [(.aload 8, 2, 0, 0), (.iload 5, 2, 0, 0), (.sipush 240, 3, 240, 0), (.iload 7, 2, 0, 0), (.ldc 11, 2, 0, 0)]) (pc' := 329) (ls' := #[.val (.int p1), .val (.int p2), .val (.long p3), .second, .val (.int (p1 &&& (3 : Int32))), .val (.int qa), .val (.int ln), .val (.int c), .val (.ref an)]) (st' := [(.int (262144 : Int32)), (.int c), (.int (240 : Int32)), (.int qa), (.ref an)]) (by decide +kernel) rfl ?_
          refine Xs7.idiv 330 (by decide +kernel) (by decide) ?_
          refine Xs7.blk hK (L := [(.iadd, 1, 0, 0), (.i2b, 1, 0, 0)]) (pc' := 332) (ls' := #[.val (.int p1), .val (.int p2), .val (.long p3), .second, .val (.int (p1 &&& (3 : Int32))), .val (.int qa), .val (.int ln), .val (.int c), .val (.ref an)]) (st' := [(.int (((240 : Int32) + (c / (262144 : Int32))).toInt8.toInt32)), (.int qa), (.ref an)]) (by decide +kernel) rfl ?_
          refine Xs7.bastore 333 (hx' := own_narb _) B0 (by decide +kernel) (own_nn (by omega)) (by simp [l_vs]; omega) (ga) ?_
          intro Tb0 hb0 Xb0 Wb0 B1
          refine Xb0.blk hK (L := [(.aload 8, 2, 0, 0), (.iload 5, 2, 0, 0), (.iconst 1, 1, 1, 0), (.iadd, 1, 0, 0), (.sipush 128, 3, 128, 0), (.iload 7, 2, 0, 0), (.sipush 4096, 3, 4096, 0)]) (pc' := 347) (ls' := #[.val (.int p1), .val (.int p2), .val (.long p3), .second, .val (.int (p1 &&& (3 : Int32))), .val (.int qa), .val (.int ln), .val (.int c), .val (.ref an)]) (st' := [(.int (4096 : Int32)), (.int c), (.int (128 : Int32)), (.int (qa + (1 : Int32))), (.ref an)]) (by decide +kernel) rfl ?_
          refine Xb0.idiv 348 (by decide +kernel) (by decide) ?_
          refine Xb0.blk hK (L := [(.bipush 64, 2, 64, 0)]) (pc' := 350) (ls' := #[.val (.int p1), .val (.int p2), .val (.long p3), .second, .val (.int (p1 &&& (3 : Int32))), .val (.int qa), .val (.int ln), .val (.int c), .val (.ref an)]) (st' := [(.int (64 : Int32)), (.int (c / (4096 : Int32))), (.int (128 : Int32)), (.int (qa + (1 : Int32))), (.ref an)]) (by decide +kernel) rfl ?_
          refine Xb0.irem 351 (by decide +kernel) (by decide) ?_
          refine Xb0.blk hK (L := [(.iadd, 1, 0, 0), (.i2b, 1, 0, 0)]) (pc' := 353) (ls' := #[.val (.int p1), .val (.int p2), .val (.long p3), .second, .val (.int (p1 &&& (3 : Int32))), .val (.int qa), .val (.int ln), .val (.int c), .val (.ref an)]) (st' := [(.int (((128 : Int32) + ((c / (4096 : Int32)) % (64 : Int32))).toInt8.toInt32)), (.int (qa + (1 : Int32))), (.ref an)]) (by decide +kernel) rfl ?_
          refine Xb0.bastore 354 (hx' := own_narb _) B1 (by decide +kernel) (own_nn (by omega)) (by simp [l_vs]; omega) (ga) ?_
          intro Tb1 hb1 Xb1 Wb1 B2
          refine Xb1.blk hK (L := [(.aload 8, 2, 0, 0), (.iload 5, 2, 0, 0), (.iconst 2, 1, 2, 0), (.iadd, 1, 0, 0), (.sipush 128, 3, 128, 0), (.iload 7, 2, 0, 0), (.bipush 64, 2, 64, 0)]) (pc' := 367) (ls' := #[.val (.int p1), .val (.int p2), .val (.long p3), .second, .val (.int (p1 &&& (3 : Int32))), .val (.int qa), .val (.int ln), .val (.int c), .val (.ref an)]) (st' := [(.int (64 : Int32)), (.int c), (.int (128 : Int32)), (.int (qa + (2 : Int32))), (.ref an)]) (by decide +kernel) rfl ?_
          refine Xb1.idiv 368 (by decide +kernel) (by decide) ?_
          refine Xb1.blk hK (L := [(.bipush 64, 2, 64, 0)]) (pc' := 370) (ls' := #[.val (.int p1), .val (.int p2), .val (.long p3), .second, .val (.int (p1 &&& (3 : Int32))), .val (.int qa), .val (.int ln), .val (.int c), .val (.ref an)]) (st' := [(.int (64 : Int32)), (.int (c / (64 : Int32))), (.int (128 : Int32)), (.int (qa + (2 : Int32))), (.ref an)]) (by decide +kernel) rfl ?_
          refine Xb1.irem 371 (by decide +kernel) (by decide) ?_
          refine Xb1.blk hK (L := [(.iadd, 1, 0, 0), (.i2b, 1, 0, 0)]) (pc' := 373) (ls' := #[.val (.int p1), .val (.int p2), .val (.long p3), .second, .val (.int (p1 &&& (3 : Int32))), .val (.int qa), .val (.int ln), .val (.int c), .val (.ref an)]) (st' := [(.int (((128 : Int32) + ((c / (64 : Int32)) % (64 : Int32))).toInt8.toInt32)), (.int (qa + (2 : Int32))), (.ref an)]) (by decide +kernel) rfl ?_
          refine Xb1.bastore 374 (hx' := own_narb _) B2 (by decide +kernel) (own_nn (by omega)) (by simp [l_vs]; omega) (ga) ?_
          intro Tb2 hb2 Xb2 Wb2 B3
          refine Xb2.blk hK (L := [(.aload 8, 2, 0, 0), (.iload 5, 2, 0, 0), (.iconst 3, 1, 3, 0), (.iadd, 1, 0, 0), (.sipush 128, 3, 128, 0), (.iload 7, 2, 0, 0), (.bipush 64, 2, 64, 0)]) (pc' := 387) (ls' := #[.val (.int p1), .val (.int p2), .val (.long p3), .second, .val (.int (p1 &&& (3 : Int32))), .val (.int qa), .val (.int ln), .val (.int c), .val (.ref an)]) (st' := [(.int (64 : Int32)), (.int c), (.int (128 : Int32)), (.int (qa + (3 : Int32))), (.ref an)]) (by decide +kernel) rfl ?_
          refine Xb2.irem 388 (by decide +kernel) (by decide) ?_
          refine Xb2.blk hK (L := [(.iadd, 1, 0, 0), (.i2b, 1, 0, 0)]) (pc' := 390) (ls' := #[.val (.int p1), .val (.int p2), .val (.long p3), .second, .val (.int (p1 &&& (3 : Int32))), .val (.int qa), .val (.int ln), .val (.int c), .val (.ref an)]) (st' := [(.int (((128 : Int32) + (c % (64 : Int32))).toInt8.toInt32)), (.int (qa + (3 : Int32))), (.ref an)]) (by decide +kernel) rfl ?_
          refine Xb2.bastore 391 (hx' := own_narb _) B3 (by decide +kernel) (own_nn (by omega)) (by simp [l_vs]; omega) (ga) ?_
          intro Tb3 hb3 Xb3 Wb3 B4
          refine Xb3.blk hK (L := [(.aload 8, 2, 0, 0), (.iload 5, 2, 0, 0), (.iload 6, 2, 0, 0)]) (pc' := 397) (ls' := #[.val (.int p1), .val (.int p2), .val (.long p3), .second, .val (.int (p1 &&& (3 : Int32))), .val (.int qa), .val (.int ln), .val (.int c), .val (.ref an)]) (st' := [(.int ln), (.int qa), (.ref an)]) (by decide +kernel) rfl ?_
          obtain rfl : ln = 4 := by rcases hR with q | q | q | q <;> first | exact q.1 | (exfalso; simp_all)
          refine Xb3.callS 400 0 (argsL := [(.ref an), (.int qa), (.int (4 : Int32))]) (rest := []) (rm_cp4 l Z a0 hw an qa ((240 + c / 262144).toInt8.toInt32) ((128 + (c / 4096) % 64).toInt8.toInt32) ((128 + (c / 64) % 64).toInt8.toInt32) ((128 + c % 64).toInt8.toInt32) _ hb3 n0 Xb3.size B4 (own_nn (by omega)) (by rw [List.getElem?_set_ne (by omega)]; rw [List.getElem?_set_ne (by omega)]; rw [List.getElem?_set_ne (by omega)]; exact List.getElem?_set_self (by simp [l_vs]; omega)) (own_nn (by omega)) (by rw [List.getElem?_set_ne (by omega)]; rw [List.getElem?_set_ne (by omega)]; exact List.getElem?_set_self (by simp [l_vs]; omega)) (own_nn (by omega)) (by rw [List.getElem?_set_ne (by omega)]; exact List.getElem?_set_self (by simp [l_vs]; omega)) (own_nn (by omega)) (by exact List.getElem?_set_self (by simp [l_vs]; omega))) (hw _ (List.mem_of_getElem? (i := 1) rfl)) (hw _ (List.mem_of_getElem? (i := 2) rfl)) (hw _ (List.mem_of_getElem? (i := 3) rfl)) (hw _ (List.mem_of_getElem? (i := 4) rfl)) (by decide) (ps := [(.array .byte), .int, .int]) (r := some .int) (by decide +kernel) rfl rfl rfl rfl (by decide +kernel) (by decide) ?_
          rintro Tc hc vc Xc ⟨rfl, rfl⟩
          show Go p e below s _ n0 _ (Tc.setTop (mkF m 400 #[.val (.int p1), .val (.int p2), .val (.long p3), .second, .val (.int (p1 &&& (3 : Int32))), .val (.int qa), .val (.int (4 : Int32)), .val (.int c), .val (.ref an)] [(.int ((((((((240 + c / 262144).toInt8.toInt32 &&& ((255 : Int32) >>> (((4 : Int32) + (1 : Int32)) &&& 31))) <<< ((6 : Int32) &&& 31)) ||| ((128 + (c / 4096) % 64).toInt8.toInt32 &&& (63 : Int32))) <<< ((6 : Int32) &&& 31)) ||| ((128 + (c / 64) % 64).toInt8.toInt32 &&& (63 : Int32))) <<< ((6 : Int32) &&& 31)) ||| ((128 + c % 64).toInt8.toInt32 &&& (63 : Int32))))]))
          refine Xc.blk hK (L := [(.iload 7, 2, 0, 0)]) (pc' := 402) (ls' := #[.val (.int p1), .val (.int p2), .val (.long p3), .second, .val (.int (p1 &&& (3 : Int32))), .val (.int qa), .val (.int (4 : Int32)), .val (.int c), .val (.ref an)]) (st' := [(.int c), (.int ((((((((240 + c / 262144).toInt8.toInt32 &&& ((255 : Int32) >>> (((4 : Int32) + (1 : Int32)) &&& 31))) <<< ((6 : Int32) &&& 31)) ||| ((128 + (c / 4096) % 64).toInt8.toInt32 &&& (63 : Int32))) <<< ((6 : Int32) &&& 31)) ||| ((128 + (c / 64) % 64).toInt8.toInt32 &&& (63 : Int32))) <<< ((6 : Int32) &&& 31)) ||| ((128 + c % 64).toInt8.toInt32 &&& (63 : Int32))))]) (by decide +kernel) rfl ?_
          refine Xc.icmp .ne (7) 409 405 (by decide +kernel) (fun (c402 : ¬ ((((((((240 + c / 262144).toInt8.toInt32 &&& ((255 : Int32) >>> (((4 : Int32) + (1 : Int32)) &&& 31))) <<< ((6 : Int32) &&& 31)) ||| ((128 + (c / 4096) % 64).toInt8.toInt32 &&& (63 : Int32))) <<< ((6 : Int32) &&& 31)) ||| ((128 + (c / 64) % 64).toInt8.toInt32 &&& (63 : Int32))) <<< ((6 : Int32) &&& 31)) ||| ((128 + c % 64).toInt8.toInt32 &&& (63 : Int32))) = c) => absurd (own_4 hr : ((((((((240 + c / 262144).toInt8.toInt32 &&& ((255 : Int32) >>> (((4 : Int32) + (1 : Int32)) &&& 31))) <<< ((6 : Int32) &&& 31)) ||| ((128 + (c / 4096) % 64).toInt8.toInt32 &&& (63 : Int32))) <<< ((6 : Int32) &&& 31)) ||| ((128 + (c / 64) % 64).toInt8.toInt32 &&& (63 : Int32))) <<< ((6 : Int32) &&& 31)) ||| ((128 + c % 64).toInt8.toInt32 &&& (63 : Int32))) = c) c402) (fun (c402 : ((((((((240 + c / 262144).toInt8.toInt32 &&& ((255 : Int32) >>> (((4 : Int32) + (1 : Int32)) &&& 31))) <<< ((6 : Int32) &&& 31)) ||| ((128 + (c / 4096) % 64).toInt8.toInt32 &&& (63 : Int32))) <<< ((6 : Int32) &&& 31)) ||| ((128 + (c / 64) % 64).toInt8.toInt32 &&& (63 : Int32))) <<< ((6 : Int32) &&& 31)) ||| ((128 + c % 64).toInt8.toInt32 &&& (63 : Int32))) = c) => ?_)
          refine Xc.blk hK (L := [(.iconst 1, 1, 1, 0), (.goto 4, 3, 0, 410)]) (pc' := 410) (ls' := #[.val (.int p1), .val (.int p2), .val (.long p3), .second, .val (.int (p1 &&& (3 : Int32))), .val (.int qa), .val (.int (4 : Int32)), .val (.int c), .val (.ref an)]) (st' := [(.int (1 : Int32))]) (by decide +kernel) rfl ?_
          exact Xc.retZ (by decide +kernel) (by decide) (by decide) (Or.inr rfl) (rfl)
        · have hr : 2048 ≤ c.toInt ∧ c.toInt < 65536 := by
            rcases hR with q | q | q | q <;> first | exact q.2 | (exfalso; simp_all)
          refine Xs7.blk hK (L := [(.aload 8, 2, 0, 0), (.iload 5, 2, 0, 0), (.sipush 224, 3, 224, 0), (.iload 7, 2, 0, 0), (.sipush 4096, 3, 4096, 0)]) (pc' := 274) (ls' := #[.val (.int p1), .val (.int p2), .val (.long p3), .second, .val (.int (p1 &&& (3 : Int32))), .val (.int qa), .val (.int ln), .val (.int c), .val (.ref an)]) (st' := [(.int (4096 : Int32)), (.int c), (.int (224 : Int32)), (.int qa), (.ref an)]) (by decide +kernel) rfl ?_
          refine Xs7.idiv 275 (by decide +kernel) (by decide) ?_
          refine Xs7.blk hK (L := [(.iadd, 1, 0, 0), (.i2b, 1, 0, 0)]) (pc' := 277) (ls' := #[.val (.int p1), .val (.int p2), .val (.long p3), .second, .val (.int (p1 &&& (3 : Int32))), .val (.int qa), .val (.int ln), .val (.int c), .val (.ref an)]) (st' := [(.int (((224 : Int32) + (c / (4096 : Int32))).toInt8.toInt32)), (.int qa), (.ref an)]) (by decide +kernel) rfl ?_
          refine Xs7.bastore 278 (hx' := own_narb _) B0 (by decide +kernel) (own_nn (by omega)) (by simp [l_vs]; omega) (ga) ?_
          intro Tb0 hb0 Xb0 Wb0 B1
          refine Xb0.blk hK (L := [(.aload 8, 2, 0, 0), (.iload 5, 2, 0, 0), (.iconst 1, 1, 1, 0), (.iadd, 1, 0, 0), (.sipush 128, 3, 128, 0), (.iload 7, 2, 0, 0), (.bipush 64, 2, 64, 0)]) (pc' := 291) (ls' := #[.val (.int p1), .val (.int p2), .val (.long p3), .second, .val (.int (p1 &&& (3 : Int32))), .val (.int qa), .val (.int ln), .val (.int c), .val (.ref an)]) (st' := [(.int (64 : Int32)), (.int c), (.int (128 : Int32)), (.int (qa + (1 : Int32))), (.ref an)]) (by decide +kernel) rfl ?_
          refine Xb0.idiv 292 (by decide +kernel) (by decide) ?_
          refine Xb0.blk hK (L := [(.bipush 64, 2, 64, 0)]) (pc' := 294) (ls' := #[.val (.int p1), .val (.int p2), .val (.long p3), .second, .val (.int (p1 &&& (3 : Int32))), .val (.int qa), .val (.int ln), .val (.int c), .val (.ref an)]) (st' := [(.int (64 : Int32)), (.int (c / (64 : Int32))), (.int (128 : Int32)), (.int (qa + (1 : Int32))), (.ref an)]) (by decide +kernel) rfl ?_
          refine Xb0.irem 295 (by decide +kernel) (by decide) ?_
          refine Xb0.blk hK (L := [(.iadd, 1, 0, 0), (.i2b, 1, 0, 0)]) (pc' := 297) (ls' := #[.val (.int p1), .val (.int p2), .val (.long p3), .second, .val (.int (p1 &&& (3 : Int32))), .val (.int qa), .val (.int ln), .val (.int c), .val (.ref an)]) (st' := [(.int (((128 : Int32) + ((c / (64 : Int32)) % (64 : Int32))).toInt8.toInt32)), (.int (qa + (1 : Int32))), (.ref an)]) (by decide +kernel) rfl ?_
          refine Xb0.bastore 298 (hx' := own_narb _) B1 (by decide +kernel) (own_nn (by omega)) (by simp [l_vs]; omega) (ga) ?_
          intro Tb1 hb1 Xb1 Wb1 B2
          refine Xb1.blk hK (L := [(.aload 8, 2, 0, 0), (.iload 5, 2, 0, 0), (.iconst 2, 1, 2, 0), (.iadd, 1, 0, 0), (.sipush 128, 3, 128, 0), (.iload 7, 2, 0, 0), (.bipush 64, 2, 64, 0)]) (pc' := 311) (ls' := #[.val (.int p1), .val (.int p2), .val (.long p3), .second, .val (.int (p1 &&& (3 : Int32))), .val (.int qa), .val (.int ln), .val (.int c), .val (.ref an)]) (st' := [(.int (64 : Int32)), (.int c), (.int (128 : Int32)), (.int (qa + (2 : Int32))), (.ref an)]) (by decide +kernel) rfl ?_
          refine Xb1.irem 312 (by decide +kernel) (by decide) ?_
          refine Xb1.blk hK (L := [(.iadd, 1, 0, 0), (.i2b, 1, 0, 0)]) (pc' := 314) (ls' := #[.val (.int p1), .val (.int p2), .val (.long p3), .second, .val (.int (p1 &&& (3 : Int32))), .val (.int qa), .val (.int ln), .val (.int c), .val (.ref an)]) (st' := [(.int (((128 : Int32) + (c % (64 : Int32))).toInt8.toInt32)), (.int (qa + (2 : Int32))), (.ref an)]) (by decide +kernel) rfl ?_
          refine Xb1.bastore 315 (hx' := own_narb _) B2 (by decide +kernel) (own_nn (by omega)) (by simp [l_vs]; omega) (ga) ?_
          intro Tb2 hb2 Xb2 Wb2 B3
          refine Xb2.blk hK (L := [(.goto 76, 3, 0, 391)]) (pc' := 391) (ls' := #[.val (.int p1), .val (.int p2), .val (.long p3), .second, .val (.int (p1 &&& (3 : Int32))), .val (.int qa), .val (.int ln), .val (.int c), .val (.ref an)]) (st' := []) (by decide +kernel) rfl ?_
          refine Xb2.blk hK (L := [(.aload 8, 2, 0, 0), (.iload 5, 2, 0, 0), (.iload 6, 2, 0, 0)]) (pc' := 397) (ls' := #[.val (.int p1), .val (.int p2), .val (.long p3), .second, .val (.int (p1 &&& (3 : Int32))), .val (.int qa), .val (.int ln), .val (.int c), .val (.ref an)]) (st' := [(.int ln), (.int qa), (.ref an)]) (by decide +kernel) rfl ?_
          subst c259
          refine Xb2.callS 400 0 (argsL := [(.ref an), (.int qa), (.int (3 : Int32))]) (rest := []) (rm_cp3 l Z a0 hw an qa ((224 + c / 4096).toInt8.toInt32) ((128 + (c / 64) % 64).toInt8.toInt32) ((128 + c % 64).toInt8.toInt32) _ hb2 n0 Xb2.size B3 (own_nn (by omega)) (by rw [List.getElem?_set_ne (by omega)]; rw [List.getElem?_set_ne (by omega)]; exact List.getElem?_set_self (by simp [l_vs]; omega)) (own_nn (by omega)) (by rw [List.getElem?_set_ne (by omega)]; exact List.getElem?_set_self (by simp [l_vs]; omega)) (own_nn (by omega)) (by exact List.getElem?_set_self (by simp [l_vs]; omega))) (hw _ (List.mem_of_getElem? (i := 1) rfl)) (hw _ (List.mem_of_getElem? (i := 2) rfl)) (hw _ (List.mem_of_getElem? (i := 3) rfl)) (hw _ (List.mem_of_getElem? (i := 4) rfl)) (by decide) (ps := [(.array .byte), .int, .int]) (r := some .int) (by decide +kernel) rfl rfl rfl rfl (by decide +kernel) (by decide) ?_
          rintro Tc hc vc Xc ⟨rfl, rfl⟩
          show Go p e below s _ n0 _ (Tc.setTop (mkF m 400 #[.val (.int p1), .val (.int p2), .val (.long p3), .second, .val (.int (p1 &&& (3 : Int32))), .val (.int qa), .val (.int (3 : Int32)), .val (.int c), .val (.ref an)] [(.int ((((((224 + c / 4096).toInt8.toInt32 &&& ((255 : Int32) >>> (((3 : Int32) + (1 : Int32)) &&& 31))) <<< ((6 : Int32) &&& 31)) ||| ((128 + (c / 64) % 64).toInt8.toInt32 &&& (63 : Int32))) <<< ((6 : Int32) &&& 31)) ||| ((128 + c % 64).toInt8.toInt32 &&& (63 : Int32))))]))
          refine Xc.blk hK (L := [(.iload 7, 2, 0, 0)]) (pc' := 402) (ls' := #[.val (.int p1), .val (.int p2), .val (.long p3), .second, .val (.int (p1 &&& (3 : Int32))), .val (.int qa), .val (.int (3 : Int32)), .val (.int c), .val (.ref an)]) (st' := [(.int c), (.int ((((((224 + c / 4096).toInt8.toInt32 &&& ((255 : Int32) >>> (((3 : Int32) + (1 : Int32)) &&& 31))) <<< ((6 : Int32) &&& 31)) ||| ((128 + (c / 64) % 64).toInt8.toInt32 &&& (63 : Int32))) <<< ((6 : Int32) &&& 31)) ||| ((128 + c % 64).toInt8.toInt32 &&& (63 : Int32))))]) (by decide +kernel) rfl ?_
          refine Xc.icmp .ne (7) 409 405 (by decide +kernel) (fun (c402 : ¬ ((((((224 + c / 4096).toInt8.toInt32 &&& ((255 : Int32) >>> (((3 : Int32) + (1 : Int32)) &&& 31))) <<< ((6 : Int32) &&& 31)) ||| ((128 + (c / 64) % 64).toInt8.toInt32 &&& (63 : Int32))) <<< ((6 : Int32) &&& 31)) ||| ((128 + c % 64).toInt8.toInt32 &&& (63 : Int32))) = c) => absurd (own_3 hr : ((((((224 + c / 4096).toInt8.toInt32 &&& ((255 : Int32) >>> (((3 : Int32) + (1 : Int32)) &&& 31))) <<< ((6 : Int32) &&& 31)) ||| ((128 + (c / 64) % 64).toInt8.toInt32 &&& (63 : Int32))) <<< ((6 : Int32) &&& 31)) ||| ((128 + c % 64).toInt8.toInt32 &&& (63 : Int32))) = c) c402) (fun (c402 : ((((((224 + c / 4096).toInt8.toInt32 &&& ((255 : Int32) >>> (((3 : Int32) + (1 : Int32)) &&& 31))) <<< ((6 : Int32) &&& 31)) ||| ((128 + (c / 64) % 64).toInt8.toInt32 &&& (63 : Int32))) <<< ((6 : Int32) &&& 31)) ||| ((128 + c % 64).toInt8.toInt32 &&& (63 : Int32))) = c) => ?_)
          refine Xc.blk hK (L := [(.iconst 1, 1, 1, 0), (.goto 4, 3, 0, 410)]) (pc' := 410) (ls' := #[.val (.int p1), .val (.int p2), .val (.long p3), .second, .val (.int (p1 &&& (3 : Int32))), .val (.int qa), .val (.int (3 : Int32)), .val (.int c), .val (.ref an)]) (st' := [(.int (1 : Int32))]) (by decide +kernel) rfl ?_
          exact Xc.retZ (by decide +kernel) (by decide) (by decide) (Or.inr rfl) (rfl)
      · have hr : 128 ≤ c.toInt ∧ c.toInt < 2048 := by
          rcases hR with q | q | q | q <;> first | exact q.2 | (exfalso; simp_all)
        refine Xs7.blk hK (L := [(.aload 8, 2, 0, 0), (.iload 5, 2, 0, 0), (.sipush 192, 3, 192, 0), (.iload 7, 2, 0, 0), (.bipush 64, 2, 64, 0)]) (pc' := 232) (ls' := #[.val (.int p1), .val (.int p2), .val (.long p3), .second, .val (.int (p1 &&& (3 : Int32))), .val (.int qa), .val (.int ln), .val (.int c), .val (.ref an)]) (st' := [(.int (64 : Int32)), (.int c), (.int (192 : Int32)), (.int qa), (.ref an)]) (by decide +kernel) rfl ?_
        refine Xs7.idiv 233 (by decide +kernel) (by decide) ?_
        refine Xs7.blk hK (L := [(.iadd, 1, 0, 0), (.i2b, 1, 0, 0)]) (pc' := 235) (ls' := #[.val (.int p1), .val (.int p2), .val (.long p3), .second, .val (.int (p1 &&& (3 : Int32))), .val (.int qa), .val (.int ln), .val (.int c), .val (.ref an)]) (st' := [(.int (((192 : Int32) + (c / (64 : Int32))).toInt8.toInt32)), (.int qa), (.ref an)]) (by decide +kernel) rfl ?_
        refine Xs7.bastore 236 (hx' := own_narb _) B0 (by decide +kernel) (own_nn (by omega)) (by simp [l_vs]; omega) (ga) ?_
        intro Tb0 hb0 Xb0 Wb0 B1
        refine Xb0.blk hK (L := [(.aload 8, 2, 0, 0), (.iload 5, 2, 0, 0), (.iconst 1, 1, 1, 0), (.iadd, 1, 0, 0), (.sipush 128, 3, 128, 0), (.iload 7, 2, 0, 0), (.bipush 64, 2, 64, 0)]) (pc' := 249) (ls' := #[.val (.int p1), .val (.int p2), .val (.long p3), .second, .val (.int (p1 &&& (3 : Int32))), .val (.int qa), .val (.int ln), .val (.int c), .val (.ref an)]) (st' := [(.int (64 : Int32)), (.int c), (.int (128 : Int32)), (.int (qa + (1 : Int32))), (.ref an)]) (by decide +kernel) rfl ?_
        refine Xb0.irem 250 (by decide +kernel) (by decide) ?_
        refine Xb0.blk hK (L := [(.iadd, 1, 0, 0), (.i2b, 1, 0, 0)]) (pc' := 252) (ls' := #[.val (.int p1), .val (.int p2), .val (.long p3), .second, .val (.int (p1 &&& (3 : Int32))), .val (.int qa), .val (.int ln), .val (.int c), .val (.ref an)]) (st' := [(.int (((128 : Int32) + (c % (64 : Int32))).toInt8.toInt32)), (.int (qa + (1 : Int32))), (.ref an)]) (by decide +kernel) rfl ?_
        refine Xb0.bastore 253 (hx' := own_narb _) B1 (by decide +kernel) (own_nn (by omega)) (by simp [l_vs]; omega) (ga) ?_
        intro Tb1 hb1 Xb1 Wb1 B2
        refine Xb1.blk hK (L := [(.goto 138, 3, 0, 391)]) (pc' := 391) (ls' := #[.val (.int p1), .val (.int p2), .val (.long p3), .second, .val (.int (p1 &&& (3 : Int32))), .val (.int qa), .val (.int ln), .val (.int c), .val (.ref an)]) (st' := []) (by decide +kernel) rfl ?_
        refine Xb1.blk hK (L := [(.aload 8, 2, 0, 0), (.iload 5, 2, 0, 0), (.iload 6, 2, 0, 0)]) (pc' := 397) (ls' := #[.val (.int p1), .val (.int p2), .val (.long p3), .second, .val (.int (p1 &&& (3 : Int32))), .val (.int qa), .val (.int ln), .val (.int c), .val (.ref an)]) (st' := [(.int ln), (.int qa), (.ref an)]) (by decide +kernel) rfl ?_
        subst c218
        refine Xb1.callS 400 0 (argsL := [(.ref an), (.int qa), (.int (2 : Int32))]) (rest := []) (rm_cp2 l Z a0 hw an qa ((192 + c / 64).toInt8.toInt32) ((128 + c % 64).toInt8.toInt32) _ hb1 n0 Xb1.size B2 (own_nn (by omega)) (by rw [List.getElem?_set_ne (by omega)]; exact List.getElem?_set_self (by simp [l_vs]; omega)) (own_nn (by omega)) (by exact List.getElem?_set_self (by simp [l_vs]; omega))) (hw _ (List.mem_of_getElem? (i := 1) rfl)) (hw _ (List.mem_of_getElem? (i := 2) rfl)) (hw _ (List.mem_of_getElem? (i := 3) rfl)) (hw _ (List.mem_of_getElem? (i := 4) rfl)) (by decide) (ps := [(.array .byte), .int, .int]) (r := some .int) (by decide +kernel) rfl rfl rfl rfl (by decide +kernel) (by decide) ?_
        rintro Tc hc vc Xc ⟨rfl, rfl⟩
        show Go p e below s _ n0 _ (Tc.setTop (mkF m 400 #[.val (.int p1), .val (.int p2), .val (.long p3), .second, .val (.int (p1 &&& (3 : Int32))), .val (.int qa), .val (.int (2 : Int32)), .val (.int c), .val (.ref an)] [(.int ((((192 + c / 64).toInt8.toInt32 &&& ((255 : Int32) >>> (((2 : Int32) + (1 : Int32)) &&& 31))) <<< ((6 : Int32) &&& 31)) ||| ((128 + c % 64).toInt8.toInt32 &&& (63 : Int32))))]))
        refine Xc.blk hK (L := [(.iload 7, 2, 0, 0)]) (pc' := 402) (ls' := #[.val (.int p1), .val (.int p2), .val (.long p3), .second, .val (.int (p1 &&& (3 : Int32))), .val (.int qa), .val (.int (2 : Int32)), .val (.int c), .val (.ref an)]) (st' := [(.int c), (.int ((((192 + c / 64).toInt8.toInt32 &&& ((255 : Int32) >>> (((2 : Int32) + (1 : Int32)) &&& 31))) <<< ((6 : Int32) &&& 31)) ||| ((128 + c % 64).toInt8.toInt32 &&& (63 : Int32))))]) (by decide +kernel) rfl ?_
        refine Xc.icmp .ne (7) 409 405 (by decide +kernel) (fun (c402 : ¬ ((((192 + c / 64).toInt8.toInt32 &&& ((255 : Int32) >>> (((2 : Int32) + (1 : Int32)) &&& 31))) <<< ((6 : Int32) &&& 31)) ||| ((128 + c % 64).toInt8.toInt32 &&& (63 : Int32))) = c) => absurd (own_2 hr : ((((192 + c / 64).toInt8.toInt32 &&& ((255 : Int32) >>> (((2 : Int32) + (1 : Int32)) &&& 31))) <<< ((6 : Int32) &&& 31)) ||| ((128 + c % 64).toInt8.toInt32 &&& (63 : Int32))) = c) c402) (fun (c402 : ((((192 + c / 64).toInt8.toInt32 &&& ((255 : Int32) >>> (((2 : Int32) + (1 : Int32)) &&& 31))) <<< ((6 : Int32) &&& 31)) ||| ((128 + c % 64).toInt8.toInt32 &&& (63 : Int32))) = c) => ?_)
        refine Xc.blk hK (L := [(.iconst 1, 1, 1, 0), (.goto 4, 3, 0, 410)]) (pc' := 410) (ls' := #[.val (.int p1), .val (.int p2), .val (.long p3), .second, .val (.int (p1 &&& (3 : Int32))), .val (.int qa), .val (.int (2 : Int32)), .val (.int c), .val (.ref an)]) (st' := [(.int (1 : Int32))]) (by decide +kernel) rfl ?_
        exact Xc.retZ (by decide +kernel) (by decide) (by decide) (Or.inr rfl) (rfl)
    · have hr : 0 ≤ c.toInt ∧ c.toInt < 128 := by
        rcases hR with q | q | q | q <;> first | exact q.2 | (exfalso; simp_all)
      refine Xs7.blk hK (L := [(.aload 8, 2, 0, 0), (.iload 5, 2, 0, 0), (.iload 7, 2, 0, 0), (.i2b, 1, 0, 0)]) (pc' := 211) (ls' := #[.val (.int p1), .val (.int p2), .val (.long p3), .second, .val (.int (p1 &&& (3 : Int32))), .val (.int qa), .val (.int ln), .val (.int c), .val (.ref an)]) (st' := [(.int c.toInt8.toInt32), (.int qa), (.ref an)]) (by decide +kernel) rfl ?_
      refine Xs7.bastore 212 (hx' := own_narb _) B0 (by decide +kernel) (own_nn (by omega)) (by simp [l_vs]; omega) (ga) ?_
      intro Tb0 hb0 Xb0 Wb0 B1
      refine Xb0.blk hK (L := [(.goto 179, 3, 0, 391)]) (pc' := 391) (ls' := #[.val (.int p1), .val (.int p2), .val (.long p3), .second, .val (.int (p1 &&& (3 : Int32))), .val (.int qa), .val (.int ln), .val (.int c), .val (.ref an)]) (st' := []) (by decide +kernel) rfl ?_
      refine Xb0.blk hK (L := [(.aload 8, 2, 0, 0), (.iload 5, 2, 0, 0), (.iload 6, 2, 0, 0)]) (pc' := 397) (ls' := #[.val (.int p1), .val (.int p2), .val (.long p3), .second, .val (.int (p1 &&& (3 : Int32))), .val (.int qa), .val (.int ln), .val (.int c), .val (.ref an)]) (st' := [(.int ln), (.int qa), (.ref an)]) (by decide +kernel) rfl ?_
      subst c201
      refine Xb0.callS 400 0 (argsL := [(.ref an), (.int qa), (.int (1 : Int32))]) (rest := []) (rm_cp1 l Z a0 hw an qa c.toInt8.toInt32 _ hb0 n0 Xb0.size B1 (own_nn (by omega)) (by exact List.getElem?_set_self (by simp [l_vs]; omega))) (hw _ (List.mem_of_getElem? (i := 1) rfl)) (hw _ (List.mem_of_getElem? (i := 2) rfl)) (hw _ (List.mem_of_getElem? (i := 3) rfl)) (hw _ (List.mem_of_getElem? (i := 4) rfl)) (by decide) (ps := [(.array .byte), .int, .int]) (r := some .int) (by decide +kernel) rfl rfl rfl rfl (by decide +kernel) (by decide) ?_
      rintro Tc hc vc Xc ⟨rfl, rfl⟩
      show Go p e below s _ n0 _ (Tc.setTop (mkF m 400 #[.val (.int p1), .val (.int p2), .val (.long p3), .second, .val (.int (p1 &&& (3 : Int32))), .val (.int qa), .val (.int (1 : Int32)), .val (.int c), .val (.ref an)] [(.int (c.toInt8.toInt32 &&& ((255 : Int32) >>> (((1 : Int32) + (0 : Int32)) &&& 31))))]))
      refine Xc.blk hK (L := [(.iload 7, 2, 0, 0)]) (pc' := 402) (ls' := #[.val (.int p1), .val (.int p2), .val (.long p3), .second, .val (.int (p1 &&& (3 : Int32))), .val (.int qa), .val (.int (1 : Int32)), .val (.int c), .val (.ref an)]) (st' := [(.int c), (.int (c.toInt8.toInt32 &&& ((255 : Int32) >>> (((1 : Int32) + (0 : Int32)) &&& 31))))]) (by decide +kernel) rfl ?_
      refine Xc.icmp .ne (7) 409 405 (by decide +kernel) (fun (c402 : ¬ (c.toInt8.toInt32 &&& ((255 : Int32) >>> (((1 : Int32) + (0 : Int32)) &&& 31))) = c) => absurd (own_1 hr : (c.toInt8.toInt32 &&& ((255 : Int32) >>> (((1 : Int32) + (0 : Int32)) &&& 31))) = c) c402) (fun (c402 : (c.toInt8.toInt32 &&& ((255 : Int32) >>> (((1 : Int32) + (0 : Int32)) &&& 31))) = c) => ?_)
      refine Xc.blk hK (L := [(.iconst 1, 1, 1, 0), (.goto 4, 3, 0, 410)]) (pc' := 410) (ls' := #[.val (.int p1), .val (.int p2), .val (.long p3), .second, .val (.int (p1 &&& (3 : Int32))), .val (.int qa), .val (.int (1 : Int32)), .val (.int c), .val (.ref an)]) (st' := [(.int (1 : Int32))]) (by decide +kernel) rfl ?_
      exact Xc.retZ (by decide +kernel) (by decide) (by decide) (Or.inr rfl) (rfl)
  refine X.blk hK (L := [(.iload_n 0, 1, 0, 0), (.iconst 3, 1, 3, 0), (.iand, 1, 0, 0), (.istore 4, 2, 0, 0), (.iload_n 0, 1, 0, 0), (.iconst 2, 1, 2, 0), (.iushr, 1, 0, 0), (.iconst 3, 1, 3, 0), (.iand, 1, 0, 0), (.istore 5, 2, 0, 0), (.iload 4, 2, 0, 0)]) (pc' := 14) (ls' := #[.val (.int p1), .val (.int p2), .val (.long p3), .second, .val (.int (p1 &&& (3 : Int32))), .val (.int ((XT.ushr p1 (2 : Int32)) &&& (3 : Int32))), .unset, .unset, .unset]) (st' := [(.int (p1 &&& (3 : Int32)))]) (by decide +kernel) rfl ?_
  rw [← h_qa]
  refine X.ifc .ne (15) 29 17 (by decide +kernel) (fun (c14 : ¬ (p1 &&& (3 : Int32)) = (0 : Int32)) => ?_) (fun (c14 : (p1 &&& (3 : Int32)) = (0 : Int32)) => ?_)
  · refine X.blk hK (L := [(.iload 4, 2, 0, 0), (.iconst 1, 1, 1, 0)]) (pc' := 32) (ls' := #[.val (.int p1), .val (.int p2), .val (.long p3), .second, .val (.int (p1 &&& (3 : Int32))), .val (.int qa), .unset, .unset, .unset]) (st' := [(.int (1 : Int32)), (.int (p1 &&& (3 : Int32)))]) (by decide +kernel) rfl ?_
    refine X.icmp .ne (32) 64 35 (by decide +kernel) (fun (c32 : ¬ (p1 &&& (3 : Int32)) = (1 : Int32)) => ?_) (fun (c32 : (p1 &&& (3 : Int32)) = (1 : Int32)) => ?_)
    · refine X.blk hK (L := [(.iload 4, 2, 0, 0), (.iconst 2, 1, 2, 0)]) (pc' := 67) (ls' := #[.val (.int p1), .val (.int p2), .val (.long p3), .second, .val (.int (p1 &&& (3 : Int32))), .val (.int qa), .unset, .unset, .unset]) (st' := [(.int (2 : Int32)), (.int (p1 &&& (3 : Int32)))]) (by decide +kernel) rfl ?_
      refine X.icmp .ne (31) 98 70 (by decide +kernel) (fun (c67 : ¬ (p1 &&& (3 : Int32)) = (2 : Int32)) => ?_) (fun (c67 : (p1 &&& (3 : Int32)) = (2 : Int32)) => ?_)
      · refine X.blk hK (L := [(.iconst 4, 1, 4, 0), (.istore 6, 2, 0, 0), (.ldc 8, 2, 0, 0), (.iload_n 1, 1, 0, 0), (.ldc 9, 2, 0, 0), (.iand, 1, 0, 0), (.ldc 10, 2, 0, 0)]) (pc' := 109) (ls' := #[.val (.int p1), .val (.int p2), .val (.long p3), .second, .val (.int (p1 &&& (3 : Int32))), .val (.int qa), .val (.int (4 : Int32)), .unset, .unset]) (st' := [(.int (1048576 : Int32)), (.int (p2 &&& (2147483647 : Int32))), (.int (65536 : Int32))]) (by decide +kernel) rfl ?_
        refine X.irem 110 (by decide +kernel) (by decide) ?_
        refine X.blk hK (L := [(.iadd, 1, 0, 0), (.istore 7, 2, 0, 0)]) (pc' := 113) (ls' := #[.val (.int p1), .val (.int p2), .val (.long p3), .second, .val (.int (p1 &&& (3 : Int32))), .val (.int qa), .val (.int (4 : Int32)), .val (.int ((65536 : Int32) + ((p2 &&& (2147483647 : Int32)) % (1048576 : Int32)))), .unset]) (st' := []) (by decide +kernel) rfl ?_
        exact J113 _ _ (own_c4 p2)
      · refine X.blk hK (L := [(.iconst 3, 1, 3, 0), (.istore 6, 2, 0, 0), (.iload_n 1, 1, 0, 0), (.ldc 7, 2, 0, 0), (.iand, 1, 0, 0), (.istore 7, 2, 0, 0), (.iload 7, 2, 0, 0), (.sipush 2048, 3, 2048, 0)]) (pc' := 84) (ls' := #[.val (.int p1), .val (.int p2), .val (.long p3), .second, .val (.int (p1 &&& (3 : Int32))), .val (.int qa), .val (.int (3 : Int32)), .val (.int (p2 &&& (65535 : Int32))), .unset]) (st' := [(.int (2048 : Int32)), (.int (p2 &&& (65535 : Int32)))]) (by decide +kernel) rfl ?_
        refine X.icmp .ge (29) 113 87 (by decide +kernel) (fun (c84 : ¬ (p2 &&& (65535 : Int32)) < (2048 : Int32)) => ?_) (fun (c84 : (p2 &&& (65535 : Int32)) < (2048 : Int32)) => ?_)
        · exact J113 _ _ (own_c3 p2 c84)
        · refine X.blk hK (L := [(.iload 7, 2, 0, 0), (.sipush 2048, 3, 2048, 0), (.ior, 1, 0, 0), (.istore 7, 2, 0, 0), (.goto 18, 3, 0, 113)]) (pc' := 113) (ls' := #[.val (.int p1), .val (.int p2), .val (.long p3), .second, .val (.int (p1 &&& (3 : Int32))), .val (.int qa), .val (.int (3 : Int32)), .val (.int ((p2 &&& (65535 : Int32)) ||| (2048 : Int32))), .unset]) (st' := []) (by decide +kernel) rfl ?_
          exact J113 _ _ (own_c3' p2 c84)
    · refine X.blk hK (L := [(.iconst 2, 1, 2, 0), (.istore 6, 2, 0, 0), (.iload_n 1, 1, 0, 0), (.sipush 2047, 3, 2047, 0), (.iand, 1, 0, 0), (.istore 7, 2, 0, 0), (.iload 7, 2, 0, 0), (.sipush 128, 3, 128, 0)]) (pc' := 50) (ls' := #[.val (.int p1), .val (.int p2), .val (.long p3), .second, .val (.int (p1 &&& (3 : Int32))), .val (.int qa), .val (.int (2 : Int32)), .val (.int (p2 &&& (2047 : Int32))), .unset]) (st' := [(.int (128 : Int32)), (.int (p2 &&& (2047 : Int32)))]) (by decide +kernel) rfl ?_
      refine X.icmp .ge (63) 113 53 (by decide +kernel) (fun (c50 : ¬ (p2 &&& (2047 : Int32)) < (128 : Int32)) => ?_) (fun (c50 : (p2 &&& (2047 : Int32)) < (128 : Int32)) => ?_)
      · exact J113 _ _ (own_c2 p2 c50)
      · refine X.blk hK (L := [(.iload 7, 2, 0, 0), (.sipush 128, 3, 128, 0), (.ior, 1, 0, 0), (.istore 7, 2, 0, 0), (.goto 52, 3, 0, 113)]) (pc' := 113) (ls' := #[.val (.int p1), .val (.int p2), .val (.long p3), .second, .val (.int (p1 &&& (3 : Int32))), .val (.int qa), .val (.int (2 : Int32)), .val (.int ((p2 &&& (2047 : Int32)) ||| (128 : Int32))), .unset]) (st' := []) (by decide +kernel) rfl ?_
        exact J113 _ _ (own_c2' p2 c50)
  · refine X.blk hK (L := [(.iconst 1, 1, 1, 0), (.istore 6, 2, 0, 0), (.iload_n 1, 1, 0, 0), (.bipush 127, 2, 127, 0), (.iand, 1, 0, 0), (.istore 7, 2, 0, 0), (.goto 87, 3, 0, 113)]) (pc' := 113) (ls' := #[.val (.int p1), .val (.int p2), .val (.long p3), .second, .val (.int (p1 &&& (3 : Int32))), .val (.int qa), .val (.int (1 : Int32)), .val (.int (p2 &&& (127 : Int32))), .unset]) (st' := []) (by decide +kernel) rfl ?_
    exact J113 _ _ (own_c1 p2)
set_option maxRecDepth 65536 in
set_option maxHeartbeats 40000000 in
theorem comes_1 {Post : Tables → Env → Array Value → State → Outcome → State → Prop} (hpost : ∀ tb e args s v u, (limb_1_1.after args s (.returned v) u = true ∧ limb_1_2.after args s (.returned v) u = true ∧ True) → FrameEnd s (.returned v) u (Jvm.fieldLocs frame_1_writes args s ++ Jvm.arrayLocs frame_1_arrays args s ++ Jvm.staticLocs frame_1_statics s) 16 128 → Post tb e args s (.returned v) u) :
    ArmFor flags0 classFile x code maxLocals ret World_1 tables_1 room_1 Calls_1 rest_1 Pre_1 Post := by
  intro l hfl _ _ p e ha hc hk s m args below hf hA hF happ hP
  obtain ⟨hcalls, hrest, hpre⟩ := hP
  obtain ⟨-, -, -, hnamed, -, -, -, hat⟩ := (Spec.applies_iff hf).mp happ
  obtain ⟨hg, hn⟩ := and_e (Cond.before_iff.mp (show (Jvm.Cond.and given_1 narrow_1).before args s = true from hpre))
  obtain ⟨hc0, hg⟩ := and_e hg
  obtain ⟨hk0, hg⟩ := and_e hg
  obtain ⟨hk1, hg⟩ := and_e hg
  have hk2 := hg
  obtain ⟨w0, w1, w2, rfl⟩ : ∃ w0 w1 w2 : Value, args = #[w0, w1, w2] := by
    have hs : args.size = 3 := by simpa [Cond.value, given_1] using hc0
    obtain ⟨L⟩ := args
    match L, hs with
    | [w0, w1, w2], _ => exact ⟨w0, w1, w2, rfl⟩
  have hw := fun d (hd : d ∈ tables_1) => atoms_spec (ws := Jvm.Cond.code x code maxLocals ret :: tables_1) hat d (List.mem_cons_of_mem _ hd)
  obtain ⟨i0, e0⟩ := is_v hk0
  obtain rfl : w0 = (.int i0) := Option.some.inj e0
  obtain ⟨i1, e1⟩ := is_v hk1
  obtain rfl : w1 = (.int i1) := Option.some.inj e1
  obtain ⟨i2, e2⟩ := isL_v hk2
  obtain rfl : w2 = (.long i2) := Option.some.inj e2
  obtain ⟨n, o, h1, h2, h3, v, L, rfl, ⟨hv, -, N⟩, hq⟩ := rm_law l s _ hw i0 i1 i2 s.heap s.heap.size (Nat.le_refl _) tables_1 p e ha hc hk s m _ below hf ((Spec.applies_iff_loose hf).mp happ).1 ⟨rfl, State.Warmed39.refl s, rfl⟩ trivial
  obtain rfl : v = some (.int 1) := hv
  refine ⟨n, _, h1, h2, h3, hpost _ _ _ _ _ _ ⟨Cond.after_iff.mpr rfl, Cond.after_iff.mpr (eq_i res_at (Term.int_eval (1)) rfl), trivial⟩ ⟨hq.1, hq.2.1, (hq.2.2.sift fun y hy => Or.inr (N y hy)).mono (by decide) (by decide)⟩⟩
theorem main_1_1 : Claimed_1_1 := comes_1 fun _ _ _ _ _ _ h hF => ⟨h.1, hF⟩
theorem main_1_2 : Claimed_1_2 := comes_1 fun _ _ _ _ _ _ h hF => ⟨h.2.1, hF⟩
end Jvm.Pilot.@@N@@
namespace Jvm.Pilot.@@N@@
open Jvm Jvm.ClassFile Sem Op Lib Jvm.Free Jvm.Stand Jvm.Pilot.@@N@@.Jvm.D
/-! MADE BY PROGRAM (witnessworld.py) out of the Statement's table words and the real class files: 9 classes; the members and pool entries that the words name. The judged class is class 1, her method 1. -/
namespace start1
open Jvm.ClassFile
def u (s : String) : CpInfo := .utf8 (stringToUtf16 s)
/-- a pool by its gaps: so many unusable entries, then the entry; so many at the end -/
def gap : Nat → List CpInfo → List CpInfo
  | 0, r => r
  | n + 1, r => .unusable :: gap n r
def poolList (es : List (Nat × CpInfo)) (last : Nat) : List CpInfo := es.foldr (fun e r => gap e.1 (e.2 :: r)) (gap last [])
def pool (es : List (Nat × CpInfo)) (last : Nat) : Array CpInfo := ⟨poolList es last⟩
def fileOf (pool : Array CpInfo) (this : Nat) (attrs : Array Attribute := #[]) (ms : Array MethodInfo := #[]) (fl : Nat := 33) (sup : Nat := 0) (ifs : Array Nat := #[]) (fds : Array FieldInfo := #[]) : ClassFile where
  minorVersion := 0
  majorVersion := 65
  constantPool := pool
  accessFlags := fl
  thisClass := this
  superClass := sup
  interfaces := ifs
  fields := fds
  methods := ms
  attributes := attrs
def plain (name : String) (sup : Option ClassId) : Class where
  name := name
  kind := .ordinary
  loader := none
  accessFlags := 33
  super := sup
  interfaces := #[]
  cf := none
  fields := #[]
  methods := #[]
  instanceTypes := #[]
  staticTypes := #[]
  resolved := #[]
  callSites := []
  init := .initialized
  statics := none
  mirror := none

def pool0 : Array CpInfo := pool [(5, u "<init>"), (0, u "()V"), (1, .class_ 10), (1, u "java/lang/Object")] 113

def k0m0 : Method := { name := "<init>", desc := "()V", sig := { parameters := [], returnType := none }, accessFlags := 1, code := none }
/-- java/lang/Object -/
def k0 : Class := { plain "java/lang/Object" none with
  accessFlags := 33
  interfaces := #[]
  cf := some (fileOf pool0 8 #[] #[{ accessFlags := 1, nameIndex := 5, descriptorIndex := 6, attributes := #[] }] 33 0 #[] #[])
  fields := #[]
  methods := #[k0m0]
  instanceTypes := #[]
  staticTypes := #[]
  resolved := Array.replicate 124 none
  statics := none }

def pool1 : Array CpInfo := pool [(2, .class_ 4), (1, u "java/lang/Object"), (0, u "<init>"), (0, u "()V"), (0, .integer 65535), (0, .integer 65536), (0, .integer 2147483647), (0, .integer 1048576), (0, .integer 262144), (0, .methodref 13 14), (0, .class_ 15), (0, .nameAndType 16 17), (0, u "com/example/dashkey/dashkey/Utf8"), (0, u "codePoint"), (0, u "([BII)I"), (0, .class_ 19), (0, u "com/example/dashkey/dashkey/Utf8CodePointPinLaw"), (2, u "law"), (0, u "(IIJ)Z")] 5

def k1m0 : Method := { name := "<init>", desc := "()V", sig := { parameters := [], returnType := none }, accessFlags := 2, code := none }
def k1c1 : Code := { maxStack := 5, maxLocals := 9, code := code, exceptionTable := #[], attributes := #[] }
def k1m1 : Method := { name := "law", desc := "(IIJ)Z", sig := { parameters := [.int, .int, .long], returnType := some .boolean }, accessFlags := 9, code := some k1c1 }
/-- com/example/dashkey/dashkey/Utf8CodePointPinLaw -/
def k1 : Class := { plain "com/example/dashkey/dashkey/Utf8CodePointPinLaw" (some 0) with
  accessFlags := 49
  interfaces := #[]
  cf := some (fileOf pool1 18 #[] #[{ accessFlags := 2, nameIndex := 5, descriptorIndex := 6, attributes := #[] }, { accessFlags := 9, nameIndex := 22, descriptorIndex := 23, attributes := #[] }] 49 2 #[] #[])
  fields := #[]
  methods := #[k1m0, k1m1]
  instanceTypes := #[]
  staticTypes := #[]
  resolved := Array.replicate 29 none
  statics := none }

def pool2 : Array CpInfo := pool [(2, .class_ 4), (1, u "java/lang/Object"), (0, u "<init>"), (0, u "()V"), (31, .class_ 40), (1, u "com/example/dashkey/dashkey/Utf8"), (26, u "codePoint"), (0, u "([BII)I")] 20

def k2m0 : Method := { name := "<init>", desc := "()V", sig := { parameters := [], returnType := none }, accessFlags := 2, code := none }
def k2c1 : Code := { maxStack := 5, maxLocals := 5, code := prog_74_method_6_code, exceptionTable := #[], attributes := #[] }
def k2m1 : Method := { name := "codePoint", desc := "([BII)I", sig := { parameters := [(.array .byte), .int, .int], returnType := some .int }, accessFlags := 8, code := some k2c1 }
/-- com/example/dashkey/dashkey/Utf8 -/
def k2 : Class := { plain "com/example/dashkey/dashkey/Utf8" (some 0) with
  accessFlags := 48
  interfaces := #[]
  cf := some (fileOf pool2 38 #[] #[{ accessFlags := 2, nameIndex := 5, descriptorIndex := 6, attributes := #[] }, { accessFlags := 8, nameIndex := 67, descriptorIndex := 68, attributes := #[] }] 48 2 #[] #[])
  fields := #[]
  methods := #[k2m0, k2m1]
  instanceTypes := #[]
  staticTypes := #[]
  resolved := Array.replicate 89 none
  statics := none }

def pool3 : Array CpInfo := pool [(1, u "java/lang/Cloneable"), (0, .class_ 1), (0, u "java/lang/Object"), (0, .class_ 3)] 3

/-- java/lang/Cloneable -/
def k3 : Class := { plain "java/lang/Cloneable" (some 0) with
  accessFlags := 1537
  interfaces := #[]
  cf := some (fileOf pool3 2 #[] #[] 1537 4 #[] #[])
  fields := #[]
  methods := #[]
  instanceTypes := #[]
  staticTypes := #[]
  resolved := Array.replicate 8 none
  statics := none }

def pool4 : Array CpInfo := pool [(1, u "java/io/Serializable"), (0, .class_ 1), (0, u "java/lang/Object"), (0, .class_ 3)] 3

/-- java/io/Serializable -/
def k4 : Class := { plain "java/io/Serializable" (some 0) with
  accessFlags := 1537
  interfaces := #[]
  cf := some (fileOf pool4 2 #[] #[] 1537 4 #[] #[])
  fields := #[]
  methods := #[]
  instanceTypes := #[]
  staticTypes := #[]
  resolved := Array.replicate 8 none
  statics := none }

/-- the primitive byte -/
def k5 : Class := { plain "byte" none with kind := .primitive 'B', accessFlags := 0x411 }
/-- [B -/
def k6 : Class := { plain "[B" (some 0) with kind := .array 5 .byte, interfaces := #[3, 4], accessFlags := 1041 }

/-- the primitive int -/
def k7 : Class := { plain "int" none with kind := .primitive 'I', accessFlags := 0x411 }
/-- [I -/
def k8 : Class := { plain "[I" (some 0) with kind := .array 7 .int, interfaces := #[3, 4], accessFlags := 1041 }

def heap : Heap := #[]
def classes : Array Class := #[k0, k1, k2, k3, k4, k5, k6, k7, k8]
def interned : List (Array UInt16 × Addr) := []
def slotsUsed : Nat := 0
def theMethod : MethodId := ⟨1, 1⟩
def args0 : Array Value := #[.int 5, .int 9, .long 3]
def aboutOver (below : List Frame) : State where
  vm := { classes := classes, interned := interned.toArray }
  heap := heap
  slotsUsed := slotsUsed
  threads := #[{ frames := .invoking theMethod args0 :: below }]
def below0 : List Frame := [.native { method := ⟨0, 0⟩, args := #[] }]
def about1 : State := aboutOver below0
def p0 : Program := .bare "" "" ""
def e0 : Env := launch0.env 0 0 0
theorem w_frames : about1.frames = Frame.invoking theMethod args0 :: below0 := rfl
set_option maxRecDepth 65536 in
theorem w_args : argsFit about1.vm theMethod args0 = true := by decide +kernel
set_option maxRecDepth 65536 in
theorem w_heap : heapFits about1 = true := by decide +kernel
set_option maxRecDepth 65536 in
theorem w_runnable : about1.curStatus? = some .runnable := by decide +kernel
set_option maxRecDepth 65536 in
theorem w_alone : about1.alone = true := by decide +kernel
set_option maxRecDepth 65536 in
theorem w_named : about1.methodNamed? x = some theMethod := by decide +kernel
set_option maxRecDepth 65536 in
theorem w_hears : about1.hears theMethod below0 = true := by decide +kernel
set_option maxRecDepth 65536 in
theorem w_ripe : about1.ripe theMethod args0 below0 = true := by decide +kernel
theorem w_running : about1.status = .running := rfl
set_option maxRecDepth 65536 in
theorem w_room : about1.hasRoom e0.platform room_1 = true :=
  launch0.hasRoom_least _ room_1 (by decide +kernel) (by decide +kernel) (by decide +kernel) (by decide +kernel) (by decide +kernel) (by decide +kernel)
theorem allAtoms_all (ts : List Jvm.Cond) (a : Array Jvm.Value) (st : Jvm.State) : (allAtoms ts).before a st = ts.all (fun c => c.before a st) := by
  induction ts with
  | nil => rfl
  | cons c t ih =>
    show (Jvm.Cond.and c (allAtoms t)).before a st = _
    rw [Jvm.Cond.before_and, ih, List.all_cons]
def words1 : List Jvm.Cond := Jvm.Cond.code x code maxLocals ret :: tables_1
/-- a 'code' word, met by the world's own term for the bytes: nothing is compared byte by byte -/
theorem code_word {y : MethodName} {bytes : ByteArray} {mx : Nat} {rt : Option FieldType} {a : Array Value} {s : State} {m : MethodId} {meth : Method} {c : Code} (h1 : s.methodNamed? y = some m) (h2 : s.vm.method? m = some meth) (h3 : meth.code = some c) (h4 : c.code = bytes)
    (h5 : (c.maxLocals == mx && c.exceptionTable.isEmpty && decide (c.maxStack ≤ mostOperands) && decide (meth.sig.returnType = rt) && !meth.locks && decide (parseMethodDescriptor y.desc = some meth.sig)) = true) : (Jvm.Cond.code y bytes mx rt).before a s = true := by
  simp only [Bool.and_eq_true, beq_iff_eq, Bool.not_eq_true', decide_eq_true_eq] at h5
  obtain ⟨⟨⟨⟨⟨g1, g2⟩, g3⟩, g4⟩, g5⟩, g6⟩ := h5
  simp [Cond.before, Cond.holds, Cond.value, h1, h2, h3, h4, g1, g2, g3, g4, g5, g6]
def isCode : Jvm.Cond → Bool
  | .code _ _ _ _ => true
  | _ => false
theorem all_split {L : List Jvm.Cond} {P : Jvm.Cond → Bool} (h1 : L.all (fun c => isCode c || P c) = true) (h2 : ∀ c ∈ L.filter isCode, P c = true) : L.all P = true := by
  refine List.all_eq_true.mpr fun c hc => ?_
  have h := List.all_eq_true.mp h1 c hc
  rcases Bool.eq_false_or_eq_true (isCode c) with hi | hi
  · exact h2 c (List.mem_filter.mpr ⟨hc, hi⟩)
  · simpa [hi] using h
set_option maxRecDepth 65536 in
theorem w_c0 : (Jvm.Cond.code x code maxLocals ret).before args0 about1 = true := code_word (m := ⟨1, 1⟩) (meth := k1m1) (c := k1c1) (by decide +kernel) rfl rfl rfl (by decide +kernel)
set_option maxRecDepth 65536 in
theorem w_c1 : (Jvm.Cond.code ({ cls := "com/example/dashkey/dashkey/Utf8", name := "codePoint", desc := "([BII)I" } : Jvm.MethodName) prog_74_method_6_code (5 : Nat) (Option.some Jvm.ClassFile.FieldType.int)).before args0 about1 = true := code_word (m := ⟨2, 1⟩) (meth := k2m1) (c := k2c1) (by decide +kernel) rfl rfl rfl (by decide +kernel)
def codes1 : List Jvm.Cond := [Jvm.Cond.code x code maxLocals ret, Jvm.Cond.code ({ cls := "com/example/dashkey/dashkey/Utf8", name := "codePoint", desc := "([BII)I" } : Jvm.MethodName) prog_74_method_6_code (5 : Nat) (Option.some Jvm.ClassFile.FieldType.int)]
set_option maxRecDepth 65536 in
theorem codes_eq : words1.filter isCode = codes1 := rfl
theorem w_codes : ∀ c ∈ words1.filter isCode, c.before args0 about1 = true := by
  rw [codes_eq]
  intro c hc
  simp only [codes1, List.mem_cons, List.not_mem_nil, or_false] at hc
  rcases hc with rfl | rfl
  · exact w_c0
  · exact w_c1
set_option maxRecDepth 65536 in
theorem w_t1 : words1.all (fun c => isCode c || c.before args0 about1) = true := by decide +kernel
theorem w_tables : (allAtoms (Jvm.Cond.code x code maxLocals ret :: tables_1)).before args0 about1 = true := by
  rw [allAtoms_all]
  show words1.all (fun c => c.before args0 about1) = true
  refine all_split ?_ w_codes
  rw [w_t1]
set_option maxRecDepth 65536 in
theorem w_case : (Jvm.Cond.and given_1 narrow_1).before args0 about1 = true := by decide +kernel
theorem w_applies : (headSpec (Jvm.Cond.code x code maxLocals ret :: tables_1) room_1).applies x e0.platform about1 = true :=
  (Spec.applies_iff w_frames).mpr ⟨w_running, w_runnable, w_alone, w_named, w_hears, w_ripe, w_room, w_tables⟩
theorem atStart : AtStart classFile x code maxLocals ret World_1 tables_1 room_1 Calls_1 rest_1 Pre_1 launch0 p0 e0 about1 theMethod args0 below0 :=
  ⟨lists_1, trivial, launch0.admits_env _ _ _, launch0.least_env, fairChoices_fair.cas, fairChoices_fair.clock, w_frames, w_args, w_heap, w_applies, trivial, trivial, w_case⟩
end start1
theorem witness_1 : WitnessClaimed_1 := ⟨start1.p0, start1.e0, start1.about1, start1.theMethod, start1.args0, start1.below0, start1.atStart⟩
end Jvm.Pilot.@@N@@
