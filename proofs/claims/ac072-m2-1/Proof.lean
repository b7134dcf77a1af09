import JvmDerived
import JvmDerived.Pilot.@@N@@Statement
import JvmDerived.Pilot.@@N@@Code
set_option linter.unusedVariables false
set_option linter.unusedSimpArgs false
namespace Jvm.Pilot.@@N@@
open Jvm Jvm.ClassFile Sem Op Lib Jvm.Free Jvm.Stand Jvm.LawKit Jvm.RoadKit Bundle Jvm.Pilot.@@N@@.Jvm.D

/-! THE OWN LAYER. 1. Straight roads by evaluation: an instruction, its length, the int that it brings, where a goto leads -/
abbrev El := Instr × Nat × Int32 × Nat
def okc (i : Instr) (n : Nat) (k : Int32) (t pc : Nat) : Bool :=
  match i with
  | .iload _ => n == 2
  | .lload _ => n == 2
  | .aload _ => n == 2
  | .istore _ => n == 2
  | .lstore _ => n == 2
  | .astore _ => n == 2
  | .bipush j => n == 2 && decide ((Int8.ofInt j).toInt32 = k)
  | .sipush j => n == 3 && decide ((Int16.ofInt j).toInt32 = k)
  | .iconst j => n == 1 && decide (Int32.ofInt j = k)
  | .iinc _ j => n == 3 && decide (Int32.ofInt j = k)
  | .goto o => n == 3 && (decide (0 ≤ (pc : Int) + o) && decide (((pc : Int) + o).toNat = t))
  | .ldc _ => n == 2
  | .ldc2_w _ => n == 3
  | _ => n == 1
def nx (i : Instr) (n t pc : Nat) : Nat := match i with | .goto _ => t | _ => pc + n
def Dec (b : ByteArray) : List El → Nat → Nat → Bool
  | [], pc, pc' => pc == pc'
  | (i, n, k, t) :: L, pc, pc' => decide (decode b pc = .ok (i, n)) && (okc i n k t pc && Dec b L (nx i n t pc) pc')
def own_look {α : Type} : List (Nat × α) → Nat → Option α
  | [], _ => none
  | q :: r, i => if i = q.1 then some q.2 else own_look r i
theorem own_look_mem {α : Type} : ∀ (L : List (Nat × α)) (i : Nat) (v : α), own_look L i = some v → (i, v) ∈ L
  | [], _, _, h => nomatch h
  | q :: r, i, v, h => by
    unfold own_look at h
    split at h
    · rename_i e; cases h; subst e; exact List.mem_cons_self ..
    · exact List.mem_cons_of_mem _ (own_look_mem r i v h)
def pV (KI : List (Nat × Int32)) (KJ : List (Nat × Int64)) (i : Instr) (k : Int32) (ls : Array Slot) (st : List Value) : Option (Array Slot × List Value) :=
  match i with
  | .iload_n a => match ls[a.val]? with | some (.val (.int v)) => some (ls, .int v :: st) | _ => none
  | .iload a => match ls[a]? with | some (.val (.int v)) => some (ls, .int v :: st) | _ => none
  | .lload_n a => match ls[a.val]? with | some (.val (.long v)) => some (ls, .long v :: st) | _ => none
  | .lload a => match ls[a]? with | some (.val (.long v)) => some (ls, .long v :: st) | _ => none
  | .aload_n a => match ls[a.val]? with | some (.val (.ref v)) => some (ls, .ref v :: st) | some (.val .null) => some (ls, .null :: st) | _ => none
  | .aload a => match ls[a]? with | some (.val (.ref v)) => some (ls, .ref v :: st) | some (.val .null) => some (ls, .null :: st) | _ => none
  | .istore_n a => match st with | .int x :: r => (match storeLocals ls a.val (.int x) with | some l2 => some (l2, r) | none => none) | _ => none
  | .istore a => match st with | .int x :: r => (match storeLocals ls a (.int x) with | some l2 => some (l2, r) | none => none) | _ => none
  | .lstore_n a => match st with | .long x :: r => (match storeLocals ls a.val (.long x) with | some l2 => some (l2, r) | none => none) | _ => none
  | .lstore a => match st with | .long x :: r => (match storeLocals ls a (.long x) with | some l2 => some (l2, r) | none => none) | _ => none
  | .astore_n a => match st with | .ref x :: r => (match storeLocals ls a.val (.ref x) with | some l2 => some (l2, r) | none => none) | .null :: r => (match storeLocals ls a.val .null with | some l2 => some (l2, r) | none => none) | _ => none
  | .astore a => match st with | .ref x :: r => (match storeLocals ls a (.ref x) with | some l2 => some (l2, r) | none => none) | .null :: r => (match storeLocals ls a .null with | some l2 => some (l2, r) | none => none) | _ => none
  | .iconst j => some (ls, .int k :: st)
  | .bipush j => some (ls, .int k :: st)
  | .sipush j => some (ls, .int k :: st)
  | .lconst j => match j with | 0 => some (ls, .long 0 :: st) | 1 => some (ls, .long 1 :: st)
  | .aconst_null => some (ls, .null :: st)
  | .iadd => match st with | .int y :: .int x :: r => some (ls, .int (x + y) :: r) | _ => none
  | .isub => match st with | .int y :: .int x :: r => some (ls, .int (x - y) :: r) | _ => none
  | .imul => match st with | .int y :: .int x :: r => some (ls, .int (x * y) :: r) | _ => none
  | .iand => match st with | .int y :: .int x :: r => some (ls, .int (x &&& y) :: r) | _ => none
  | .ior => match st with | .int y :: .int x :: r => some (ls, .int (x ||| y) :: r) | _ => none
  | .ixor => match st with | .int y :: .int x :: r => some (ls, .int (x ^^^ y) :: r) | _ => none
  | .ishl => match st with | .int y :: .int x :: r => some (ls, .int (x <<< (y &&& 31)) :: r) | _ => none
  | .ishr => match st with | .int y :: .int x :: r => some (ls, .int (x >>> (y &&& 31)) :: r) | _ => none
  | .iushr => match st with | .int y :: .int x :: r => some (ls, .int (XT.ushr x y) :: r) | _ => none
  | .ladd => match st with | .long y :: .long x :: r => some (ls, .long (x + y) :: r) | _ => none
  | .lsub => match st with | .long y :: .long x :: r => some (ls, .long (x - y) :: r) | _ => none
  | .lmul => match st with | .long y :: .long x :: r => some (ls, .long (x * y) :: r) | _ => none
  | .land => match st with | .long y :: .long x :: r => some (ls, .long (x &&& y) :: r) | _ => none
  | .lor => match st with | .long y :: .long x :: r => some (ls, .long (x ||| y) :: r) | _ => none
  | .lxor => match st with | .long y :: .long x :: r => some (ls, .long (x ^^^ y) :: r) | _ => none
  | .lshl => match st with | .int y :: .long x :: r => some (ls, .long (x <<< (y.toInt64 &&& 63)) :: r) | _ => none
  | .lushr => match st with | .int y :: .long x :: r => some (ls, .long (XT.ushrL x y) :: r) | _ => none
  | .lshr => match st with | .int y :: .long x :: r => some (ls, .long (x >>> (y.toInt64 &&& 63)) :: r) | _ => none
  | .ineg => match st with | .int x :: r => some (ls, .int (-x) :: r) | _ => none
  | .lneg => match st with | .long x :: r => some (ls, .long (-x) :: r) | _ => none
  | .i2l => match st with | .int x :: r => some (ls, .long x.toInt64 :: r) | _ => none
  | .l2i => match st with | .long x :: r => some (ls, .int x.toInt32 :: r) | _ => none
  | .i2b => match st with | .int x :: r => some (ls, .int x.toInt8.toInt32 :: r) | _ => none
  | .i2s => match st with | .int x :: r => some (ls, .int x.toInt16.toInt32 :: r) | _ => none
  | .dup => match st with | .int x :: r => some (ls, .int x :: .int x :: r) | .ref x :: r => some (ls, .ref x :: .ref x :: r) | _ => none
  | .dup2 => match st with | .int x :: .ref y :: r => some (ls, .int x :: .ref y :: .int x :: .ref y :: r) | .long x :: r => some (ls, .long x :: .long x :: r) | _ => none
  | .dup_x2 => match st with | .int x :: .int y :: .ref z :: r => some (ls, .int x :: .int y :: .ref z :: .int x :: r) | _ => none
  | .goto o => some (ls, st)
  | .iinc a j => match ls[a]? with | some (.val (.int v)) => (match storeLocals ls a (.int (v + k)) with | some l2 => some (l2, st) | none => none) | _ => none
  | .ldc a => match own_look KI a with | some v => some (ls, .int v :: st) | none => none
  | .ldc2_w a => match own_look KJ a with | some v => some (ls, .long v :: st) | none => none
  | _ => none
def prun (KI : List (Nat × Int32)) (KJ : List (Nat × Int64)) : List El → Array Slot → List Value → Option (Array Slot × List Value)
  | [], ls, st => some (ls, st)
  | (i, _, k, _) :: L, ls, st => match pV KI KJ i k ls st with | some (l2, s2) => prun KI KJ L l2 s2 | none => none
theorem own_dupX2 {tb : Tables} [Ours tb] {e : Env} {below : List Frame} {T target : State} {m : MethodId} {c : Code} {g : JFrame} (h : At T m c below) (hx : tb.exec = Jvm.exec) (hg : g.method = m) {x y z : Value} {rest : List Value} (hd : decode c.code g.pc = .ok (.dup_x2, 1)) (hs : g.stack = x :: y :: z :: rest) (h1 : x.category = 1) (h2 : y.category = 1) (h3 : z.category = 1)
    (hr : Steps tb e below (T.setTop { g with pc := g.pc + 1, stack := x :: y :: z :: x :: rest }) target) : Steps tb e below (T.setTop g) target := by
  subst hg
  jvm_step h [h.top, hx, hd, hs, h1, h2, h3, dup_x2.wp_sem]
  exact hr
section OwnSteps
variable {p : Program} {l : Launch} {e : Env} {R : Room} {s : State} {m : MethodId} {args : Array Value} {below : List Frame} {meth : Method} {c : Code} {T : State} {locs : List Loc} {cells slots : Nat} {Z : State} {a0 : Array Value} {own : String} {KI : List (Nat × Int32)} {KJ : List (Nat × Int64)}
set_option maxHeartbeats 4000000 in
theorem pV_ok (X : Stand p l e R s m args below meth c T locs cells slots) (hx : p.tables.exec = Jvm.exec) (hZ : Z.Warmed39 s.vm) (hown : s.vm.findClass own = some m.cls) (hKI : ∀ q ∈ KI, (Jvm.Cond.constant own q.1 q.2).before a0 Z = true) (hKJ : ∀ q ∈ KJ, (Jvm.Cond.constantLong own q.1 q.2).before a0 Z = true)
    {pc n t : Nat} {i : Instr} {k : Int32} {ls ls' : Array Slot} {st st' : List Value} (hd : decode c.code pc = .ok (i, n)) (ho : okc i n k t pc = true) (h : pV KI KJ i k ls st = some (ls', st')) {target : State}
    (hr : Steps p.tables e below (T.setTop (mkF m (nx i n t pc) ls' st')) target) : Steps p.tables e below (T.setTop (mkF m pc ls st)) target := by
  cases i
  case iload_n a =>
    simp only [okc, beq_iff_eq] at ho
    subst ho
    simp only [pV] at h
    split at h
    · cases h
      exact XS.iloadN X.here hx rfl hd (by assumption) hr
    · cases h
  case iload a =>
    simp only [okc, beq_iff_eq] at ho
    subst ho
    simp only [pV] at h
    split at h
    · cases h
      exact XS.iload X.here hx rfl hd (by assumption) hr
    · cases h
  case lload_n a =>
    simp only [okc, beq_iff_eq] at ho
    subst ho
    simp only [pV] at h
    split at h
    · cases h
      exact XT.lloadN X.here hx rfl hd (by assumption) hr
    · cases h
  case lload a =>
    simp only [okc, beq_iff_eq] at ho
    subst ho
    simp only [pV] at h
    split at h
    · cases h
      exact XT.lload X.here hx rfl hd (by assumption) hr
    · cases h
  case aload_n a =>
    simp only [okc, beq_iff_eq] at ho
    subst ho
    simp only [pV] at h
    split at h
    · cases h
      exact XS.aloadN X.here hx rfl hd (by assumption) rfl hr
    · cases h
      exact XS.aloadN X.here hx rfl hd (by assumption) rfl hr
    · cases h
  case aload a =>
    simp only [okc, beq_iff_eq] at ho
    subst ho
    simp only [pV] at h
    split at h
    · cases h
      exact XS.aload X.here hx rfl hd (by assumption) rfl hr
    · cases h
      exact XS.aload X.here hx rfl hd (by assumption) rfl hr
    · cases h
  case istore_n a =>
    simp only [okc, beq_iff_eq] at ho
    subst ho
    simp only [pV] at h
    split at h
    · split at h
      · cases h
        exact XS.istoreN X.here hx rfl hd rfl (by assumption) hr
      · cases h
    · cases h
  case istore a =>
    simp only [okc, beq_iff_eq] at ho
    subst ho
    simp only [pV] at h
    split at h
    · split at h
      · cases h
        exact XS.istore X.here hx rfl hd rfl (by assumption) hr
      · cases h
    · cases h
  case lstore_n a =>
    simp only [okc, beq_iff_eq] at ho
    subst ho
    simp only [pV] at h
    split at h
    · split at h
      · cases h
        exact XT.lstoreN X.here hx rfl hd rfl (by assumption) hr
      · cases h
    · cases h
  case lstore a =>
    simp only [okc, beq_iff_eq] at ho
    subst ho
    simp only [pV] at h
    split at h
    · split at h
      · cases h
        exact XT.lstore X.here hx rfl hd rfl (by assumption) hr
      · cases h
    · cases h
  case astore_n a =>
    simp only [okc, beq_iff_eq] at ho
    subst ho
    simp only [pV] at h
    split at h
    · split at h
      · cases h
        exact XS.astoreN X.here hx rfl hd rfl rfl (by assumption) hr
      · cases h
    · split at h
      · cases h
        exact XS.astoreN X.here hx rfl hd rfl rfl (by assumption) hr
      · cases h
    · cases h
  case astore a =>
    simp only [okc, beq_iff_eq] at ho
    subst ho
    simp only [pV] at h
    split at h
    · split at h
      · cases h
        exact XS.astore X.here hx rfl hd rfl rfl (by assumption) hr
      · cases h
    · split at h
      · cases h
        exact XS.astore X.here hx rfl hd rfl rfl (by assumption) hr
      · cases h
    · cases h
  case iconst j =>
    simp only [okc, Bool.and_eq_true, beq_iff_eq, decide_eq_true_eq] at ho
    obtain ⟨rfl, rfl⟩ := ho
    simp only [pV] at h
    cases h
    exact XS.iconst X.here hx rfl hd hr
  case bipush j =>
    simp only [okc, Bool.and_eq_true, beq_iff_eq, decide_eq_true_eq] at ho
    obtain ⟨rfl, rfl⟩ := ho
    simp only [pV] at h
    cases h
    exact XS.bipush X.here hx rfl hd hr
  case sipush j =>
    simp only [okc, Bool.and_eq_true, beq_iff_eq, decide_eq_true_eq] at ho
    obtain ⟨rfl, rfl⟩ := ho
    simp only [pV] at h
    cases h
    exact XS.sipush X.here hx rfl hd hr
  case lconst j =>
    simp only [okc, beq_iff_eq] at ho
    subst ho
    simp only [pV] at h
    split at h
    · cases h
      exact XT.lconst X.here hx rfl hd hr
    · cases h
      exact XT.lconst X.here hx rfl hd hr
  case aconst_null =>
    simp only [okc, beq_iff_eq] at ho
    subst ho
    simp only [pV] at h
    cases h
    exact XS.aconstNull X.here hx rfl hd hr
  case iadd =>
    simp only [okc, beq_iff_eq] at ho
    subst ho
    simp only [pV] at h
    split at h
    · cases h
      exact XS.iadd X.here hx rfl hd rfl hr
    · cases h
  case isub =>
    simp only [okc, beq_iff_eq] at ho
    subst ho
    simp only [pV] at h
    split at h
    · cases h
      exact XS.isub X.here hx rfl hd rfl hr
    · cases h
  case imul =>
    simp only [okc, beq_iff_eq] at ho
    subst ho
    simp only [pV] at h
    split at h
    · cases h
      exact XS.imul X.here hx rfl hd rfl hr
    · cases h
  case iand =>
    simp only [okc, beq_iff_eq] at ho
    subst ho
    simp only [pV] at h
    split at h
    · cases h
      exact XS.iand X.here hx rfl hd rfl hr
    · cases h
  case ior =>
    simp only [okc, beq_iff_eq] at ho
    subst ho
    simp only [pV] at h
    split at h
    · cases h
      exact XT.ior X.here hx rfl hd rfl hr
    · cases h
  case ixor =>
    simp only [okc, beq_iff_eq] at ho
    subst ho
    simp only [pV] at h
    split at h
    · cases h
      exact XT.ixor X.here hx rfl hd rfl hr
    · cases h
  case ishl =>
    simp only [okc, beq_iff_eq] at ho
    subst ho
    simp only [pV] at h
    split at h
    · cases h
      exact XT.ishl X.here hx rfl hd rfl hr
    · cases h
  case ishr =>
    simp only [okc, beq_iff_eq] at ho
    subst ho
    simp only [pV] at h
    split at h
    · cases h
      exact XT.ishr X.here hx rfl hd rfl hr
    · cases h
  case iushr =>
    simp only [okc, beq_iff_eq] at ho
    subst ho
    simp only [pV] at h
    split at h
    · cases h
      exact XT.iushr X.here hx rfl hd rfl hr
    · cases h
  case ladd =>
    simp only [okc, beq_iff_eq] at ho
    subst ho
    simp only [pV] at h
    split at h
    · cases h
      exact XT.ladd X.here hx rfl hd rfl hr
    · cases h
  case lsub =>
    simp only [okc, beq_iff_eq] at ho
    subst ho
    simp only [pV] at h
    split at h
    · cases h
      exact XT.lsub X.here hx rfl hd rfl hr
    · cases h
  case lmul =>
    simp only [okc, beq_iff_eq] at ho
    subst ho
    simp only [pV] at h
    split at h
    · cases h
      exact XT.lmul X.here hx rfl hd rfl hr
    · cases h
  case land =>
    simp only [okc, beq_iff_eq] at ho
    subst ho
    simp only [pV] at h
    split at h
    · cases h
      exact XT.land X.here hx rfl hd rfl hr
    · cases h
  case lor =>
    simp only [okc, beq_iff_eq] at ho
    subst ho
    simp only [pV] at h
    split at h
    · cases h
      exact XT.lor X.here hx rfl hd rfl hr
    · cases h
  case lxor =>
    simp only [okc, beq_iff_eq] at ho
    subst ho
    simp only [pV] at h
    split at h
    · cases h
      exact XT.lxor X.here hx rfl hd rfl hr
    · cases h
  case lshl =>
    simp only [okc, beq_iff_eq] at ho
    subst ho
    simp only [pV] at h
    split at h
    · cases h
      exact XT.lshl X.here hx rfl hd rfl hr
    · cases h
  case lushr =>
    simp only [okc, beq_iff_eq] at ho
    subst ho
    simp only [pV] at h
    split at h
    · cases h
      exact XT.lushr X.here hx rfl hd rfl hr
    · cases h
  case lshr =>
    simp only [okc, beq_iff_eq] at ho
    subst ho
    simp only [pV] at h
    split at h
    · cases h
      exact XT.lshr X.here hx rfl hd rfl hr
    · cases h
  case ineg =>
    simp only [okc, beq_iff_eq] at ho
    subst ho
    simp only [pV] at h
    split at h
    · cases h
      exact XS.ineg X.here hx rfl hd rfl hr
    · cases h
  case lneg =>
    simp only [okc, beq_iff_eq] at ho
    subst ho
    simp only [pV] at h
    split at h
    · cases h
      exact XT.lneg X.here hx rfl hd rfl hr
    · cases h
  case i2l =>
    simp only [okc, beq_iff_eq] at ho
    subst ho
    simp only [pV] at h
    split at h
    · cases h
      exact XT.i2l X.here hx rfl hd rfl hr
    · cases h
  case l2i =>
    simp only [okc, beq_iff_eq] at ho
    subst ho
    simp only [pV] at h
    split at h
    · cases h
      exact XT.l2i X.here hx rfl hd rfl hr
    · cases h
  case i2b =>
    simp only [okc, beq_iff_eq] at ho
    subst ho
    simp only [pV] at h
    split at h
    · cases h
      exact XT.i2b X.here hx rfl hd rfl hr
    · cases h
  case i2s =>
    simp only [okc, beq_iff_eq] at ho
    subst ho
    simp only [pV] at h
    split at h
    · cases h
      exact XT.i2s X.here hx rfl hd rfl hr
    · cases h
  case dup =>
    simp only [okc, beq_iff_eq] at ho
    subst ho
    simp only [pV] at h
    split at h
    · cases h
      exact XS.dup X.here hx rfl hd rfl rfl hr
    · cases h
      exact XS.dup X.here hx rfl hd rfl rfl hr
    · cases h
  case dup2 =>
    simp only [okc, beq_iff_eq] at ho
    subst ho
    simp only [pV] at h
    split at h
    · cases h
      exact XT.dup2 X.here hx rfl hd rfl rfl rfl hr
    · cases h
      exact XT.dup2L X.here hx rfl hd rfl hr
    · cases h
  case dup_x2 =>
    simp only [okc, beq_iff_eq] at ho
    subst ho
    simp only [pV] at h
    split at h
    · cases h
      exact own_dupX2 X.here hx rfl hd rfl rfl rfl rfl hr
    · cases h
  case goto o =>
    simp only [okc, Bool.and_eq_true, beq_iff_eq, decide_eq_true_eq] at ho
    obtain ⟨rfl, h1, h2⟩ := ho
    simp only [pV] at h
    cases h
    exact XS.goto X.here hx rfl (pc0 := pc) (pc' := t) rfl hd h1 h2 hr
  case iinc a j =>
    simp only [okc, Bool.and_eq_true, beq_iff_eq, decide_eq_true_eq] at ho
    obtain ⟨rfl, rfl⟩ := ho
    simp only [pV] at h
    split at h
    · split at h
      · cases h
        exact XS.iinc X.here hx rfl hd (by assumption) (by assumption) hr
      · cases h
    · cases h
  case ldc a =>
    simp only [okc, beq_iff_eq] at ho
    subst ho
    simp only [pV] at h
    split at h
    · rename_i v q
      cases h
      exact X.ldcInt hx hown (mv hZ (hKI _ (own_look_mem _ _ _ q))) (g := mkF m pc ls st) rfl hd _ hr
    · cases h
  case ldc2_w a =>
    simp only [okc, beq_iff_eq] at ho
    subst ho
    simp only [pV] at h
    split at h
    · rename_i v q
      cases h
      exact X.ldc2Long hx hown (mv hZ (hKJ _ (own_look_mem _ _ _ q))) (g := mkF m pc ls st) rfl hd _ hr
    · cases h
  all_goals exact nomatch (show (none : Option (Array Slot × List Value)) = some (ls', st') from h)
theorem prun_ok (X : Stand p l e R s m args below meth c T locs cells slots) (hx : p.tables.exec = Jvm.exec) (hZ : Z.Warmed39 s.vm) (hown : s.vm.findClass own = some m.cls) (hKI : ∀ q ∈ KI, (Jvm.Cond.constant own q.1 q.2).before a0 Z = true) (hKJ : ∀ q ∈ KJ, (Jvm.Cond.constantLong own q.1 q.2).before a0 Z = true) {target : State} {pc' : Nat} {ls' : Array Slot} {st' : List Value} :
    ∀ (L : List El) (pc : Nat) (ls : Array Slot) (st : List Value), Dec c.code L pc pc' = true → prun KI KJ L ls st = some (ls', st') → Steps p.tables e below (T.setTop (mkF m pc' ls' st')) target → Steps p.tables e below (T.setTop (mkF m pc ls st)) target
  | [], pc, ls, st, hD, h, hr => by
    simp only [Dec, beq_iff_eq] at hD
    simp only [prun] at h
    cases h; subst hD
    exact hr
  | (i, n, k, t) :: L, pc, ls, st, hD, h, hr => by
    simp only [Dec, Bool.and_eq_true, decide_eq_true_eq] at hD
    simp only [prun] at h
    split at h
    · rename_i l2 s2 q
      exact pV_ok X hx hZ hown hKI hKJ hD.1 hD.2.1 q (prun_ok X hx hZ hown hKI hKJ L _ l2 s2 hD.2.2 h hr)
    · cases h
end OwnSteps
/-! 2. Where a walk stands (Wk), that it comes to its end (Go), a method's contract (Cnt) -/
def Wk (Z : State) (l : Launch) (p : Program) (e : Env) (R : Room) (s : State) (m : MethodId) (args : Array Value) (below : List Frame) (meth : Method) (c : Code) (own nm : String) (bytes : ByteArray) (maxL : Nat) (ret : Option FieldType) (n0 : Nat) (T : State) (h : Heap) (cells slots : Nat) : Prop :=
  (∃ locs, Stand p l e R s m args below meth c T locs cells slots ∧ Fr n0 locs) ∧ T.heap = h ∧ n0 ≤ h.size ∧ p.tables.exec = Jvm.exec ∧ Z.Warmed39 s.vm ∧ s.vm.findClass own = some m.cls ∧ c.code = bytes ∧ c.maxLocals = maxL ∧ meth.sig.returnType = ret ∧ meth.locks = false ∧ meth.name = nm
def Go (p : Program) (e : Env) (below : List Frame) (s : State) (R : Room) (n0 : Nat) (Q : Option Value → Heap → Prop) (A : State) : Prop :=
  ∃ (s₂ : State) (v : Option Value) (L : List Loc), Steps p.tables e below A s₂ ∧ s₂.status = .running ∧ Ended s₂ below (.returned v) ∧ (Q v s₂.heap ∧ n0 ≤ s₂.heap.size ∧ Fr n0 L) ∧ FrameEnd s (.returned v) s₂ L R.cells R.slots
def Cnt (l : Launch) (Z : State) (y : MethodName) (bytes : ByteArray) (maxL : Nat) (ret : Option FieldType) (rm : Room) (n0 : Nat) (as' : Array Value) (h : Heap) (Q : Option Value → Heap → Prop) : Prop :=
  ∀ ws : List Jvm.Cond, MetFree l y (head1 (Jvm.Cond.code y bytes maxL ret :: ws) rm) (fun a U => a = as' ∧ Z.Warmed39 U.vm ∧ U.heap = h) (fun _ _ _ _ _ => True) (fun _ U o U' => ∃ v L, o = .returned v ∧ (Q v U'.heap ∧ n0 ≤ U'.heap.size ∧ Fr n0 L) ∧ FrameEnd U o U' L rm.cells rm.slots)
theorem Cnt.mk {l : Launch} {Z : State} {y : MethodName} {bytes : ByteArray} {maxL : Nat} {ret : Option FieldType} {rm : Room} {n0 : Nat} {as' : Array Value} {h : Heap} {Q : Option Value → Heap → Prop} (hn : plainFor y = true) (hh : n0 ≤ h.size)
    (H : ∀ p e s m below meth c T, Wk Z l p e rm s m as' below meth c y.cls y.name bytes maxL ret n0 T h 0 0 → Go p e below s rm n0 Q (T.setTop (entryFrame m as' maxL))) : Cnt l Z y bytes maxL ret rm n0 as' h Q := by
  intro ws
  refine MetFree.of_bodySF hn hisR ?_
  intro p e s m args below meth c s₁ Bd hml hP hK
  obtain ⟨rfl, hZ, hq⟩ := hP
  have hX : Stand p l e rm s m args below meth c s₁ [] 0 0 := Stand.of_body Bd
  obtain ⟨s₂, v, L, h1, h2, h3, h4, h5⟩ := H p e s m below meth c s₁ ⟨⟨[], hX, Fr.nil n0⟩, by rw [← hq, Bd.state]; rfl, hh, Bd.exec, hZ, findClass_of_methodNamed Bd.named, Bd.bytes, hml, Bd.returns, Bd.notSynchronized, (name_of_methodNamed Bd.named Bd.method).1⟩
  exact ⟨s₂, _, h1, h2, h3, v, L, rfl, h4, h5⟩
section OwnLaws
variable {Z : State} {l : Launch} {p : Program} {e : Env} {R : Room} {s : State} {m : MethodId} {args : Array Value} {below : List Frame} {meth : Method} {c : Code} {own nm : String} {bytes : ByteArray} {maxL : Nat} {ret : Option FieldType} {n0 : Nat} {T : State} {h : Heap} {cells slots : Nat} {Q : Option Value → Heap → Prop} {a0 : Array Value} {pc : Nat} {ls : Array Slot} {st rest : List Value}
theorem Go.lift {A A' : State} (k : ∀ t, Steps p.tables e below A' t → Steps p.tables e below A t) (g : Go p e below s R n0 Q A') : Go p e below s R n0 Q A := by
  obtain ⟨s2, v, L, h1, r⟩ := g
  exact ⟨s2, v, L, k _ h1, r⟩
theorem Go.cast {g g' : JFrame} (q : g = g') (k : Go p e below s R n0 Q (T.setTop g')) : Go p e below s R n0 Q (T.setTop g) := q ▸ k
theorem Wk.blk (X : Wk Z l p e R s m args below meth c own nm bytes maxL ret n0 T h cells slots) {KI : List (Nat × Int32)} {KJ : List (Nat × Int64)} (hK : (∀ q ∈ KI, (Jvm.Cond.constant own q.1 q.2).before a0 Z = true) ∧ (∀ q ∈ KJ, (Jvm.Cond.constantLong own q.1 q.2).before a0 Z = true)) {L : List El} {pc' : Nat} {ls' : Array Slot} {st' : List Value}
    (hD : Dec bytes L pc pc' = true) (hr : prun KI KJ L ls st = some (ls', st')) (g : Go p e below s R n0 Q (T.setTop (mkF m pc' ls' st'))) : Go p e below s R n0 Q (T.setTop (mkF m pc ls st)) := by
  obtain ⟨⟨locs, Y, N⟩, eT, hn, hx, hZ, hown, hby, hml, hrt, hlk, hnm⟩ := X
  subst hby
  exact g.lift fun t k => prun_ok Y hx hZ hown hK.1 hK.2 L pc ls st hD hr k
theorem Wk.more (X : Wk Z l p e R s m args below meth c own nm bytes maxL ret n0 T h cells slots) {c' s' : Nat} (h1 : cells ≤ c') (h2 : slots ≤ s') : Wk Z l p e R s m args below meth c own nm bytes maxL ret n0 T h c' s' := by
  obtain ⟨⟨locs, Y, N⟩, r⟩ := X
  exact ⟨⟨locs, Y.more h1 h2, N⟩, r⟩
theorem Wk.size (X : Wk Z l p e R s m args below meth c own nm bytes maxL ret n0 T h cells slots) : n0 ≤ h.size := X.2.2.1
/-! branches -/
def cT (cd : ClassFile.Cond) (x y : Int32) : Prop := match cd with | .eq => x = y | .ne => ¬ x = y | .lt => x < y | .ge => ¬ x < y | .gt => y < x | .le => ¬ y < x
def cF (cd : ClassFile.Cond) (x y : Int32) : Prop := match cd with | .eq => ¬ x = y | .ne => x = y | .lt => ¬ x < y | .ge => x < y | .gt => ¬ y < x | .le => y < x
theorem cT_cF (cd : ClassFile.Cond) (x y : Int32) : (if_icmp.holds cd x y = true ∧ cT cd x y) ∨ (if_icmp.holds cd x y = false ∧ cF cd x y) := by
  cases cd <;> simp only [cT, cF]
  · by_cases q : x = y
    · exact Or.inl ⟨(teq q).1, q⟩
    · exact Or.inr ⟨(feq q).1, q⟩
  · by_cases q : x = y
    · exact Or.inr ⟨(teq q).2, q⟩
    · exact Or.inl ⟨(feq q).2, q⟩
  all_goals first
    | (by_cases q : x < y
       · first | exact Or.inl ⟨(tlt q).1, q⟩ | exact Or.inr ⟨(tlt q).2.1, q⟩
       · first | exact Or.inr ⟨(flt q).1, q⟩ | exact Or.inl ⟨(flt q).2.1, q⟩)
    | (by_cases q : y < x
       · first | exact Or.inl ⟨(tlt q).2.2.1, q⟩ | exact Or.inr ⟨(tlt q).2.2.2, q⟩
       · first | exact Or.inr ⟨(flt q).2.2.1, q⟩ | exact Or.inl ⟨(flt q).2.2.2, q⟩)
def lT (cd : ClassFile.Cond) (x y : Int64) : Prop := match cd with | .eq => x = y | .ne => ¬ x = y | .lt => x < y | .ge => ¬ x < y | .gt => y < x | .le => ¬ y < x
def lF (cd : ClassFile.Cond) (x y : Int64) : Prop := match cd with | .eq => ¬ x = y | .ne => x = y | .lt => ¬ x < y | .ge => x < y | .gt => ¬ y < x | .le => y < x
theorem cmpL_W (x y : Int64) : XT.cmpL x y = lcmpW x y := rfl
theorem lT_lF (cd : ClassFile.Cond) (x y : Int64) : (if_icmp.holds cd (XT.cmpL x y) 0 = true ∧ lT cd x y) ∨ (if_icmp.holds cd (XT.cmpL x y) 0 = false ∧ lF cd x y) := by
  rw [cmpL_W]
  rcases cT_cF cd (lcmpW x y) 0 with ⟨a, b⟩ | ⟨a, b⟩
  · refine Or.inl ⟨a, ?_⟩
    cases cd <;> simp only [cT, lT] at b ⊢
    all_goals first | exact (lw_eq x y).mp b | exact fun q => b ((lw_eq x y).mpr q) | exact (lw_lt x y).mp b | exact fun q => b ((lw_lt x y).mpr q) | exact (lw_gt x y).mp b | exact fun q => b ((lw_gt x y).mpr q)
  · refine Or.inr ⟨a, ?_⟩
    cases cd <;> simp only [cF, lF] at b ⊢
    all_goals first | exact (lw_eq x y).mp b | exact fun q => b ((lw_eq x y).mpr q) | exact (lw_lt x y).mp b | exact fun q => b ((lw_lt x y).mpr q) | exact (lw_gt x y).mp b | exact fun q => b ((lw_gt x y).mpr q)
def DecB (b : ByteArray) (pc : Nat) (i : Instr) (o : Int) (t : Nat) : Bool := decide (decode b pc = .ok (i, 3)) && (decide (0 ≤ (pc : Int) + o) && decide (((pc : Int) + o).toNat = t))
theorem DecB.spec {b : ByteArray} {i : Instr} {o : Int} {t : Nat} (hD : DecB b pc i o t = true) : decode b pc = .ok (i, 3) ∧ 0 ≤ (pc : Int) + o ∧ ((pc : Int) + o).toNat = t := by
  simpa only [DecB, Bool.and_eq_true, decide_eq_true_eq] using hD
theorem Wk.icmp (X : Wk Z l p e R s m args below meth c own nm bytes maxL ret n0 T h cells slots) (cd : ClassFile.Cond) (o : Int) (t f : Nat) {x y : Int32} (hD : (DecB bytes pc (.if_icmp cd o) o t && pc + 3 == f) = true)
    (ky : cT cd x y → Go p e below s R n0 Q (T.setTop (mkF m t ls rest))) (kn : cF cd x y → Go p e below s R n0 Q (T.setTop (mkF m f ls rest))) : Go p e below s R n0 Q (T.setTop (mkF m pc ls (.int y :: .int x :: rest))) := by
  obtain ⟨⟨locs, Y, N⟩, eT, hn, hx, hZ, hown, hby, r⟩ := X
  simp only [Bool.and_eq_true, beq_iff_eq] at hD
  obtain ⟨hD, rfl⟩ := hD
  obtain ⟨hd, h1, h2⟩ := DecB.spec hD
  rcases cT_cF cd x y with ⟨a, b⟩ | ⟨a, b⟩
  · exact (ky b).lift fun _ k => XS.icmpYes Y.here hx rfl (pc0 := pc) (pc' := t) rfl (hb hby hd) rfl a h1 h2 k
  · exact (kn b).lift fun _ k => XS.icmpNo Y.here hx rfl (hb hby hd) rfl a k
theorem Wk.ifc (X : Wk Z l p e R s m args below meth c own nm bytes maxL ret n0 T h cells slots) (cd : ClassFile.Cond) (o : Int) (t f : Nat) {x : Int32} (hD : (DecB bytes pc (.ifCond cd o) o t && pc + 3 == f) = true)
    (ky : cT cd x 0 → Go p e below s R n0 Q (T.setTop (mkF m t ls rest))) (kn : cF cd x 0 → Go p e below s R n0 Q (T.setTop (mkF m f ls rest))) : Go p e below s R n0 Q (T.setTop (mkF m pc ls (.int x :: rest))) := by
  obtain ⟨⟨locs, Y, N⟩, eT, hn, hx, hZ, hown, hby, r⟩ := X
  simp only [Bool.and_eq_true, beq_iff_eq] at hD
  obtain ⟨hD, rfl⟩ := hD
  obtain ⟨hd, h1, h2⟩ := DecB.spec hD
  rcases cT_cF cd x 0 with ⟨a, b⟩ | ⟨a, b⟩
  · exact (ky b).lift fun _ k => XS.ifYes Y.here hx rfl (pc0 := pc) (pc' := t) rfl (hb hby hd) rfl ((if0 _ _).trans a) h1 h2 k
  · exact (kn b).lift fun _ k => XS.ifNo Y.here hx rfl (hb hby hd) rfl ((if0 _ _).trans a) k
theorem Wk.lcmp (X : Wk Z l p e R s m args below meth c own nm bytes maxL ret n0 T h cells slots) (cd : ClassFile.Cond) (o : Int) (t f : Nat) {x y : Int64} (hD : (decide (decode bytes pc = .ok (.lcmp, 1)) && (DecB bytes (pc + 1) (.ifCond cd o) o t && pc + 4 == f)) = true)
    (ky : lT cd x y → Go p e below s R n0 Q (T.setTop (mkF m t ls rest))) (kn : lF cd x y → Go p e below s R n0 Q (T.setTop (mkF m f ls rest))) : Go p e below s R n0 Q (T.setTop (mkF m pc ls (.long y :: .long x :: rest))) := by
  obtain ⟨⟨locs, Y, N⟩, eT, hn, hx, hZ, hown, hby, r⟩ := X
  simp only [Bool.and_eq_true, beq_iff_eq, decide_eq_true_eq] at hD
  obtain ⟨hL, hD, rfl⟩ := hD
  obtain ⟨hd, h1, h2⟩ := DecB.spec hD
  rcases lT_lF cd x y with ⟨a, b⟩ | ⟨a, b⟩
  · exact (ky b).lift fun _ k => XT.lcmp Y.here hx rfl (hb hby hL) rfl (XS.ifYes Y.here hx rfl (pc0 := pc + 1) (pc' := t) rfl (hb hby hd) rfl ((if0 _ _).trans a) h1 h2 k)
  · exact (kn b).lift fun _ k => XT.lcmp Y.here hx rfl (hb hby hL) rfl (XS.ifNo Y.here hx rfl (hb hby hd) rfl ((if0 _ _).trans a) k)
theorem Wk.ifnullY (X : Wk Z l p e R s m args below meth c own nm bytes maxL ret n0 T h cells slots) (o : Int) (t : Nat) (hD : DecB bytes pc (.ifnull o) o t = true) (k : Go p e below s R n0 Q (T.setTop (mkF m t ls rest))) : Go p e below s R n0 Q (T.setTop (mkF m pc ls (.null :: rest))) := by
  obtain ⟨⟨locs, Y, N⟩, eT, hn, hx, hZ, hown, hby, r⟩ := X
  obtain ⟨hd, h1, h2⟩ := DecB.spec hD
  exact k.lift fun _ k => XS.ifnullYes Y.here hx rfl (pc0 := pc) (pc' := t) rfl (hb hby hd) rfl h1 h2 k
theorem Wk.ifnullN (X : Wk Z l p e R s m args below meth c own nm bytes maxL ret n0 T h cells slots) (o : Int) (f : Nat) {a : Addr} (hD : (decide (decode bytes pc = .ok (.ifnull o, 3)) && pc + 3 == f) = true) (k : Go p e below s R n0 Q (T.setTop (mkF m f ls rest))) : Go p e below s R n0 Q (T.setTop (mkF m pc ls (.ref a :: rest))) := by
  obtain ⟨⟨locs, Y, N⟩, eT, hn, hx, hZ, hown, hby, r⟩ := X
  simp only [Bool.and_eq_true, beq_iff_eq, decide_eq_true_eq] at hD
  obtain ⟨hd, rfl⟩ := hD
  exact k.lift fun _ k => XS.ifnullNo Y.here hx rfl (hb hby hd) rfl k
theorem Wk.ifnnY (X : Wk Z l p e R s m args below meth c own nm bytes maxL ret n0 T h cells slots) (o : Int) (t : Nat) {a : Addr} (hD : DecB bytes pc (.ifnonnull o) o t = true) (k : Go p e below s R n0 Q (T.setTop (mkF m t ls rest))) : Go p e below s R n0 Q (T.setTop (mkF m pc ls (.ref a :: rest))) := by
  obtain ⟨⟨locs, Y, N⟩, eT, hn, hx, hZ, hown, hby, r⟩ := X
  obtain ⟨hd, h1, h2⟩ := DecB.spec hD
  exact k.lift fun _ k => XT.ifnonnullYes Y.here hx rfl (pc0 := pc) (pc' := t) rfl (hb hby hd) rfl h1 h2 k
theorem Wk.ifnnN (X : Wk Z l p e R s m args below meth c own nm bytes maxL ret n0 T h cells slots) (o : Int) (f : Nat) (hD : (decide (decode bytes pc = .ok (.ifnonnull o, 3)) && pc + 3 == f) = true) (k : Go p e below s R n0 Q (T.setTop (mkF m f ls rest))) : Go p e below s R n0 Q (T.setTop (mkF m pc ls (.null :: rest))) := by
  obtain ⟨⟨locs, Y, N⟩, eT, hn, hx, hZ, hown, hby, r⟩ := X
  simp only [Bool.and_eq_true, beq_iff_eq, decide_eq_true_eq] at hD
  obtain ⟨hd, rfl⟩ := hD
  exact k.lift fun _ k => XT.ifnonnullNo Y.here hx rfl (hb hby hd) rfl k
/-- two references that differ: if_acmpne is taken, if_acmpeq isn't -/
theorem Wk.acmpNeT (X : Wk Z l p e R s m args below meth c own nm bytes maxL ret n0 T h cells slots) (o : Int) (t : Nat) {a b : Addr} (hne : a ≠ b) (hD : DecB bytes pc (.if_acmp .ne o) o t = true) (k : Go p e below s R n0 Q (T.setTop (mkF m t ls rest))) : Go p e below s R n0 Q (T.setTop (mkF m pc ls (.ref b :: .ref a :: rest))) := by
  obtain ⟨⟨locs, Y, N⟩, eT, hn, hx, hZ, hown, hby, r⟩ := X
  obtain ⟨hd, h1, h2⟩ := DecB.spec hD
  exact k.lift fun _ k => XT.acmpYes Y.here hx rfl (pc0 := pc) (pc' := t) rfl (hb hby hd) rfl rfl rfl (by simp [XT.acmp, hne]) h1 h2 k
theorem Wk.acmpEqF (X : Wk Z l p e R s m args below meth c own nm bytes maxL ret n0 T h cells slots) (o : Int) (f : Nat) {a b : Addr} (hne : a ≠ b) (hD : (decide (decode bytes pc = .ok (.if_acmp .eq o, 3)) && pc + 3 == f) = true) (k : Go p e below s R n0 Q (T.setTop (mkF m f ls rest))) : Go p e below s R n0 Q (T.setTop (mkF m pc ls (.ref b :: .ref a :: rest))) := by
  obtain ⟨⟨locs, Y, N⟩, eT, hn, hx, hZ, hown, hby, r⟩ := X
  simp only [Bool.and_eq_true, beq_iff_eq, decide_eq_true_eq] at hD
  obtain ⟨hd, rfl⟩ := hD
  exact k.lift fun _ k => XT.acmpNo Y.here hx rfl (hb hby hd) rfl rfl rfl (by simp [XT.acmp, hne]) k
/-! division -/
def De (b : ByteArray) (pc : Nat) (i : Instr) (n pc' : Nat) : Bool := decide (decode b pc = .ok (i, n)) && pc + n == pc'
theorem De.spec {b : ByteArray} {i : Instr} {n pc' : Nat} (hD : De b pc i n pc' = true) : decode b pc = .ok (i, n) ∧ pc + n = pc' := by
  simpa only [De, Bool.and_eq_true, decide_eq_true_eq, beq_iff_eq] using hD
theorem Wk.irem (X : Wk Z l p e R s m args below meth c own nm bytes maxL ret n0 T h cells slots) (pc' : Nat) {x y : Int32} (hD : De bytes pc .irem 1 pc' = true) (hy : y ≠ 0) (k : Go p e below s R n0 Q (T.setTop (mkF m pc' ls (.int (x % y) :: rest)))) : Go p e below s R n0 Q (T.setTop (mkF m pc ls (.int y :: .int x :: rest))) := by
  obtain ⟨⟨locs, Y, N⟩, eT, hn, hx, hZ, hown, hby, r⟩ := X
  obtain ⟨hd, rfl⟩ := De.spec hD
  exact k.lift fun _ k => iremM Y hx rfl (hb hby hd) rfl hy k
theorem Wk.idiv (X : Wk Z l p e R s m args below meth c own nm bytes maxL ret n0 T h cells slots) (pc' : Nat) {x y : Int32} (hD : De bytes pc .idiv 1 pc' = true) (hy : y ≠ 0) (k : Go p e below s R n0 Q (T.setTop (mkF m pc' ls (.int (x / y) :: rest)))) : Go p e below s R n0 Q (T.setTop (mkF m pc ls (.int y :: .int x :: rest))) := by
  obtain ⟨⟨locs, Y, N⟩, eT, hn, hx, hZ, hown, hby, r⟩ := X
  obtain ⟨hd, rfl⟩ := De.spec hD
  exact k.lift fun _ k => XS.idiv Y.here hx rfl (hb hby hd) rfl hy k
theorem Wk.ldiv (X : Wk Z l p e R s m args below meth c own nm bytes maxL ret n0 T h cells slots) (pc' : Nat) {x y : Int64} (hD : De bytes pc .ldiv 1 pc' = true) (hy : y ≠ 0) (k : Go p e below s R n0 Q (T.setTop (mkF m pc' ls (.long (x / y) :: rest)))) : Go p e below s R n0 Q (T.setTop (mkF m pc ls (.long y :: .long x :: rest))) := by
  obtain ⟨⟨locs, Y, N⟩, eT, hn, hx, hZ, hown, hby, r⟩ := X
  obtain ⟨hd, rfl⟩ := De.spec hD
  exact k.lift fun _ k => XT.ldiv Y.here hx rfl (hb hby hd) rfl hy k
theorem Wk.lrem (X : Wk Z l p e R s m args below meth c own nm bytes maxL ret n0 T h cells slots) (pc' : Nat) {x y : Int64} (hD : De bytes pc .lrem 1 pc' = true) (hy : y ≠ 0) (k : Go p e below s R n0 Q (T.setTop (mkF m pc' ls (.long (x % y) :: rest)))) : Go p e below s R n0 Q (T.setTop (mkF m pc ls (.long y :: .long x :: rest))) := by
  obtain ⟨⟨locs, Y, N⟩, eT, hn, hx, hZ, hown, hby, r⟩ := X
  obtain ⟨hd, rfl⟩ := De.spec hD
  exact k.lift fun _ k => XT.lrem Y.here hx rfl (hb hby hd) rfl hy (by rw [lrem_mod]; exact k)
/-! returns -/
theorem Wk.retG (X : Wk Z l p e R s m args below meth c own nm bytes maxL ret n0 T h cells slots) {i : Instr} {t : FieldType} {w : Value} (hd : decode bytes pc = .ok (i, 1)) (hret : ret = some t) (hnw : narrow t w = w)
    (hi : (i = .ireturn ∧ (t = .int ∨ t = .boolean ∨ t = .byte ∨ t = .char ∨ t = .short) ∧ ∃ z, w = .int z) ∨ (i = .lreturn ∧ t = .long ∧ ∃ z, w = .long z) ∨ (i = .dreturn ∧ t = .double ∧ ∃ z, w = .double z) ∨ (i = .freturn ∧ t = .float ∧ ∃ z, w = .float z) ∨ (i = .areturn ∧ t.isReference = true ∧ w.isRef = true))
    (hc : cells ≤ R.cells) (hs : slots ≤ R.slots) (hq : Q (some w) h) : Go p e below s R n0 Q (T.setTop (mkF m pc ls (w :: rest))) := by
  obtain ⟨⟨locs, Y, N⟩, eT, hn, hx, hZ, hown, hby, hml, hr, hlk, hnm⟩ := X
  obtain ⟨fs, hl, hrun, hended, hW, hsame⟩ := Y.leave (v := some w) (fun q => by rw [hr, hret] at q; cases q) hlk
  refine ⟨T.setFrames fs, some w, locs, retOut Y hx (hr.trans hret) hnw hi (hb hby hd) hl, hrun, hended, ⟨?_, ?_, N⟩, ⟨_, rfl⟩, hW, hsame.mono hc hs⟩
  · show Q (some w) T.heap
    rw [eT]; exact hq
  · show n0 ≤ T.heap.size
    rw [eT]; exact hn
theorem Wk.retI (X : Wk Z l p e R s m args below meth c own nm bytes maxL (some .int) n0 T h cells slots) {z : Int32} (hd : decode bytes pc = .ok (.ireturn, 1)) (hc : cells ≤ R.cells) (hs : slots ≤ R.slots) (hq : Q (some (.int z)) h) : Go p e below s R n0 Q (T.setTop (mkF m pc ls (.int z :: rest))) :=
  X.retG hd rfl rfl (Or.inl ⟨rfl, Or.inl rfl, z, rfl⟩) hc hs hq
theorem Wk.retL (X : Wk Z l p e R s m args below meth c own nm bytes maxL (some .long) n0 T h cells slots) {z : Int64} (hd : decode bytes pc = .ok (.lreturn, 1)) (hc : cells ≤ R.cells) (hs : slots ≤ R.slots) (hq : Q (some (.long z)) h) : Go p e below s R n0 Q (T.setTop (mkF m pc ls (.long z :: rest))) :=
  X.retG hd rfl rfl (Or.inr (Or.inl ⟨rfl, rfl, z, rfl⟩)) hc hs hq
theorem Wk.retA (X : Wk Z l p e R s m args below meth c own nm bytes maxL ret n0 T h cells slots) {t : FieldType} {w : Value} (hd : decode bytes pc = .ok (.areturn, 1)) (hret : ret = some t) (ht : t.isReference = true) (hw : w.isRef = true) (hc : cells ≤ R.cells) (hs : slots ≤ R.slots) (hq : Q (some w) h) : Go p e below s R n0 Q (T.setTop (mkF m pc ls (w :: rest))) :=
  X.retG hd hret (by rcases ref_cases hw with rfl | ⟨z, rfl⟩ <;> cases t <;> first | rfl | simp [FieldType.isReference] at ht) (Or.inr (Or.inr (Or.inr (Or.inr ⟨rfl, ht, hw⟩)))) hc hs hq
theorem Wk.retZ (X : Wk Z l p e R s m args below meth c own nm bytes maxL (some .boolean) n0 T h cells slots) {z : Int32} (hd : decode bytes pc = .ok (.ireturn, 1)) (hc : cells ≤ R.cells) (hs : slots ≤ R.slots) (hz : z = 0 ∨ z = 1) (hq : Q (some (.int z)) h) : Go p e below s R n0 Q (T.setTop (mkF m pc ls (.int z :: rest))) :=
  X.retG hd rfl (by rcases hz with rfl | rfl <;> rfl) (Or.inl ⟨rfl, Or.inr (Or.inl rfl), z, rfl⟩) hc hs hq
theorem Wk.retV (X : Wk Z l p e R s m args below meth c own nm bytes maxL none n0 T h cells slots) (hd : decode bytes pc = .ok (.return_, 1)) (hc : cells ≤ R.cells) (hs : slots ≤ R.slots) (hq : Q none h) : Go p e below s R n0 Q (T.setTop (mkF m pc ls [])) := by
  obtain ⟨⟨locs, Y, N⟩, eT, hn, hx, hZ, hown, hby, hml, hr, hlk, hnm⟩ := X
  obtain ⟨fs, hl, hrun, hended, hW, hsame⟩ := Y.leave (v := none) (fun _ => rfl) hlk
  refine ⟨T.setFrames fs, none, locs, Y.returnOut hx hr (hb hby hd) hl, hrun, hended, ⟨?_, ?_, N⟩, ⟨_, rfl⟩, hW, hsame.mono hc hs⟩
  · show Q none T.heap
    rw [eT]; exact hq
  · show n0 ≤ T.heap.size
    rw [eT]; exact hn
/-! arrays: all their components by a list -/
def AV (Z : State) (h : Heap) (a : Addr) (ty : FieldType) (vs : List Value) : Prop := ∃ cl : Cell, Arr Z h a cl ty ∧ cl.slots.toList = vs ∧ vs.length < 2 ^ 31 ∧ (∀ v ∈ vs, fits ty v = true) ∧ Exa Z h a ("[" ++ ty.toString)
theorem AV.lt {a : Addr} {ty : FieldType} {vs : List Value} (A : AV Z h a ty vs) : a < h.size := by obtain ⟨cl, A, -⟩ := A; exact A.lt
theorem AV.ext {h' : Heap} {a : Addr} {ty : FieldType} {vs : List Value} (A : AV Z h a ty vs) (E : Ext h h') : AV Z h' a ty vs := by obtain ⟨cl, A, q1, q2, q3, q4⟩ := A; exact ⟨cl, A.ext E, q1, q2, q3, q4.ext E⟩
theorem AV.other {h' : Heap} {a b : Addr} {sl : Nat} {v : Value} {ty : FieldType} {vs : List Value} (A : AV Z h a ty vs) (W : Wr h h' b sl v) (ne : a ≠ b) : AV Z h' a ty vs := by obtain ⟨cl, A, q1, q2, q3, q4⟩ := A; exact ⟨cl, A.other W ne, q1, q2, q3, q4.wr W⟩
theorem AV.keep {h' : Heap} {a : Addr} {ws : List Addr} {ty : FieldType} {vs : List Value} (A : AV Z h a ty vs) (K : Keep h h' ws) (ne : a ∉ ws) : AV Z h' a ty vs := by obtain ⟨cl, A, q1, q2, q3, q4⟩ := A; exact ⟨cl, ⟨K.2.1 a cl A.1 ne, A.2⟩, q1, q2, q3, q4.keep K⟩
theorem AV.arv {a : Addr} {ty : FieldType} {vs : List Value} (A : AV Z h a ty vs) (d : Value) : ∃ k, Arv Z h a k ty vs.length.toInt32 vs d := by
  obtain ⟨cl, A, rfl, q2, q3, q4⟩ := A
  have hz : ¬ cl.slots.toList.length.toInt32 < 0 := by rw [Int32.lt_iff_toInt_lt, len_toInt q2]; show ¬ ((_ : Int) < (0 : Int)); omega
  have hs : cl.slots.size = cl.slots.toList.length.toInt32.toNatClampNeg := by
    have := nat_of hz; rw [len_toInt q2] at this; simp only [Array.length_toList] at *; omega
  refine ⟨cl.cls, cl, A, rfl, hs, hz, fun i hi => ?_, fun i hi => ?_⟩
  · rw [List.getD_eq_getElem?_getD, Array.getElem?_toList, Array.getElem?_eq_getElem hi]; rfl
  · rw [List.getD_eq_getElem?_getD, Array.getElem?_toList, Array.getElem?_eq_getElem hi]; exact q3 _ (by simp)
theorem AV.of_arv {a : Addr} {k : ClassId} {ty : FieldType} {vs : List Value} {d : Value} {z : Int32} (A : Arv Z h a k ty z vs d) (hl : z.toNatClampNeg = vs.length) (E : Exa Z h a ("[" ++ ty.toString)) : AV Z h a ty vs := by
  obtain ⟨cl, A, -, S, hz, H, G⟩ := A
  have e : cl.slots.toList = vs := by
    refine List.ext_getElem? fun i => ?_
    rw [Array.getElem?_toList]
    by_cases hi : i < cl.slots.size
    · rw [H i hi, List.getD_eq_getElem?_getD, List.getElem?_eq_getElem (by omega)]; rfl
    · rw [Array.getElem?_eq_none (by omega), List.getElem?_eq_none (by omega)]
  refine ⟨cl, A, e, by rw [← hl]; exact (back32 hz).2, fun v hv => ?_, E⟩
  obtain ⟨i, hi, rfl⟩ := List.getElem_of_mem hv
  have q := G i (by omega)
  rwa [List.getD_eq_getElem?_getD, List.getElem?_eq_getElem hi] at q
theorem AV.exa {a : Addr} {ty : FieldType} {vs : List Value} (A : AV Z h a ty vs) : Exa Z h a ("[" ++ ty.toString) := by obtain ⟨cl, -, -, -, -, E⟩ := A; exact E
theorem fits_default {ty : FieldType} : fits ty (defaultValue ty) = true := by cases ty <;> rfl
theorem Wk.newarr (X : Wk Z l p e R s m args below meth c own nm bytes maxL ret n0 T h cells slots) (pc' cap : Nat) {aty : ArrayType} {ty : FieldType} {n : Int32} (w : (Jvm.Cond.arrayClass ty).before a0 Z = true) (hty : newarray.typeOf aty = ty) (hD : De bytes pc (.newarray aty) 2 pc' = true) (hn : ¬ n < 0) (hcap : n.toNatClampNeg ≤ cap) (hrm : (decide (cap * 8 ≤ 536870912) && (decide (cells + 1 ≤ R.cells) && decide (slots + cap ≤ R.slots))) = true)
    (k : ∀ T' h', Wk Z l p e R s m args below meth c own nm bytes maxL ret n0 T' h' (cells + 1) (slots + cap) → Ext h h' → AV Z h' h.size ty (List.replicate n.toNatClampNeg (defaultValue ty)) → Go p e below s R n0 Q (T'.setTop (mkF m pc' ls (.ref h.size :: rest)))) : Go p e below s R n0 Q (T.setTop (mkF m pc ls (.int n :: rest))) := by
  obtain ⟨⟨locs, Y, N⟩, eT, hn0, hx, hZ, hown, hby, hml, hrt, hlk, hnm⟩ := X
  obtain ⟨hd, rfl⟩ := De.spec hD
  subst hty
  simp only [Bool.and_eq_true, decide_eq_true_eq] at hrm
  obtain ⟨T', h', cA, Y', e', E, A, E2, stp⟩ := newPE Y hx hZ w eT (g := mkF m pc ls (.int n :: rest)) rfl (hb hby hd) rfl hn hcap hrm.1 hrm.2.1 hrm.2.2 (ad := "[" ++ (newarray.typeOf aty).toString) rfl
  refine (k T' h' ⟨⟨locs, Y', N⟩, e', Nat.le_trans hn0 E.1, hx, hZ, hown, hby, hml, hrt, hlk, hnm⟩ E ⟨_, A, by simp [newA], ?_, ?_, E2⟩).lift stp
  · rw [List.length_replicate]; exact (back32 hn).2
  · intro v hv
    rw [(List.mem_replicate.mp hv).2]; exact fits_default
theorem Wk.baload (X : Wk Z l p e R s m args below meth c own nm bytes maxL ret n0 T h cells slots) (pc' : Nat) {a : Addr} {vs : List Value} {j : Int32} {v : Value} (A : AV Z h a .byte vs) (hD : De bytes pc .baload 1 pc' = true) (hj : ¬ j < 0) (hv : vs[j.toNatClampNeg]? = some v) (k : Go p e below s R n0 Q (T.setTop (mkF m pc' ls (v :: rest)))) : Go p e below s R n0 Q (T.setTop (mkF m pc ls (.int j :: .ref a :: rest))) := by
  obtain ⟨⟨locs, Y, N⟩, eT, hn, hx, hZ, hown, hby, hml, hrt, hlk, hnm⟩ := X
  obtain ⟨hd, rfl⟩ := De.spec hD
  obtain ⟨cl, A, rfl, q2, q3, q4⟩ := A
  rw [Array.getElem?_toList] at hv
  have hlt := (Array.getElem?_eq_some_iff.mp hv).1
  exact k.lift fun t k => Y.baloadBytes hx (by rw [eT]; exact A.1) (State.isArrayOf_alike hZ.alike A.2.1) A.2.2 (fun q => q.elim hj fun q => absurd hlt (Nat.not_lt.mpr q)) hv (g := mkF m pc ls (.int j :: .ref a :: rest)) rfl rfl (hb hby hd) t k
theorem Wk.iaload (X : Wk Z l p e R s m args below meth c own nm bytes maxL ret n0 T h cells slots) (pc' : Nat) {a : Addr} {vs : List Value} {j : Int32} {v : Value} (A : AV Z h a .int vs) (hD : De bytes pc .iaload 1 pc' = true) (hj : ¬ j < 0) (hv : vs[j.toNatClampNeg]? = some v) (k : Go p e below s R n0 Q (T.setTop (mkF m pc' ls (v :: rest)))) : Go p e below s R n0 Q (T.setTop (mkF m pc ls (.int j :: .ref a :: rest))) := by
  obtain ⟨⟨locs, Y, N⟩, eT, hn, hx, hZ, hown, hby, hml, hrt, hlk, hnm⟩ := X
  obtain ⟨hd, rfl⟩ := De.spec hD
  obtain ⟨cl, A, rfl, q2, q3, q4⟩ := A
  rw [Array.getElem?_toList] at hv
  have hlt := (Array.getElem?_eq_some_iff.mp hv).1
  exact k.lift fun t k => Y.iaload hx (by rw [eT]; exact A.1) (State.isArrayOf_alike hZ.alike A.2.1) A.2.2 (fun q => q.elim hj fun q => absurd hlt (Nat.not_lt.mpr q)) hv (g := mkF m pc ls (.int j :: .ref a :: rest)) rfl rfl (hb hby hd) t k
theorem Wk.laload (X : Wk Z l p e R s m args below meth c own nm bytes maxL ret n0 T h cells slots) (pc' : Nat) {a : Addr} {vs : List Value} {j : Int32} {v : Value} (A : AV Z h a .long vs) (hD : De bytes pc .laload 1 pc' = true) (hj : ¬ j < 0) (hv : vs[j.toNatClampNeg]? = some v) (k : Go p e below s R n0 Q (T.setTop (mkF m pc' ls (v :: rest)))) : Go p e below s R n0 Q (T.setTop (mkF m pc ls (.int j :: .ref a :: rest))) := by
  obtain ⟨⟨locs, Y, N⟩, eT, hn, hx, hZ, hown, hby, hml, hrt, hlk, hnm⟩ := X
  obtain ⟨hd, rfl⟩ := De.spec hD
  obtain ⟨cl, A, rfl, q2, q3, q4⟩ := A
  rw [Array.getElem?_toList] at hv
  have hlt := (Array.getElem?_eq_some_iff.mp hv).1
  exact k.lift fun t k => Y.laload hx (by rw [eT]; exact A.1) (State.isArrayOf_alike hZ.alike A.2.1) A.2.2 (fun q => q.elim hj fun q => absurd hlt (Nat.not_lt.mpr q)) hv (g := mkF m pc ls (.int j :: .ref a :: rest)) rfl rfl (hb hby hd) t k
theorem Wk.saload (X : Wk Z l p e R s m args below meth c own nm bytes maxL ret n0 T h cells slots) (pc' : Nat) {a : Addr} {vs : List Value} {j : Int32} {v : Value} (A : AV Z h a .short vs) (hD : De bytes pc .saload 1 pc' = true) (hj : ¬ j < 0) (hv : vs[j.toNatClampNeg]? = some v) (k : Go p e below s R n0 Q (T.setTop (mkF m pc' ls (v :: rest)))) : Go p e below s R n0 Q (T.setTop (mkF m pc ls (.int j :: .ref a :: rest))) := by
  obtain ⟨⟨locs, Y, N⟩, eT, hn, hx, hZ, hown, hby, hml, hrt, hlk, hnm⟩ := X
  obtain ⟨hd, rfl⟩ := De.spec hD
  obtain ⟨cl, A, rfl, q2, q3, q4⟩ := A
  rw [Array.getElem?_toList] at hv
  have hlt := (Array.getElem?_eq_some_iff.mp hv).1
  exact k.lift fun t k => Y.saload hx (by rw [eT]; exact A.1) (State.isArrayOf_alike hZ.alike A.2.1) A.2.2 (fun q => q.elim hj fun q => absurd hlt (Nat.not_lt.mpr q)) hv (g := mkF m pc ls (.int j :: .ref a :: rest)) rfl rfl (hb hby hd) t k
theorem Wk.alen (X : Wk Z l p e R s m args below meth c own nm bytes maxL ret n0 T h cells slots) (pc' : Nat) {a : Addr} {vs : List Value} {ty : FieldType} {n : Int32} (A : AV Z h a ty vs) (hD : De bytes pc .arraylength 1 pc' = true) (hl : vs.length.toInt32 = n) (k : Go p e below s R n0 Q (T.setTop (mkF m pc' ls (.int n :: rest)))) : Go p e below s R n0 Q (T.setTop (mkF m pc ls (.ref a :: rest))) := by
  obtain ⟨⟨locs, Y, N⟩, eT, hn, hx, hZ, hown, hby, hml, hrt, hlk, hnm⟩ := X
  obtain ⟨hd, rfl⟩ := De.spec hD
  obtain ⟨cl, A, rfl, q2, q3, q4⟩ := A
  subst hl
  exact k.lift fun t k => Y.arraylength hx (by rw [eT]; exact A.1) (State.isArrayOf_alike hZ.alike A.2.1) (g := mkF m pc ls (.ref a :: rest)) rfl rfl (hb hby hd) t (by simpa using k)
theorem Wk.bastore (X : Wk Z l p e R s m args below meth c own nm bytes maxL ret n0 T h cells slots) (pc' : Nat) {a : Addr} {vs : List Value} {j : Int32} {x x' : Int32} (hx' : nar .byte x = x') (A : AV Z h a .byte vs) (hD : De bytes pc .bastore 1 pc' = true) (hj : ¬ j < 0) (hl : j.toNatClampNeg < vs.length) (ha : n0 ≤ a)
    (k : ∀ T' h', Wk Z l p e R s m args below meth c own nm bytes maxL ret n0 T' h' cells slots → Wr h h' a j.toNatClampNeg (.int x') → AV Z h' a .byte (vs.set j.toNatClampNeg (.int x')) → Go p e below s R n0 Q (T'.setTop (mkF m pc' ls rest))) : Go p e below s R n0 Q (T.setTop (mkF m pc ls (.int x :: .int j :: .ref a :: rest))) := by
  obtain ⟨⟨locs, Y, N⟩, eT, hn, hx, hZ, hown, hby, hml, hrt, hlk, hnm⟩ := X
  obtain ⟨hd, rfl⟩ := De.spec hD
  obtain ⟨cl, A, rfl, q2, q3, q4⟩ := A
  subst hx'
  rw [Array.length_toList] at hl
  obtain ⟨T', h', Y', e', W, stp⟩ := stB Y hx hZ eT A (fun q => q.elim hj fun q => absurd hl (Nat.not_lt.mpr q)) (g := mkF m pc ls (.int x :: .int j :: .ref a :: rest)) rfl rfl (hb hby hd)
  refine (k T' h' ⟨⟨_, Y', Fr.snoc Y' N ha⟩, e', by rw [W.size]; exact hn, hx, hZ, hown, hby, hml, hrt, hlk, hnm⟩ W ⟨_, Arr.same W A, by simp [Cell.setSlot], by simpa using q2, fun v hv => ?_, q4.wr W⟩).lift stp
  rcases List.mem_or_eq_of_mem_set hv with q | rfl
  · exact q3 _ q
  · exact fits_nar_byte _
theorem Wk.iastore (X : Wk Z l p e R s m args below meth c own nm bytes maxL ret n0 T h cells slots) (pc' : Nat) {a : Addr} {vs : List Value} {j : Int32} {x : Int32} (A : AV Z h a .int vs) (hD : De bytes pc .iastore 1 pc' = true) (hj : ¬ j < 0) (hl : j.toNatClampNeg < vs.length) (ha : n0 ≤ a)
    (k : ∀ T' h', Wk Z l p e R s m args below meth c own nm bytes maxL ret n0 T' h' cells slots → Wr h h' a j.toNatClampNeg (.int x) → AV Z h' a .int (vs.set j.toNatClampNeg (.int x)) → Go p e below s R n0 Q (T'.setTop (mkF m pc' ls rest))) : Go p e below s R n0 Q (T.setTop (mkF m pc ls (.int x :: .int j :: .ref a :: rest))) := by
  obtain ⟨⟨locs, Y, N⟩, eT, hn, hx, hZ, hown, hby, hml, hrt, hlk, hnm⟩ := X
  obtain ⟨hd, rfl⟩ := De.spec hD
  obtain ⟨cl, A, rfl, q2, q3, q4⟩ := A
  rw [Array.length_toList] at hl
  obtain ⟨T', h', Y', e', W, stp⟩ := stI Y hx hZ eT A (fun q => q.elim hj fun q => absurd hl (Nat.not_lt.mpr q)) (g := mkF m pc ls (.int x :: .int j :: .ref a :: rest)) rfl rfl (hb hby hd)
  refine (k T' h' ⟨⟨_, Y', Fr.snoc Y' N ha⟩, e', by rw [W.size]; exact hn, hx, hZ, hown, hby, hml, hrt, hlk, hnm⟩ W ⟨_, Arr.same W A, by simp [Cell.setSlot], by simpa using q2, fun v hv => ?_, q4.wr W⟩).lift stp
  rcases List.mem_or_eq_of_mem_set hv with q | rfl
  · exact q3 _ q
  · rfl
theorem Wk.lastore (X : Wk Z l p e R s m args below meth c own nm bytes maxL ret n0 T h cells slots) (pc' : Nat) {a : Addr} {vs : List Value} {j : Int32} {x : Int64} (A : AV Z h a .long vs) (hD : De bytes pc .lastore 1 pc' = true) (hj : ¬ j < 0) (hl : j.toNatClampNeg < vs.length) (ha : n0 ≤ a)
    (k : ∀ T' h', Wk Z l p e R s m args below meth c own nm bytes maxL ret n0 T' h' cells slots → Wr h h' a j.toNatClampNeg (.long x) → AV Z h' a .long (vs.set j.toNatClampNeg (.long x)) → Go p e below s R n0 Q (T'.setTop (mkF m pc' ls rest))) : Go p e below s R n0 Q (T.setTop (mkF m pc ls (.long x :: .int j :: .ref a :: rest))) := by
  obtain ⟨⟨locs, Y, N⟩, eT, hn, hx, hZ, hown, hby, hml, hrt, hlk, hnm⟩ := X
  obtain ⟨hd, rfl⟩ := De.spec hD
  obtain ⟨cl, A, rfl, q2, q3, q4⟩ := A
  rw [Array.length_toList] at hl
  obtain ⟨T', h', Y', e', W, stp⟩ := stJ Y hx hZ eT A (fun q => q.elim hj fun q => absurd hl (Nat.not_lt.mpr q)) (g := mkF m pc ls (.long x :: .int j :: .ref a :: rest)) rfl rfl (hb hby hd)
  refine (k T' h' ⟨⟨_, Y', Fr.snoc Y' N ha⟩, e', by rw [W.size]; exact hn, hx, hZ, hown, hby, hml, hrt, hlk, hnm⟩ W ⟨_, Arr.same W A, by simp [Cell.setSlot], by simpa using q2, fun v hv => ?_, q4.wr W⟩).lift stp
  rcases List.mem_or_eq_of_mem_set hv with q | rfl
  · exact q3 _ q
  · rfl
theorem Wk.sastore (X : Wk Z l p e R s m args below meth c own nm bytes maxL ret n0 T h cells slots) (pc' : Nat) {a : Addr} {vs : List Value} {j : Int32} {x x' : Int32} (hx' : nar .short x = x') (A : AV Z h a .short vs) (hD : De bytes pc .sastore 1 pc' = true) (hj : ¬ j < 0) (hl : j.toNatClampNeg < vs.length) (ha : n0 ≤ a)
    (k : ∀ T' h', Wk Z l p e R s m args below meth c own nm bytes maxL ret n0 T' h' cells slots → Wr h h' a j.toNatClampNeg (.int x') → AV Z h' a .short (vs.set j.toNatClampNeg (.int x')) → Go p e below s R n0 Q (T'.setTop (mkF m pc' ls rest))) : Go p e below s R n0 Q (T.setTop (mkF m pc ls (.int x :: .int j :: .ref a :: rest))) := by
  obtain ⟨⟨locs, Y, N⟩, eT, hn, hx, hZ, hown, hby, hml, hrt, hlk, hnm⟩ := X
  obtain ⟨hd, rfl⟩ := De.spec hD
  obtain ⟨cl, A, rfl, q2, q3, q4⟩ := A
  subst hx'
  rw [Array.length_toList] at hl
  obtain ⟨T', h', Y', e', W, stp⟩ := stS Y hx hZ eT A (fun q => q.elim hj fun q => absurd hl (Nat.not_lt.mpr q)) (g := mkF m pc ls (.int x :: .int j :: .ref a :: rest)) rfl rfl (hb hby hd)
  refine (k T' h' ⟨⟨_, Y', Fr.snoc Y' N ha⟩, e', by rw [W.size]; exact hn, hx, hZ, hown, hby, hml, hrt, hlk, hnm⟩ W ⟨_, Arr.same W A, by simp [Cell.setSlot], by simpa using q2, fun v hv => ?_, q4.wr W⟩).lift stp
  rcases List.mem_or_eq_of_mem_set hv with q | rfl
  · exact q3 _ q
  · exact fits_nar_short _
theorem Wk.getf (X : Wk Z l p e R s m args below meth c own nm bytes maxL ret n0 T h cells slots) (pc' : Nat) {index : Nat} {O n d : String} {a : Addr} {v : Value} (w : (Jvm.Cond.fieldLink own index O n d).before a0 Z = true) (F : Fld Z h a O n d v) (hD : De bytes pc (.getfield index) 3 pc' = true)
    (k : ∀ T', Wk Z l p e R s m args below meth c own nm bytes maxL ret n0 T' h cells slots → Go p e below s R n0 Q (T'.setTop (mkF m pc' ls (v :: rest)))) : Go p e below s R n0 Q (T.setTop (mkF m pc ls (.ref a :: rest))) := by
  obtain ⟨⟨locs, Y, N⟩, eT, hn, hx, hZ, hown, hby, hml, hrt, hlk, hnm⟩ := X
  obtain ⟨hd, rfl⟩ := De.spec hD
  obtain ⟨T', Y', e', stp⟩ := getF Y hx hZ hown (host := "") (Or.inl w) Via.refl eT F (g := mkF m pc ls (.ref a :: rest)) rfl rfl (hb hby hd)
  exact (k T' ⟨⟨_, Y', N⟩, e', hn, hx, hZ, hown, hby, hml, hrt, hlk, hnm⟩).lift stp
theorem Wk.putf (X : Wk Z l p e R s m args below meth c own nm bytes maxL ret n0 T h cells slots) (pc' : Nat) {index kk : Nat} {O n d C : String} {a : Addr} {v old : Value} {ty : FieldType} (w : (Jvm.Cond.fieldLink own index O n d).before a0 Z = true) (F : Fld Z h a O n d old) (E : Exa Z h a C) (L : (Jvm.Cond.lays C O n d).before a0 Z = true ∨ ((Jvm.Cond.laysFinal C O n d).before a0 Z = true ∧ own = O ∧ nm = "<init>")) (wi : (Jvm.Cond.instantiable C kk).before a0 Z = true) (hty : parseFieldDescriptor d = some ty) (hnw : narrow ty v = v) (hf : fits ty v = true) (ha : n0 ≤ a) (hD : De bytes pc (.putfield index) 3 pc' = true)
    (k : ∀ T' h', Wk Z l p e R s m args below meth c own nm bytes maxL ret n0 T' h' cells slots → Wr h h' a (RoadKit.slotOf Z O n d) v → Go p e below s R n0 Q (T'.setTop (mkF m pc' ls rest))) : Go p e below s R n0 Q (T.setTop (mkF m pc ls (v :: .ref a :: rest))) := by
  obtain ⟨⟨locs, Y, N⟩, eT, hn, hx, hZ, hown, hby, hml, hrt, hlk, hnm⟩ := X
  obtain ⟨hd, rfl⟩ := De.spec hD
  obtain ⟨T', h', Y', e', W, stp⟩ := putF Y hx hZ hown (host := "") (Or.inl w) Via.refl eT F E (L.imp id fun q => ⟨q.1, q.2.1, hnm.trans q.2.2⟩) wi hty hnw hf (g := mkF m pc ls (v :: .ref a :: rest)) rfl rfl (hb hby hd)
  exact (k T' h' ⟨⟨_, Y', Fr.snoc Y' N ha⟩, e', by rw [W.size]; exact hn, hx, hZ, hown, hby, hml, hrt, hlk, hnm⟩ W).lift stp
theorem Wk.newobj (X : Wk Z l p e R s m args below meth c own nm bytes maxL ret n0 T h cells slots) (pc' : Nat) {index n : Nat} {C : String} (w : (Jvm.Cond.classLink own index C).before a0 Z = true) (wi : (Jvm.Cond.instantiable C n).before a0 Z = true) (wz : (Jvm.Cond.initialized C).before a0 Z = true) (hD : De bytes pc (.new index) 3 pc' = true) (hrm : (decide (cells + 1 ≤ R.cells) && decide (slots + n ≤ R.slots)) = true)
    (k : ∀ T' h', Wk Z l p e R s m args below meth c own nm bytes maxL ret n0 T' h' (cells + 1) (slots + n) → Ext h h' → Exa Z h' h.size C → (∀ {O nm d : String} {ty : FieldType}, Laid Z a0 C O nm d → parseFieldDescriptor d = some ty → Fld Z h' h.size O nm d (defaultValue ty)) → Go p e below s R n0 Q (T'.setTop (mkF m pc' ls (.ref h.size :: st)))) : Go p e below s R n0 Q (T.setTop (mkF m pc ls st)) := by
  obtain ⟨⟨locs, Y, N⟩, eT, hn, hx, hZ, hown, hby, hml, hrt, hlk, hnm⟩ := X
  obtain ⟨hd, rfl⟩ := De.spec hD
  simp only [Bool.and_eq_true, decide_eq_true_eq] at hrm
  obtain ⟨T', h', Y', e', E, A, D, -, stp⟩ := newO Y hx hZ hown w wi wz eT (g := mkF m pc ls st) rfl (hb hby hd) hrm.1 hrm.2
  exact (k T' h' ⟨⟨_, Y', N⟩, e', Nat.le_trans hn E.1, hx, hZ, hown, hby, hml, hrt, hlk, hnm⟩ E A D).lift stp
theorem Wk.initO (X : Wk Z l p e R s m args below meth c own nm bytes maxL ret n0 T h cells slots) (pc' W : Nat) {index : Nat} {a : Addr} (w1 : (Jvm.Cond.methodLink own index Lib.objectInit).before a0 Z = true) (w2 : (Jvm.Cond.instanceMethod Lib.objectInit).before a0 Z = true) (w3 : (Jvm.Cond.code Lib.objectInit ⟨#[0xb1]⟩ 1 none).before a0 Z = true) (hsz : ls.size = maxL) (hW : (rest.map fun v => v.category).sum = W) (hD : De bytes pc (.invokespecial index) 3 pc' = true) (hrm : (decide (1 ≤ R.frames) && decide (W + 12 ≤ R.locals)) = true)
    (k : ∀ T', Wk Z l p e R s m args below meth c own nm bytes maxL ret n0 T' h cells slots → Go p e below s R n0 Q (T'.setTop (mkF m pc' ls rest))) : Go p e below s R n0 Q (T.setTop (mkF m pc ls (.ref a :: rest))) := by
  obtain ⟨⟨locs, Y, N⟩, eT, hn, hx, hZ, hown, hby, hml, hrt, hlk, hnm⟩ := X
  obtain ⟨hd, rfl⟩ := De.spec hD
  simp only [Bool.and_eq_true, decide_eq_true_eq] at hrm
  obtain ⟨T', Y', e', stp⟩ := RoadKit.initO Y hx hZ hown w1 w2 w3 eT (g := mkF m pc ls (.ref a :: rest)) rfl (hsz.trans hml.symm) rfl (hb hby hd) hrm.1 (W := W) (by show 2 * 0 + _ ≤ _; omega) hrm.2
  exact (k T' ⟨⟨_, Y', N⟩, e', hn, hx, hZ, hown, hby, hml, hrt, hlk, hnm⟩).lift stp
theorem Wk.callS (X : Wk Z l p e R s m args below meth c own nm bytes maxL ret n0 T h cells slots) (pc' W : Nat) {y : MethodName} {yb : ByteArray} {yml : Nat} {yret : Option FieldType} {rm : Room} {Q' : Option Value → Heap → Prop} {argsL : List Value} {ps : List FieldType} {r : Option FieldType} {index : Nat} (K : Cnt l Z y yb yml yret rm n0 argsL.toArray h Q') (w1 : (Jvm.Cond.methodLink own index y).before a0 Z = true) (w2 : (Jvm.Cond.static y).before a0 Z = true) (w3 : (Jvm.Cond.initialized y.cls).before a0 Z = true) (w4 : (Jvm.Cond.code y yb yml yret).before a0 Z = true) (hy : (decide (y.cls ≠ "java/lang/invoke/MethodHandle") && decide (y.cls ≠ "java/lang/invoke/VarHandle")) = true) (hpd : parseMethodDescriptor y.desc = some ⟨ps, r⟩) (hlen : argsL.length = ps.length) (hst : st = argsL.reverse ++ rest) (hsz : ls.size = maxL) (hW : (rest.map fun v => v.category).sum = W) (hD : De bytes pc (.invokestatic index) 3 pc' = true) (hrm : (decide (rm.frames + 1 ≤ R.frames) && (decide (W + (yml + 11) + rm.locals ≤ R.locals) && (decide (cells + rm.cells ≤ R.cells) && decide (slots + rm.slots ≤ R.slots)))) = true)
    (k : ∀ T' h' v, Wk Z l p e R s m args below meth c own nm bytes maxL ret n0 T' h' (cells + rm.cells) (slots + rm.slots) → Q' v h' → Go p e below s R n0 Q (T'.setTop (mkF m pc' ls (v.toList ++ rest)))) : Go p e below s R n0 Q (T.setTop (mkF m pc ls st)) := by
  obtain ⟨⟨locs, Y, N⟩, eT, hn, hx, hZ, hown, hby, hml, hrt, hlk, hnm⟩ := X
  obtain ⟨hd, rfl⟩ := De.spec hD
  simp only [Bool.and_eq_true, decide_eq_true_eq] at hrm hy
  obtain ⟨v, _, ⟨U', L', c', s'⟩, -, Y', ⟨Lc, hq, el, ec, es⟩, stp⟩ := Jvm.LawKit.callS Y hx (y := y) hown (mvT hZ w1) (mvT hZ w2) (mvT hZ w3) (mvT hZ w4) hy (backOf (W := W) (Q := fun v h L => Q' v h ∧ n0 ≤ h.size ∧ Fr n0 L) (K []) hZ w4 w3 hrm.1 hrm.2.1) (g := mkF m pc ls st) rfl (hsz.trans hml.symm) (argsL := argsL) (rest := rest) (lenOf hpd hlen) hst (by show 2 * 0 + _ ≤ _; omega) (hb hby hd) (fun _ _ => ⟨rfl, eT, hrm.2.2.1, hrm.2.2.2⟩)
  dsimp only [Pt.U, Pt.locs, Pt.cells, Pt.slots] at Y' el ec es stp hq
  subst el ec es
  exact (k U' U'.heap v ⟨⟨_, Y', N.app hq.2.2⟩, rfl, hq.2.1, hx, hZ, hown, hby, hml, hrt, hlk, hnm⟩ hq.1).lift stp
theorem Wk.callI (X : Wk Z l p e R s m args below meth c own nm bytes maxL ret n0 T h cells slots) (pc' W : Nat) {y : MethodName} {yb : ByteArray} {yml : Nat} {rm : Room} {Q' : Option Value → Heap → Prop} {argsL : List Value} {ps : List FieldType} {r : Option FieldType} {index : Nat} {a : Addr} (K : Cnt l Z y yb yml none rm n0 (.ref a :: argsL).toArray h Q') (hnm' : y.name = "<init>") (w1 : (Jvm.Cond.methodLink own index y).before a0 Z = true) (w2 : (Jvm.Cond.instanceMethod y).before a0 Z = true) (w3 : (Jvm.Cond.initialized y.cls).before a0 Z = true) (w4 : (Jvm.Cond.code y yb yml none).before a0 Z = true) (hy : (decide (y.cls ≠ "java/lang/invoke/MethodHandle") && decide (y.cls ≠ "java/lang/invoke/VarHandle")) = true) (hpd : parseMethodDescriptor y.desc = some ⟨ps, r⟩) (hlen : argsL.length = ps.length) (hst : st = argsL.reverse ++ .ref a :: rest) (hsz : ls.size = maxL) (hW : (rest.map fun v => v.category).sum = W) (hD : De bytes pc (.invokespecial index) 3 pc' = true) (hrm : (decide (rm.frames + 1 ≤ R.frames) && (decide (W + (yml + 11) + rm.locals ≤ R.locals) && (decide (cells + rm.cells ≤ R.cells) && decide (slots + rm.slots ≤ R.slots)))) = true)
    (k : ∀ T' h' v, Wk Z l p e R s m args below meth c own nm bytes maxL ret n0 T' h' (cells + rm.cells) (slots + rm.slots) → Q' v h' → Go p e below s R n0 Q (T'.setTop (mkF m pc' ls (v.toList ++ rest)))) : Go p e below s R n0 Q (T.setTop (mkF m pc ls st)) := by
  obtain ⟨⟨locs, Y, N⟩, eT, hn, hx, hZ, hown, hby, hml, hrt, hlk, hnm⟩ := X
  obtain ⟨hd, rfl⟩ := De.spec hD
  simp only [Bool.and_eq_true, decide_eq_true_eq] at hrm hy
  obtain ⟨v, _, ⟨U', L', c', s'⟩, -, Y', ⟨Lc, hq, el, ec, es⟩, stp⟩ := Y.specialBack hx (y := y) hnm' hown (mvT hZ w1) (mvT hZ w2) (mvT hZ w4) hy (backOf (W := W) (Q := fun v h L => Q' v h ∧ n0 ≤ h.size ∧ Fr n0 L) (K []) hZ w4 w3 hrm.1 hrm.2.1) (g := mkF m pc ls st) rfl (hsz.trans hml.symm) (Steps.refl _) (a := a) (argsL := argsL) (rest := rest) (lenOf hpd hlen) hst (by show 2 * 0 + _ ≤ _; omega) (hb hby hd) (fun _ _ => ⟨rfl, eT, hrm.2.2.1, hrm.2.2.2⟩)
  dsimp only [Pt.U, Pt.locs, Pt.cells, Pt.slots] at Y' el ec es stp hq
  subst el ec es
  exact (k U' U'.heap v ⟨⟨_, Y', N.app hq.2.2⟩, rfl, hq.2.1, hx, hZ, hown, hby, hml, hrt, hlk, hnm⟩ hq.1).lift fun _ k => stp.trans k
theorem Wk.callV (X : Wk Z l p e R s m args below meth c own nm bytes maxL ret n0 T h cells slots) (pc' W : Nat) {y : MethodName} {yb : ByteArray} {yml : Nat} {yret : Option FieldType} {rm : Room} {Q' : Option Value → Heap → Prop} {argsL : List Value} {ps : List FieldType} {r : Option FieldType} {index : Nat} {b : Addr} {C : String} (E : Exa Z h b C) (K : Cnt l Z y yb yml yret rm n0 (.ref b :: argsL).toArray h Q') (w1 : (Jvm.Cond.methodLink own index y).before a0 Z = true) (w2 : (Jvm.Cond.declares y).before a0 Z = true) (w5 : (Jvm.Cond.selects C y y).before a0 Z = true) (w6 : (Jvm.Cond.instanceMethod y).before a0 Z = true) (w3 : (Jvm.Cond.initialized y.cls).before a0 Z = true) (w4 : (Jvm.Cond.code y yb yml yret).before a0 Z = true) (hy : (decide (y.cls ≠ "java/lang/invoke/MethodHandle") && decide (y.cls ≠ "java/lang/invoke/VarHandle")) = true) (hpd : parseMethodDescriptor y.desc = some ⟨ps, r⟩) (hlen : argsL.length = ps.length) (hst : st = argsL.reverse ++ .ref b :: rest) (hsz : ls.size = maxL) (hW : (rest.map fun v => v.category).sum = W) (hD : De bytes pc (.invokevirtual index) 3 pc' = true) (hrm : (decide (rm.frames + 1 ≤ R.frames) && (decide (W + (yml + 11) + rm.locals ≤ R.locals) && (decide (cells + rm.cells ≤ R.cells) && decide (slots + rm.slots ≤ R.slots)))) = true)
    (k : ∀ T' h' v, Wk Z l p e R s m args below meth c own nm bytes maxL ret n0 T' h' (cells + rm.cells) (slots + rm.slots) → Q' v h' → Go p e below s R n0 Q (T'.setTop (mkF m pc' ls (v.toList ++ rest)))) : Go p e below s R n0 Q (T.setTop (mkF m pc ls st)) := by
  obtain ⟨⟨locs, Y, N⟩, eT, hn, hx, hZ, hown, hby, hml, hrt, hlk, hnm⟩ := X
  obtain ⟨hd, rfl⟩ := De.spec hD
  simp only [Bool.and_eq_true, decide_eq_true_eq] at hrm hy
  obtain ⟨cq, kq, qa, qb, qc⟩ := isOf hZ eT E
  obtain ⟨v, _, ⟨U', L', c', s'⟩, -, Y', ⟨Lc, hq, el, ec, es⟩, stp⟩ := Y.virtualBack hx (y := y) (z := y) hown (mvT hZ w1) (mvT hZ w2) (notFace_of_selects (args := #[]) (mvT hZ w5)) (mvT hZ w5) (mvT hZ w6) hy (backOf (W := W) (Q := fun v h L => Q' v h ∧ n0 ≤ h.size ∧ Fr n0 L) (K []) hZ w4 w3 hrm.1 hrm.2.1) qa qc (g := mkF m pc ls st) rfl (hsz.trans hml.symm) (Steps.refl _) (argsL := argsL) (rest := rest) (lenOf hpd hlen) hst (by show 2 * 0 + _ ≤ _; omega) (hb hby hd) (fun _ _ => ⟨rfl, eT, hrm.2.2.1, hrm.2.2.2⟩)
  dsimp only [Pt.U, Pt.locs, Pt.cells, Pt.slots] at Y' el ec es stp hq
  subst el ec es
  exact (k U' U'.heap v ⟨⟨_, Y', N.app hq.2.2⟩, rfl, hq.2.1, hx, hZ, hown, hby, hml, hrt, hlk, hnm⟩ hq.1).lift fun _ k => stp.trans k
theorem Wk.callF (X : Wk Z l p e R s m args below meth c own nm bytes maxL ret n0 T h cells slots) (pc' W : Nat) {z : MethodName} {y : MethodName} {yb : ByteArray} {yml : Nat} {yret : Option FieldType} {rm : Room} {Q' : Option Value → Heap → Prop} {argsL : List Value} {ps : List FieldType} {r : Option FieldType} {index count : Nat} {b : Addr} {C : String} (E : Exa Z h b C) (K : Cnt l Z z yb yml yret rm n0 (.ref b :: argsL).toArray h Q') (w1 : (Jvm.Cond.methodLink own index y).before a0 Z = true) (w2 : (Jvm.Cond.declares y).before a0 Z = true) (w7 : (Jvm.Cond.interfaceMethod y.cls y.cls y.name y.desc).before a0 Z = true) (w5 : (Jvm.Cond.selects C y z).before a0 Z = true) (w6 : (Jvm.Cond.instanceMethod z).before a0 Z = true) (w8 : (Jvm.Cond.publicMethod z).before a0 Z = true) (w9 : (Jvm.Cond.unhidden C y.name y.desc).before a0 Z = true) (w10 : (Jvm.Cond.castable C y.cls).before a0 Z = true) (hfa : (Jvm.Cond.interfaceMethod y.cls y.cls y.name y.desc).faceAtom = true) (w3 : (Jvm.Cond.initialized z.cls).before a0 Z = true) (w4 : (Jvm.Cond.code z yb yml yret).before a0 Z = true) (hy : (decide (y.cls ≠ "java/lang/invoke/MethodHandle") && decide (y.cls ≠ "java/lang/invoke/VarHandle")) = true) (hpd : parseMethodDescriptor y.desc = some ⟨ps, r⟩) (hlen : argsL.length = ps.length) (hst : st = argsL.reverse ++ .ref b :: rest) (hsz : ls.size = maxL) (hW : (rest.map fun v => v.category).sum = W) (hD : De bytes pc (.invokeinterface index count) 5 pc' = true) (hrm : (decide (rm.frames + 1 ≤ R.frames) && (decide (W + (yml + 11) + rm.locals ≤ R.locals) && (decide (cells + rm.cells ≤ R.cells) && decide (slots + rm.slots ≤ R.slots)))) = true)
    (k : ∀ T' h' v, Wk Z l p e R s m args below meth c own nm bytes maxL ret n0 T' h' (cells + rm.cells) (slots + rm.slots) → Q' v h' → Go p e below s R n0 Q (T'.setTop (mkF m pc' ls (v.toList ++ rest)))) : Go p e below s R n0 Q (T.setTop (mkF m pc ls st)) := by
  obtain ⟨⟨locs, Y, N⟩, eT, hn, hx, hZ, hown, hby, hml, hrt, hlk, hnm⟩ := X
  obtain ⟨hd, rfl⟩ := De.spec hD
  simp only [Bool.and_eq_true, decide_eq_true_eq] at hrm hy
  obtain ⟨cq, kq, qa, qb, qc⟩ := isOf hZ eT E
  obtain ⟨v, _, ⟨U', L', c', s'⟩, -, Y', ⟨Lc, hq, el, ec, es⟩, stp⟩ := Y.interfaceBack hx (xi := y) (y := z) hown (mvT hZ w1) (mvT hZ w2) (mvT hZ w7 (by simp [Cond.onTables, Cond.keepsFace, Cond.keeps, Cond.steady, hfa])) (mvT hZ w5) (mvT hZ w6) (mvT hZ w8) (mvT hZ w9) (mvT hZ w10) hy (backOf (W := W) (Q := fun v h L => Q' v h ∧ n0 ≤ h.size ∧ Fr n0 L) (K []) hZ w4 w3 hrm.1 hrm.2.1) qa qb qc (g := mkF m pc ls st) rfl (hsz.trans hml.symm) (Steps.refl _) (argsL := argsL) (rest := rest) (lenOf hpd hlen) hst (by show 2 * 0 + _ ≤ _; omega) (hb hby hd) (fun _ _ => ⟨rfl, eT, hrm.2.2.1, hrm.2.2.2⟩)
  dsimp only [Pt.U, Pt.locs, Pt.cells, Pt.slots] at Y' el ec es stp hq
  subst el ec es
  exact (k U' U'.heap v ⟨⟨_, Y', N.app hq.2.2⟩, rfl, hq.2.1, hx, hZ, hown, hby, hml, hrt, hlk, hnm⟩ hq.1).lift fun _ k => stp.trans k
theorem Wk.clone (X : Wk Z l p e R s m args below meth c own nm bytes maxL ret n0 T h cells slots) (pc' W cap : Nat) {index : Nat} {ad : String} {a : Addr} {ty : FieldType} {vs : List Value} (A : AV Z h a ty vs) (had : "[" ++ ty.toString = ad) (w1 : (Jvm.Cond.methodLink own index ⟨ad, "clone", "()Ljava/lang/Object;"⟩).before a0 Z = true) (w2 : (Jvm.Cond.sameMethod ad "java/lang/Object" "clone" "()Ljava/lang/Object;").before a0 Z = true) (w3 : (Jvm.Cond.native ⟨"java/lang/Object", "clone", "()Ljava/lang/Object;"⟩).before a0 Z = true) (w4 : (Jvm.Cond.instanceMethod ⟨"java/lang/Object", "clone", "()Ljava/lang/Object;"⟩).before a0 Z = true) (w5 : (Jvm.Cond.selects ad ⟨ad, "clone", "()Ljava/lang/Object;"⟩ ⟨"java/lang/Object", "clone", "()Ljava/lang/Object;"⟩).before a0 Z = true) (w6 : (Jvm.Cond.castable ad "java/lang/Cloneable").before a0 Z = true) (hsz : ls.size = maxL) (hW : (rest.map fun v => v.category).sum = W) (hD : De bytes pc (.invokevirtual index) 3 pc' = true) (hcap : vs.length ≤ cap) (hrm : (decide (1 ≤ R.frames) && (decide (W + 14 ≤ R.locals) && (decide (cells + 1 ≤ R.cells) && decide (slots + cap ≤ R.slots)))) = true)
    (k : ∀ T' h', Wk Z l p e R s m args below meth c own nm bytes maxL ret n0 T' h' (cells + 1) (slots + cap) → Ext h h' → AV Z h' h.size ty vs → Go p e below s R n0 Q (T'.setTop (mkF m pc' ls (.ref h.size :: rest)))) : Go p e below s R n0 Q (T.setTop (mkF m pc ls (.ref a :: rest))) := by
  obtain ⟨⟨locs, Y, N⟩, eT, hn, hx, hZ, hown, hby, hml, hrt, hlk, hnm⟩ := X
  obtain ⟨hd, rfl⟩ := De.spec hD
  simp only [Bool.and_eq_true, decide_eq_true_eq] at hrm
  subst had
  obtain ⟨cl, A, rfl, q2, q3, q4⟩ := A
  have FC : FitC Z cl := fitC_of A fun i hi v hv => q3 v (by
    have := Array.getElem?_eq_some_iff.mp hv
    obtain ⟨_, e⟩ := this
    rw [← e]; simp)
  obtain ⟨T', h', Y', e', E, A', E', stp⟩ := cloneA Y hx hZ hown w1 w2 w3 w4 w5 w6 eT A q4 FC (g := mkF m pc ls (.ref a :: rest)) rfl (hsz.trans hml.symm) rfl (hb hby hd) hrm.1 (W := W) (cap := cap) (by show 2 * 0 + _ ≤ _; omega) hrm.2.1 (by simpa using hcap) hrm.2.2.1 hrm.2.2.2
  exact (k T' h' ⟨⟨_, Y', N⟩, e', Nat.le_trans hn E.1, hx, hZ, hown, hby, hml, hrt, hlk, hnm⟩ E ⟨_, A', rfl, q2, q3, E'⟩).lift stp
theorem Wk.cast (X : Wk Z l p e R s m args below meth c own nm bytes maxL ret n0 T h cells slots) (pc' : Nat) {index : Nat} {K : String} {a : Addr} (w : (Jvm.Cond.classLink own index K).before a0 Z = true) (E : Exa Z h a K) (hD : De bytes pc (.checkcast index) 3 pc' = true)
    (k : ∀ T', Wk Z l p e R s m args below meth c own nm bytes maxL ret n0 T' h cells slots → Go p e below s R n0 Q (T'.setTop (mkF m pc' ls (.ref a :: rest)))) : Go p e below s R n0 Q (T.setTop (mkF m pc ls (.ref a :: rest))) := by
  obtain ⟨⟨locs, Y, N⟩, eT, hn, hx, hZ, hown, hby, hml, hrt, hlk, hnm⟩ := X
  obtain ⟨hd, rfl⟩ := De.spec hD
  obtain ⟨T', Y', e', stp⟩ := castY Y hx hZ hown w eT (Ins.self E) (g := mkF m pc ls (.ref a :: rest)) rfl rfl (hb hby hd)
  exact (k T' ⟨⟨_, Y', N⟩, e', hn, hx, hZ, hown, hby, hml, hrt, hlk, hnm⟩).lift stp
theorem Wk.acopy (X : Wk Z l p e R s m args below meth c own nm bytes maxL ret n0 T h cells slots) (pc' W : Nat) {index : Nat} {a b : Addr} {ty : FieldType} {vs vd : List Value} {sp dp nn : Int32} (d : Value) (A : AV Z h a ty vs) (B : AV Z h b ty vd) (hp : refKind ty = false) (w1 : (Jvm.Cond.methodLink own index Jvm.Stand.acN).before a0 Z = true) (w2 : (Jvm.Cond.native Jvm.Stand.acN).before a0 Z = true) (w3 : (Jvm.Cond.static Jvm.Stand.acN).before a0 Z = true) (w4 : (Jvm.Cond.initialized "java/lang/System").before a0 Z = true) (h1 : ¬ sp < 0) (h2 : ¬ dp < 0) (h3 : ¬ nn < 0) (h4 : sp.toNatClampNeg + nn.toNatClampNeg ≤ vs.length) (h5 : dp.toNatClampNeg + nn.toNatClampNeg ≤ vd.length) (ha : n0 ≤ b) (hsz : ls.size = maxL) (hW : (rest.map fun v => v.category).sum = W) (hD : De bytes pc (.invokestatic index) 3 pc' = true) (hrm : (decide (1 ≤ R.frames) && decide (W + (nativeFrameWords "java/lang/System" "arraycopy" 5 + 11) ≤ R.locals)) = true)
    (k : ∀ T' h', Wk Z l p e R s m args below meth c own nm bytes maxL ret n0 T' h' cells slots → Keep h h' [b] → AV Z h' b ty (vd.take dp.toNatClampNeg ++ ((List.range nn.toNatClampNeg).map fun i => vs.getD (sp.toNatClampNeg + i) d) ++ vd.drop (dp.toNatClampNeg + nn.toNatClampNeg)) → Go p e below s R n0 Q (T'.setTop (mkF m pc' ls rest))) : Go p e below s R n0 Q (T.setTop (mkF m pc ls (.int nn :: .int dp :: .ref b :: .int sp :: .ref a :: rest))) := by
  obtain ⟨⟨locs, Y, N⟩, eT, hn, hx, hZ, hown, hby, hml, hrt, hlk, hnm⟩ := X
  obtain ⟨hd, rfl⟩ := De.spec hD
  simp only [Bool.and_eq_true, decide_eq_true_eq] at hrm
  have lz : ∀ {us : List Value}, us.length < 2 ^ 31 → us.length.toInt32.toNatClampNeg = us.length := fun {us} q => by
    have hz : ¬ us.length.toInt32 < 0 := by rw [Int32.lt_iff_toInt_lt, len_toInt q]; show ¬ ((_ : Int) < (0 : Int)); omega
    have := nat_of hz; rw [len_toInt q] at this; omega
  have lA : vs.length < 2 ^ 31 := by obtain ⟨_, _, _, q, _⟩ := A; exact q
  have lB : vd.length < 2 ^ 31 := by obtain ⟨_, _, _, q, _⟩ := B; exact q
  obtain ⟨k1, A'⟩ := A.arv d
  obtain ⟨k2, B'⟩ := B.arv d
  obtain ⟨T', h', L, Y', e', N', K, B2, stp⟩ := cpA Y hx hZ hown w1 w2 w3 w4 eT A' B' (Or.inl ⟨rfl, hp⟩) h1 h2 h3 (by rw [lz lA]; exact h4) (by rw [lz lB]; exact h5) rfl h5 N ha (g := mkF m pc ls (.int nn :: .int dp :: .ref b :: .int sp :: .ref a :: rest)) rfl (hsz.trans hml.symm) rfl (hb hby hd) hrm.1 (W := W) (by show 2 * 0 + _ ≤ _; omega) hrm.2
  exact (k T' h' ⟨⟨_, Y', N'⟩, e', Nat.le_trans hn K.1, hx, hZ, hown, hby, hml, hrt, hlk, hnm⟩ K (AV.of_arv B2 (by rw [lz lB]; simp; omega) (B.exa.keep K))).lift stp
theorem Wk.callP (X : Wk Z l p e R s m args below meth c own nm bytes maxL ret n0 T h cells slots) (pc' W : Nat) {y2 z2 : MethodName} {C2 : String} {y : MethodName} {yb : ByteArray} {yml : Nat} {yret : Option FieldType} {rm : Room} {Q' : Option Value → Heap → Prop} {argsL : List Value} {ps : List FieldType} {r : Option FieldType} {index : Nat} {b : Addr} {C : String} (E : Exa Z h b C) (K : Cnt l Z y yb yml yret rm n0 (.ref b :: argsL).toArray h Q') (w1 : (Jvm.Cond.methodLink own index y).before a0 Z = true) (w5 : (Jvm.Cond.selects C2 y2 z2).before a0 Z = true) (hz2 : z2.cls = y.cls) (w6 : (Jvm.Cond.instanceMethod y).before a0 Z = true) (w7 : (Jvm.Cond.privateMethod y).before a0 Z = true) (w3 : (Jvm.Cond.initialized y.cls).before a0 Z = true) (w4 : (Jvm.Cond.code y yb yml yret).before a0 Z = true) (hy : (decide (y.cls ≠ "java/lang/invoke/MethodHandle") && decide (y.cls ≠ "java/lang/invoke/VarHandle")) = true) (hpd : parseMethodDescriptor y.desc = some ⟨ps, r⟩) (hlen : argsL.length = ps.length) (hst : st = argsL.reverse ++ .ref b :: rest) (hsz : ls.size = maxL) (hW : (rest.map fun v => v.category).sum = W) (hD : De bytes pc (.invokevirtual index) 3 pc' = true) (hrm : (decide (rm.frames + 1 ≤ R.frames) && (decide (W + (yml + 11) + rm.locals ≤ R.locals) && (decide (cells + rm.cells ≤ R.cells) && decide (slots + rm.slots ≤ R.slots)))) = true)
    (k : ∀ T' h' v, Wk Z l p e R s m args below meth c own nm bytes maxL ret n0 T' h' (cells + rm.cells) (slots + rm.slots) → Q' v h' → Go p e below s R n0 Q (T'.setTop (mkF m pc' ls (v.toList ++ rest)))) : Go p e below s R n0 Q (T.setTop (mkF m pc ls st)) := by
  obtain ⟨⟨locs, Y, N⟩, eT, hn, hx, hZ, hown, hby, hml, hrt, hlk, hnm⟩ := X
  obtain ⟨hd, rfl⟩ := De.spec hD
  simp only [Bool.and_eq_true, decide_eq_true_eq] at hrm hy
  obtain ⟨cq, q, q'⟩ := E.cell
  have hpr : s.PrivateAt y := Cond.privateMethod_at (mvP hZ w7 (args := #[]))
  obtain ⟨c2, r2, m2, -, -, q3, -, kP, hkP, hkPi⟩ := Cond.selects_spec (mvT hZ w5 : (Jvm.Cond.selects C2 y2 z2).before args s = true)
  have hsel : (Jvm.Cond.selects y.cls y y).before args s = true := selects_self_of_private (by rw [← hz2]; exact findClass_of_methodNamed q3) hkP hkPi hpr (mvT hZ w6) hy
  obtain ⟨v, _, ⟨U', L', c', s'⟩, -, Y', ⟨Lc, hq, el, ec, es⟩, stp⟩ := Y.privateBack hx (y := y) hown (mvT hZ w1) (mvT hZ w6) hsel hpr (mvT hZ w4) hy (backOf (W := W) (Q := fun v h L => Q' v h ∧ n0 ≤ h.size ∧ Fr n0 L) (K []) hZ w4 w3 hrm.1 hrm.2.1) (g := mkF m pc ls st) rfl (hsz.trans hml.symm) (Steps.refl _) (a := b) (by rw [eT]; exact q) q' (argsL := argsL) (rest := rest) (lenOf hpd hlen) hst (by show 2 * 0 + _ ≤ _; omega) (hb hby hd) (fun _ _ => ⟨rfl, eT, hrm.2.2.1, hrm.2.2.2⟩)
  dsimp only [Pt.U, Pt.locs, Pt.cells, Pt.slots] at Y' el ec es stp hq
  subst el ec es
  exact (k U' U'.heap v ⟨⟨_, Y', N.app hq.2.2⟩, rfl, hq.2.1, hx, hZ, hown, hby, hml, hrt, hlk, hnm⟩ hq.1).lift fun _ k => stp.trans k
theorem Wk.tsw (X : Wk Z l p e R s m args below meth c own nm bytes maxL ret n0 T h cells slots) (t : Nat) {i : Int32} {df lo hi : Int} {offs : Array Int} {n : Nat} (hD : (decide (decode bytes pc = .ok (.tableswitch df lo hi offs, n)) && (if i.toInt < lo ∨ i.toInt > hi then decide (0 ≤ (pc : Int) + df) && decide (((pc : Int) + df).toNat = t) else (match offs[(i.toInt - lo).toNat]? with | some o => decide (0 ≤ (pc : Int) + o) && decide (((pc : Int) + o).toNat = t) | none => false))) = true) (k : Go p e below s R n0 Q (T.setTop (mkF m t ls rest))) : Go p e below s R n0 Q (T.setTop (mkF m pc ls (.int i :: rest))) := by
  obtain ⟨⟨locs, Y, N⟩, eT, hn, hx, hZ, hown, hby, r⟩ := X
  rw [Bool.and_eq_true, decide_eq_true_eq] at hD
  obtain ⟨hd, hD⟩ := hD
  split at hD
  · rename_i q
    rw [Bool.and_eq_true, decide_eq_true_eq, decide_eq_true_eq] at hD
    exact k.lift fun _ k => XS.tswOut Y.here hx rfl (pc0 := pc) (pc' := t) rfl (hb hby hd) rfl q hD.1 hD.2 k
  · rename_i q
    split at hD
    · rename_i o ho
      rw [Bool.and_eq_true, decide_eq_true_eq, decide_eq_true_eq] at hD
      exact k.lift fun _ k => XS.tswIn Y.here hx rfl (pc0 := pc) (pc' := t) rfl (hb hby hd) rfl q ho hD.1 hD.2 k
    · cases hD
end OwnLaws

theorem own_nn {j : Int32} (h : 0 ≤ j.toInt) : ¬ j < 0 := by rw [Int32.lt_iff_toInt_lt]; show ¬ _ < (0 : Int); omega
theorem own_nat {j : Int32} (h : 0 ≤ j.toInt) : (j.toNatClampNeg : Int) = j.toInt := by have := nat_of (own_nn h); omega

def CI1 (Z : State) (h : Heap) (n0 : Nat) (a ar : Addr) (n : Int32) (xs : List Int64) : Prop :=
  (Exa Z h a "com/example/millrace/millrace/examples/CompactIntegers" ∧ n0 ≤ a ∧ n0 ≤ ar ∧ a ≠ ar) ∧ (Fld Z h a "com/example/millrace/millrace/examples/CompactIntegers" "width" "I" (.int 1) ∧ Fld Z h a "com/example/millrace/millrace/examples/CompactIntegers" "bytes" "[B" (.ref ar)) ∧ (AV Z h ar .byte (xs.map fun z => Value.int z.toInt32) ∧ (∀ z ∈ xs, z.toInt32.toInt8.toInt32.toInt64 = z) ∧ xs.length = n.toNatClampNeg ∧ 0 ≤ n.toInt ∧ n.toInt ≤ 7) ∧ (∃ v1 v2 v4 v8, Fld Z h a "com/example/millrace/millrace/examples/CompactIntegers" "bytes" "[B" (v1) ∧ Fld Z h a "com/example/millrace/millrace/examples/CompactIntegers" "shorts" "[S" (v2) ∧ Fld Z h a "com/example/millrace/millrace/examples/CompactIntegers" "ints" "[I" (v4) ∧ Fld Z h a "com/example/millrace/millrace/examples/CompactIntegers" "longs" "[J" (v8))
def CI2 (Z : State) (h : Heap) (n0 : Nat) (a ar : Addr) (n : Int32) (xs : List Int64) : Prop :=
  (Exa Z h a "com/example/millrace/millrace/examples/CompactIntegers" ∧ n0 ≤ a ∧ n0 ≤ ar ∧ a ≠ ar) ∧ (Fld Z h a "com/example/millrace/millrace/examples/CompactIntegers" "width" "I" (.int 2) ∧ Fld Z h a "com/example/millrace/millrace/examples/CompactIntegers" "shorts" "[S" (.ref ar)) ∧ (AV Z h ar .short (xs.map fun z => Value.int z.toInt32) ∧ (∀ z ∈ xs, z.toInt32.toInt16.toInt32.toInt64 = z) ∧ xs.length = n.toNatClampNeg ∧ 0 ≤ n.toInt ∧ n.toInt ≤ 7) ∧ (∃ v1 v2 v4 v8, Fld Z h a "com/example/millrace/millrace/examples/CompactIntegers" "bytes" "[B" (v1) ∧ Fld Z h a "com/example/millrace/millrace/examples/CompactIntegers" "shorts" "[S" (v2) ∧ Fld Z h a "com/example/millrace/millrace/examples/CompactIntegers" "ints" "[I" (v4) ∧ Fld Z h a "com/example/millrace/millrace/examples/CompactIntegers" "longs" "[J" (v8))
def CI4 (Z : State) (h : Heap) (n0 : Nat) (a ar : Addr) (n : Int32) (xs : List Int64) : Prop :=
  (Exa Z h a "com/example/millrace/millrace/examples/CompactIntegers" ∧ n0 ≤ a ∧ n0 ≤ ar ∧ a ≠ ar) ∧ (Fld Z h a "com/example/millrace/millrace/examples/CompactIntegers" "width" "I" (.int 4) ∧ Fld Z h a "com/example/millrace/millrace/examples/CompactIntegers" "ints" "[I" (.ref ar)) ∧ (AV Z h ar .int (xs.map fun z => Value.int z.toInt32) ∧ (∀ z ∈ xs, z.toInt32.toInt64 = z) ∧ xs.length = n.toNatClampNeg ∧ 0 ≤ n.toInt ∧ n.toInt ≤ 7) ∧ (∃ v1 v2 v4 v8, Fld Z h a "com/example/millrace/millrace/examples/CompactIntegers" "bytes" "[B" (v1) ∧ Fld Z h a "com/example/millrace/millrace/examples/CompactIntegers" "shorts" "[S" (v2) ∧ Fld Z h a "com/example/millrace/millrace/examples/CompactIntegers" "ints" "[I" (v4) ∧ Fld Z h a "com/example/millrace/millrace/examples/CompactIntegers" "longs" "[J" (v8))
def CI8 (Z : State) (h : Heap) (n0 : Nat) (a ar : Addr) (n : Int32) (xs : List Int64) : Prop :=
  (Exa Z h a "com/example/millrace/millrace/examples/CompactIntegers" ∧ n0 ≤ a ∧ n0 ≤ ar ∧ a ≠ ar) ∧ (Fld Z h a "com/example/millrace/millrace/examples/CompactIntegers" "width" "I" (.int 8) ∧ Fld Z h a "com/example/millrace/millrace/examples/CompactIntegers" "longs" "[J" (.ref ar)) ∧ (AV Z h ar .long (xs.map fun z => Value.long z) ∧ (∀ z ∈ xs, True ∨ z = z) ∧ xs.length = n.toNatClampNeg ∧ 0 ≤ n.toInt ∧ n.toInt ≤ 7) ∧ (∃ v1 v2 v4 v8, Fld Z h a "com/example/millrace/millrace/examples/CompactIntegers" "bytes" "[B" (v1) ∧ Fld Z h a "com/example/millrace/millrace/examples/CompactIntegers" "shorts" "[S" (v2) ∧ Fld Z h a "com/example/millrace/millrace/examples/CompactIntegers" "ints" "[I" (v4) ∧ Fld Z h a "com/example/millrace/millrace/examples/CompactIntegers" "longs" "[J" (v8))
def CIx (Z : State) (h : Heap) (n0 : Nat) (a : Addr) (n : Int32) (xs : List Int64) : Prop := ∃ ar, CI1 Z h n0 a ar n xs ∨ CI2 Z h n0 a ar n xs ∨ CI4 Z h n0 a ar n xs ∨ CI8 Z h n0 a ar n xs
theorem CIx.exa {Z : State} {h : Heap} {n0 : Nat} {a : Addr} {n : Int32} {xs : List Int64} (I : CIx Z h n0 a n xs) : Exa Z h a "com/example/millrace/millrace/examples/CompactIntegers" := by
  obtain ⟨ar, I | I | I | I⟩ := I <;> exact I.1.1
theorem CIx.len {Z : State} {h : Heap} {n0 : Nat} {a : Addr} {n : Int32} {xs : List Int64} (I : CIx Z h n0 a n xs) : xs.length = n.toNatClampNeg := by
  obtain ⟨ar, I | I | I | I⟩ := I <;> exact I.2.2.1.2.2.1
def wof (v : Int64) : Int32 := if v = v.toInt32.toInt8.toInt32.toInt64 then 1 else if v = v.toInt32.toInt16.toInt32.toInt64 then 2 else if v = v.toInt32.toInt64 then 4 else 8
theorem own_wof (v : Int64) : wof v = 1 ∨ wof v = 2 ∨ wof v = 4 ∨ wof v = 8 := by
  unfold wof
  repeat (first | exact Or.inl rfl | exact Or.inr (Or.inl rfl) | exact Or.inr (Or.inr (Or.inl rfl)) | exact Or.inr (Or.inr (Or.inr rfl)) | split)
theorem own_b32 (y : Int32) : (y.toInt8.toInt32.toInt = y.toInt ↔ -128 ≤ y.toInt ∧ y.toInt < 128) := by have := c_i2b y; omega
theorem own_s32 (y : Int32) : (y.toInt16.toInt32.toInt = y.toInt ↔ -32768 ≤ y.toInt ∧ y.toInt < 32768) := by have := c_i2s y; omega
theorem own_f4 (v : Int64) : v.toInt32.toInt64 = v ↔ -2147483648 ≤ v.toInt ∧ v.toInt < 2147483648 := by
  rw [← Int64.toInt_inj, c_i2l]; have := c_l2i v; have := rng32 v.toInt32; omega
theorem own_f1 (v : Int64) : v.toInt32.toInt8.toInt32.toInt64 = v ↔ -128 ≤ v.toInt ∧ v.toInt < 128 := by
  rw [← Int64.toInt_inj, c_i2l]; have := c_l2i v; have := rng32 v.toInt32; have := c_i2b v.toInt32; omega
theorem own_f2 (v : Int64) : v.toInt32.toInt16.toInt32.toInt64 = v ↔ -32768 ≤ v.toInt ∧ v.toInt < 32768 := by
  rw [← Int64.toInt_inj, c_i2l]; have := c_l2i v; have := rng32 v.toInt32; have := c_i2s v.toInt32; omega
theorem own_w1 {v : Int64} (h : wof v = 1) : v.toInt32.toInt8.toInt32.toInt64 = v := by
  unfold wof at h
  by_cases q : v = v.toInt32.toInt8.toInt32.toInt64
  · exact q.symm
  · rw [if_neg q] at h; split at h; cases h; split at h <;> cases h
theorem own_w2 {v : Int64} (h : wof v = 1 ∨ wof v = 2) : v.toInt32.toInt16.toInt32.toInt64 = v := by
  rcases h with h | h
  · have := own_w1 h; rw [own_f1] at this; rw [own_f2]; omega
  · unfold wof at h
    split at h
    · cases h
    · by_cases q : v = v.toInt32.toInt16.toInt32.toInt64
      · exact q.symm
      · rw [if_neg q] at h; split at h <;> cases h
theorem own_w4 {v : Int64} (h : wof v = 1 ∨ wof v = 2 ∨ wof v = 4) : v.toInt32.toInt64 = v := by
  rcases h with h | h | h
  · have := own_w1 h; rw [own_f1] at this; rw [own_f4]; omega
  · have := own_w2 (Or.inr h); rw [own_f2] at this; rw [own_f4]; omega
  · unfold wof at h
    split at h
    · cases h
    · split at h
      · cases h
      · by_cases q : v = v.toInt32.toInt64
        · exact q.symm
        · rw [if_neg q] at h; cases h
theorem own_v1 {v : Int64} (h : v.toInt32.toInt8.toInt32.toInt64 = v) : v.toInt32.toInt8.toInt32 = v.toInt32 := by
  apply Int32.toInt_inj.mp; rw [own_f1] at h; have := c_l2i v; have := rng32 v.toInt32; rw [own_b32]; omega
theorem own_v2 {v : Int64} (h : v.toInt32.toInt16.toInt32.toInt64 = v) : v.toInt32.toInt16.toInt32 = v.toInt32 := by
  apply Int32.toInt_inj.mp; rw [own_f2] at h; have := c_l2i v; have := rng32 v.toInt32; rw [own_s32]; omega
theorem own_g1 {v : Int64} (h : v.toInt32.toInt8.toInt32.toInt64 = v) : v.toInt32.toInt64 = v := by rw [own_f1] at h; rw [own_f4]; omega
theorem own_g2 {v : Int64} (h : v.toInt32.toInt16.toInt32.toInt64 = v) : v.toInt32.toInt64 = v := by rw [own_f2] at h; rw [own_f4]; omega
theorem own_12 {v : Int64} (h : v.toInt32.toInt8.toInt32.toInt64 = v) : v.toInt32.toInt16.toInt32.toInt64 = v := by rw [own_f1] at h; rw [own_f2]; omega
theorem own_set_mem {xs : List Int64} {i : Nat} {v : Int64} {Pd : Int64 → Prop} (h : ∀ z ∈ xs, Pd z) (hv : Pd v) : ∀ z ∈ xs.set i v, Pd z := fun z hz => (List.mem_or_eq_of_mem_set hz).elim (h z) (fun e => e ▸ hv)
theorem own_n12 (z : Int64) (h : z.toInt32.toInt8.toInt32.toInt64 = z) : ¬ (2 : Int32) < wof z := by unfold wof; rw [if_pos h.symm]; decide
theorem own_n4 (z : Int64) (h : z.toInt32.toInt64 = z) : ¬ (4 : Int32) < wof z := by
  unfold wof; repeat (first | decide | (rw [if_pos h.symm]; decide) | split)
theorem own_n14 (z : Int64) (h : z.toInt32.toInt8.toInt32.toInt64 = z) : ¬ (4 : Int32) < wof z := own_n4 z (own_g1 h)
theorem own_n24 (z : Int64) (h : z.toInt32.toInt16.toInt32.toInt64 = z) : ¬ (4 : Int32) < wof z := own_n4 z (own_g2 h)
theorem own_n8 (z : Int64) : ¬ (8 : Int32) < wof z := by rcases own_wof z with q | q | q | q <;> rw [q] <;> decide
theorem own_n18 (z : Int64) (h : z.toInt32.toInt8.toInt32.toInt64 = z) : ¬ (8 : Int32) < wof z := own_n8 z
theorem own_n28 (z : Int64) (h : z.toInt32.toInt16.toInt32.toInt64 = z) : ¬ (8 : Int32) < wof z := own_n8 z
theorem own_n48 (z : Int64) (h : z.toInt32.toInt64 = z) : ¬ (8 : Int32) < wof z := own_n8 z
set_option maxRecDepth 65536 in
set_option maxHeartbeats 40000000 in
theorem rm_wof (l : Launch) (Z : State) (a0 : Array Value) (hw : ∀ d ∈ tables_1, d.before a0 Z = true) (p1 : Int64) (h0 : Heap) (n0 : Nat) (Z0 : n0 ≤ h0.size)  :
    Cnt l Z (⟨"com/example/millrace/millrace/examples/CompactIntegers", "widthOf", "(J)I"⟩ : MethodName) prog_16_method_7_code 3 (some .int) ({ frames := 0, cells := 0, slots := 0, locals := 0 } : Room) n0 #[(.long p1)] h0 (fun v h => v = some (.int (wof p1)) ∧ h0 = h) := by
  refine Cnt.mk (by first | exact plainFor_of_name (by first | (simp [plainName, overriddenIn]; done) | decide +kernel) | decide +kernel) Z0 ?_
  intro p e s m below meth c T X
  refine Go.cast (g' := mkF m 0 #[.val (.long p1), .second, .unset] []) (by first | (simp [entryFrame, mkF, argsToLocals, Value.category, maxLocals]; done) | rfl) ?_
  have hK : (∀ q ∈ ([] : List (Nat × Int32)), (Jvm.Cond.constant "com/example/millrace/millrace/examples/CompactIntegers" q.1 q.2).before a0 Z = true) ∧ (∀ q ∈ ([] : List (Nat × Int64)), (Jvm.Cond.constantLong "com/example/millrace/millrace/examples/CompactIntegers" q.1 q.2).before a0 Z = true) :=
    ⟨(fun q hq => nomatch hq), (fun q hq => nomatch hq)⟩
  refine X.blk hK (L := [(.lload_n 0, 1, 0, 0), (.lload_n 0, 1, 0, 0), (.l2i, 1, 0, 0), (.i2b, 1, 0, 0), (.i2l, 1, 0, 0)]) (pc' := 5) (ls' := #[.val (.long p1), .second, .unset]) (st' := [(.long p1.toInt32.toInt8.toInt32.toInt64), (.long p1)]) (by decide +kernel) rfl ?_
  refine X.lcmp .ne (8) 14 9 (by decide +kernel) (fun (c5 : ¬ p1 = p1.toInt32.toInt8.toInt32.toInt64) => ?_) (fun (c5 : p1 = p1.toInt32.toInt8.toInt32.toInt64) => ?_)
  · refine X.blk hK (L := [(.lload_n 0, 1, 0, 0), (.lload_n 0, 1, 0, 0), (.l2i, 1, 0, 0), (.i2s, 1, 0, 0), (.i2l, 1, 0, 0)]) (pc' := 19) (ls' := #[.val (.long p1), .second, .unset]) (st' := [(.long p1.toInt32.toInt16.toInt32.toInt64), (.long p1)]) (by decide +kernel) rfl ?_
    refine X.lcmp .ne (8) 28 23 (by decide +kernel) (fun (c19 : ¬ p1 = p1.toInt32.toInt16.toInt32.toInt64) => ?_) (fun (c19 : p1 = p1.toInt32.toInt16.toInt32.toInt64) => ?_)
    · refine X.blk hK (L := [(.lload_n 0, 1, 0, 0), (.lload_n 0, 1, 0, 0), (.l2i, 1, 0, 0), (.i2l, 1, 0, 0)]) (pc' := 32) (ls' := #[.val (.long p1), .second, .unset]) (st' := [(.long p1.toInt32.toInt64), (.long p1)]) (by decide +kernel) rfl ?_
      refine X.lcmp .ne (8) 41 36 (by decide +kernel) (fun (c32 : ¬ p1 = p1.toInt32.toInt64) => ?_) (fun (c32 : p1 = p1.toInt32.toInt64) => ?_)
      · refine X.blk hK (L := [(.bipush 8, 2, 8, 0), (.istore_n 2, 1, 0, 0), (.iload_n 2, 1, 0, 0)]) (pc' := 45) (ls' := #[.val (.long p1), .second, .val (.int (8 : Int32))]) (st' := [(.int (8 : Int32))]) (by decide +kernel) rfl ?_
        exact X.retI (by decide +kernel) (by decide) (by decide) (by refine ⟨?_, rfl⟩; simp only [wof]; first | rw [if_pos c5] | rw [if_neg c5, if_pos c19] | rw [if_neg c5, if_neg c19, if_pos c32] | rw [if_neg c5, if_neg c19, if_neg c32])
      · refine X.blk hK (L := [(.iconst 4, 1, 4, 0), (.istore_n 2, 1, 0, 0), (.goto 6, 3, 0, 44), (.iload_n 2, 1, 0, 0)]) (pc' := 45) (ls' := #[.val (.long p1), .second, .val (.int (4 : Int32))]) (st' := [(.int (4 : Int32))]) (by decide +kernel) rfl ?_
        exact X.retI (by decide +kernel) (by decide) (by decide) (by refine ⟨?_, rfl⟩; simp only [wof]; first | rw [if_pos c5] | rw [if_neg c5, if_pos c19] | rw [if_neg c5, if_neg c19, if_pos c32] | rw [if_neg c5, if_neg c19, if_neg c32])
    · refine X.blk hK (L := [(.iconst 2, 1, 2, 0), (.istore_n 2, 1, 0, 0), (.goto 19, 3, 0, 44), (.iload_n 2, 1, 0, 0)]) (pc' := 45) (ls' := #[.val (.long p1), .second, .val (.int (2 : Int32))]) (st' := [(.int (2 : Int32))]) (by decide +kernel) rfl ?_
      exact X.retI (by decide +kernel) (by decide) (by decide) (by refine ⟨?_, rfl⟩; simp only [wof]; first | rw [if_pos c5] | rw [if_neg c5, if_pos c19] | rw [if_neg c5, if_neg c19, if_pos c32] | rw [if_neg c5, if_neg c19, if_neg c32])
  · refine X.blk hK (L := [(.iconst 1, 1, 1, 0), (.istore_n 2, 1, 0, 0), (.goto 33, 3, 0, 44), (.iload_n 2, 1, 0, 0)]) (pc' := 45) (ls' := #[.val (.long p1), .second, .val (.int (1 : Int32))]) (st' := [(.int (1 : Int32))]) (by decide +kernel) rfl ?_
    exact X.retI (by decide +kernel) (by decide) (by decide) (by refine ⟨?_, rfl⟩; simp only [wof]; first | rw [if_pos c5] | rw [if_neg c5, if_pos c19] | rw [if_neg c5, if_neg c19, if_pos c32] | rw [if_neg c5, if_neg c19, if_neg c32])
set_option maxRecDepth 65536 in
set_option maxHeartbeats 40000000 in
theorem rm_len1 (l : Launch) (Z : State) (a0 : Array Value) (hw : ∀ d ∈ tables_1, d.before a0 Z = true) (a ar : Addr) (n : Int32) (xs : List Int64) (h0 : Heap) (n0 : Nat) (Z0 : n0 ≤ h0.size) (I : CI1 Z h0 n0 a ar n xs) :
    Cnt l Z (⟨"com/example/millrace/millrace/examples/CompactIntegers", "length", "()I"⟩ : MethodName) prog_16_method_3_code 1 (some .int) ({ frames := 0, cells := 0, slots := 0, locals := 0 } : Room) n0 #[(.ref a)] h0 (fun v h => v = some (.int n) ∧ h0 = h) := by
  refine Cnt.mk (by first | exact plainFor_of_name (by first | (simp [plainName, overriddenIn]; done) | decide +kernel) | decide +kernel) Z0 ?_
  intro p e s m below meth c T X
  refine Go.cast (g' := mkF m 0 #[.val (.ref a)] []) (by first | (simp [entryFrame, mkF, argsToLocals, Value.category, maxLocals]; done) | rfl) ?_
  have hK : (∀ q ∈ ([] : List (Nat × Int32)), (Jvm.Cond.constant "com/example/millrace/millrace/examples/CompactIntegers" q.1 q.2).before a0 Z = true) ∧ (∀ q ∈ ([] : List (Nat × Int64)), (Jvm.Cond.constantLong "com/example/millrace/millrace/examples/CompactIntegers" q.1 q.2).before a0 Z = true) :=
    ⟨(fun q hq => nomatch hq), (fun q hq => nomatch hq)⟩
  obtain ⟨⟨EX, na, nr, nar⟩, ⟨FW, FA⟩, ⟨AA, HF, LN, r1, r7⟩, ⟨v1, v2, v4, v8, F1, F2, F4, F8⟩⟩ := I
  refine X.blk hK (L := [(.aload_n 0, 1, 0, 0)]) (pc' := 1) (ls' := #[.val (.ref a)]) (st' := [(.ref a)]) (by decide +kernel) rfl ?_
  refine X.getf 4 (hw _ (List.mem_of_getElem? (i := 12) rfl)) FW (by decide +kernel) ?_
  intro T1 X1
  refine X1.tsw 36 (df := 56) (lo := 1) (hi := 4) (offs := #[32, 40, 56, 48]) (n := 32) (by decide +kernel) ?_
  refine X1.blk hK (L := [(.aload_n 0, 1, 0, 0)]) (pc' := 37) (ls' := #[.val (.ref a)]) (st' := [(.ref a)]) (by decide +kernel) rfl ?_
  refine X1.getf 40 (hw _ (List.mem_of_getElem? (i := 15) rfl)) FA (by decide +kernel) ?_
  intro T2 X2
  refine X2.alen 41 (n := n) AA (by decide +kernel) (by rw [List.length_map, LN]; exact (back32 (own_nn r1)).1) ?_
  refine X2.blk hK (L := [(.goto 24, 3, 0, 65)]) (pc' := 65) (ls' := #[.val (.ref a)]) (st' := [(.int n)]) (by decide +kernel) rfl ?_
  exact X2.retI (by decide +kernel) (by decide) (by decide) (⟨rfl, rfl⟩)
set_option maxRecDepth 65536 in
set_option maxHeartbeats 40000000 in
theorem rm_get1 (l : Launch) (Z : State) (a0 : Array Value) (hw : ∀ d ∈ tables_1, d.before a0 Z = true) (a ar : Addr) (n i : Int32) (xs : List Int64) (z : Int64) (h0 : Heap) (n0 : Nat) (Z0 : n0 ≤ h0.size) (I : CI1 Z h0 n0 a ar n xs) (hi : ¬ i < 0) (hz : xs[i.toNatClampNeg]? = some z) :
    Cnt l Z (⟨"com/example/millrace/millrace/examples/CompactIntegers", "get", "(I)J"⟩ : MethodName) prog_16_method_4_code 2 (some .long) ({ frames := 0, cells := 0, slots := 0, locals := 0 } : Room) n0 #[(.ref a), (.int i)] h0 (fun v h => v = some (.long z) ∧ h0 = h) := by
  refine Cnt.mk (by first | exact plainFor_of_name (by first | (simp [plainName, overriddenIn]; done) | decide +kernel) | decide +kernel) Z0 ?_
  intro p e s m below meth c T X
  refine Go.cast (g' := mkF m 0 #[.val (.ref a), .val (.int i)] []) (by first | (simp [entryFrame, mkF, argsToLocals, Value.category, maxLocals]; done) | rfl) ?_
  have hK : (∀ q ∈ ([] : List (Nat × Int32)), (Jvm.Cond.constant "com/example/millrace/millrace/examples/CompactIntegers" q.1 q.2).before a0 Z = true) ∧ (∀ q ∈ ([] : List (Nat × Int64)), (Jvm.Cond.constantLong "com/example/millrace/millrace/examples/CompactIntegers" q.1 q.2).before a0 Z = true) :=
    ⟨(fun q hq => nomatch hq), (fun q hq => nomatch hq)⟩
  obtain ⟨⟨EX, na, nr, nar⟩, ⟨FW, FA⟩, ⟨AA, HF, LN, r1, r7⟩, ⟨v1, v2, v4, v8, F1, F2, F4, F8⟩⟩ := I
  have fz := HF z (List.mem_of_getElem? hz)
  refine X.blk hK (L := [(.aload_n 0, 1, 0, 0)]) (pc' := 1) (ls' := #[.val (.ref a), .val (.int i)]) (st' := [(.ref a)]) (by decide +kernel) rfl ?_
  refine X.getf 4 (hw _ (List.mem_of_getElem? (i := 12) rfl)) FW (by decide +kernel) ?_
  intro T1 X1
  refine X1.tsw 36 (df := 62) (lo := 1) (hi := 4) (offs := #[32, 42, 62, 52]) (n := 32) (by decide +kernel) ?_
  refine X1.blk hK (L := [(.aload_n 0, 1, 0, 0)]) (pc' := 37) (ls' := #[.val (.ref a), .val (.int i)]) (st' := [(.ref a)]) (by decide +kernel) rfl ?_
  refine X1.getf 40 (hw _ (List.mem_of_getElem? (i := 15) rfl)) FA (by decide +kernel) ?_
  intro T2 X2
  refine X2.blk hK (L := [(.iload_n 1, 1, 0, 0)]) (pc' := 41) (ls' := #[.val (.ref a), .val (.int i)]) (st' := [(.int i), (.ref ar)]) (by decide +kernel) rfl ?_
  refine X2.baload 42 AA (by decide +kernel) (hi) (by rw [List.getElem?_map, hz]; rfl) ?_
  refine X2.blk hK (L := [(.i2l, 1, 0, 0), (.goto 29, 3, 0, 72)]) (pc' := 72) (ls' := #[.val (.ref a), .val (.int i)]) (st' := [(.long z.toInt32.toInt64)]) (by decide +kernel) rfl ?_
  exact X2.retL (by decide +kernel) (by decide) (by decide) (⟨by rw [own_g1 fz], rfl⟩)
set_option maxRecDepth 65536 in
set_option maxHeartbeats 40000000 in
theorem rm_setN1 (l : Launch) (Z : State) (a0 : Array Value) (hw : ∀ d ∈ tables_1, d.before a0 Z = true) (a ar : Addr) (n i : Int32) (xs : List Int64) (z : Int64) (h0 : Heap) (n0 : Nat) (Z0 : n0 ≤ h0.size) (I : CI1 Z h0 n0 a ar n xs) (hi : ¬ i < 0) (hl : i.toNatClampNeg < xs.length) (fz : z.toInt32.toInt8.toInt32.toInt64 = z) (hwz : ¬ (1 : Int32) < wof z) :
    Cnt l Z (⟨"com/example/millrace/millrace/examples/CompactIntegers", "set", "(IJ)V"⟩ : MethodName) prog_16_method_5_code 5 none ({ frames := 1, cells := 0, slots := 0, locals := 14 } : Room) n0 #[(.ref a), (.int i), (.long z)] h0 (fun v h => v = none ∧ CI1 Z h n0 a ar n (xs.set i.toNatClampNeg z) ∧ Keep h0 h [ar]) := by
  refine Cnt.mk (by first | exact plainFor_of_name (by first | (simp [plainName, overriddenIn]; done) | decide +kernel) | decide +kernel) Z0 ?_
  intro p e s m below meth c T X
  refine Go.cast (g' := mkF m 0 #[.val (.ref a), .val (.int i), .val (.long z), .second, .unset] []) (by first | (simp [entryFrame, mkF, argsToLocals, Value.category, maxLocals]; done) | rfl) ?_
  have hK : (∀ q ∈ ([] : List (Nat × Int32)), (Jvm.Cond.constant "com/example/millrace/millrace/examples/CompactIntegers" q.1 q.2).before a0 Z = true) ∧ (∀ q ∈ ([] : List (Nat × Int64)), (Jvm.Cond.constantLong "com/example/millrace/millrace/examples/CompactIntegers" q.1 q.2).before a0 Z = true) :=
    ⟨(fun q hq => nomatch hq), (fun q hq => nomatch hq)⟩
  obtain ⟨⟨EX, na, nr, nar⟩, ⟨FW, FA⟩, ⟨AA, HF, LN, r1, r7⟩, ⟨v1, v2, v4, v8, F1, F2, F4, F8⟩⟩ := I
  refine X.blk hK (L := [(.lload_n 2, 1, 0, 0)]) (pc' := 1) (ls' := #[.val (.ref a), .val (.int i), .val (.long z), .second, .unset]) (st' := [(.long z)]) (by decide +kernel) rfl ?_
  refine X.callS 4 0 (argsL := [(.long z)]) (rest := []) (rm_wof l Z a0 hw z h0 n0 Z0) (hw _ (List.mem_of_getElem? (i := 46) rfl)) (hw _ (List.mem_of_getElem? (i := 47) rfl)) (hw _ (List.mem_of_getElem? (i := 2) rfl)) (hw _ (List.mem_of_getElem? (i := 48) rfl)) (by decide) (ps := [.long]) (r := some .int) (by decide +kernel) rfl rfl rfl rfl (by decide +kernel) (by decide) ?_
  rintro Tc hc vc Xc ⟨rfl, rfl⟩
  show Go p e below s _ n0 _ (Tc.setTop (mkF m 4 #[.val (.ref a), .val (.int i), .val (.long z), .second, .unset] [(.int (wof z))]))
  refine Xc.blk hK (L := [(.istore 4, 2, 0, 0), (.iload 4, 2, 0, 0), (.aload_n 0, 1, 0, 0)]) (pc' := 9) (ls' := #[.val (.ref a), .val (.int i), .val (.long z), .second, .val (.int (wof z))]) (st' := [(.ref a), (.int (wof z))]) (by decide +kernel) rfl ?_
  refine Xc.getf 12 (hw _ (List.mem_of_getElem? (i := 12) rfl)) FW (by decide +kernel) ?_
  intro T1 X1
  refine X1.icmp .le (9) 21 15 (by decide +kernel) (fun (c12 : ¬ (1 : Int32) < (wof z)) => ?_) (fun (c12 : (1 : Int32) < (wof z)) => absurd c12 (hwz : ¬ (1 : Int32) < (wof z)))
  refine X1.blk hK (L := [(.aload_n 0, 1, 0, 0)]) (pc' := 22) (ls' := #[.val (.ref a), .val (.int i), .val (.long z), .second, .val (.int (wof z))]) (st' := [(.ref a)]) (by decide +kernel) rfl ?_
  refine X1.getf 25 (hw _ (List.mem_of_getElem? (i := 12) rfl)) FW (by decide +kernel) ?_
  intro Tw Xw
  refine Xw.tsw 56 (df := 66) (lo := 1) (hi := 4) (offs := #[31, 43, 66, 55]) (n := 31) (by decide +kernel) ?_
  refine Xw.blk hK (L := [(.aload_n 0, 1, 0, 0)]) (pc' := 57) (ls' := #[.val (.ref a), .val (.int i), .val (.long z), .second, .val (.int (wof z))]) (st' := [(.ref a)]) (by decide +kernel) rfl ?_
  refine Xw.getf 60 (hw _ (List.mem_of_getElem? (i := 15) rfl)) FA (by decide +kernel) ?_
  intro Tx Xx
  refine Xx.blk hK (L := [(.iload_n 1, 1, 0, 0), (.lload_n 2, 1, 0, 0), (.l2i, 1, 0, 0), (.i2b, 1, 0, 0)]) (pc' := 64) (ls' := #[.val (.ref a), .val (.int i), .val (.long z), .second, .val (.int (wof z))]) (st' := [(.int z.toInt32.toInt8.toInt32), (.int i), (.ref ar)]) (by decide +kernel) rfl ?_
  refine Xx.bastore 65 (hx' := by show z.toInt32.toInt8.toInt32.toInt8.toInt32 = z.toInt32; rw [own_v1 fz, own_v1 fz]) AA (by decide +kernel) (hi) (by rw [List.length_map]; exact hl) (nr) ?_
  intro Ts hs Xs Ws AS
  refine Xs.blk hK (L := [(.goto 33, 3, 0, 98)]) (pc' := 98) (ls' := #[.val (.ref a), .val (.int i), .val (.long z), .second, .val (.int (wof z))]) (st' := []) (by decide +kernel) rfl ?_
  exact Xs.retV (by decide +kernel) (by decide) (by decide) (⟨rfl, ⟨⟨EX.wr Ws, na, nr, nar⟩, ⟨FW.other Ws (Or.inl nar), FA.other Ws (Or.inl nar)⟩, ⟨by rw [List.map_set]; exact AS, own_set_mem HF fz, by rw [List.length_set]; exact LN, r1, r7⟩, ⟨v1, v2, v4, v8, F1.other Ws (Or.inl nar), F2.other Ws (Or.inl nar), F4.other Ws (Or.inl nar), F8.other Ws (Or.inl nar)⟩⟩, Keep.of_wr Ws⟩)
set_option maxRecDepth 65536 in
set_option maxHeartbeats 40000000 in
theorem rm_initW1 (l : Launch) (Z : State) (a0 : Array Value) (hw : ∀ d ∈ tables_1, d.before a0 Z = true) (a : Addr) (n : Int32) (h0 : Heap) (n0 : Nat) (Z0 : n0 ≤ h0.size) (F0 : Fld Z h0 a "com/example/millrace/millrace/examples/CompactIntegers" "width" "I" (.int 0)) (F1 : Fld Z h0 a "com/example/millrace/millrace/examples/CompactIntegers" "bytes" "[B" (.null)) (F2 : Fld Z h0 a "com/example/millrace/millrace/examples/CompactIntegers" "shorts" "[S" (.null)) (F4 : Fld Z h0 a "com/example/millrace/millrace/examples/CompactIntegers" "ints" "[I" (.null)) (F8 : Fld Z h0 a "com/example/millrace/millrace/examples/CompactIntegers" "longs" "[J" (.null)) (E : Exa Z h0 a "com/example/millrace/millrace/examples/CompactIntegers") (ga : n0 ≤ a) (r1 : 0 ≤ n.toInt) (r7 : n.toInt ≤ 7) :
    Cnt l Z (⟨"com/example/millrace/millrace/examples/CompactIntegers", "<init>", "(II)V"⟩ : MethodName) prog_16_method_2_code 3 none ({ frames := 1, cells := 1, slots := 8, locals := 12 } : Room) n0 #[(.ref a), (.int (1 : Int32)), (.int n)] h0 (fun v h => v = none ∧ ∃ ar, CI1 Z h n0 a ar n (List.replicate n.toNatClampNeg (0 : Int64)) ∧ Fld Z h a "com/example/millrace/millrace/examples/CompactIntegers" "bytes" "[B" (.ref ar) ∧ Fld Z h a "com/example/millrace/millrace/examples/CompactIntegers" "shorts" "[S" (.null) ∧ Fld Z h a "com/example/millrace/millrace/examples/CompactIntegers" "ints" "[I" (.null) ∧ Fld Z h a "com/example/millrace/millrace/examples/CompactIntegers" "longs" "[J" (.null) ∧ Keep h0 h [a] ∧ h0.size ≤ ar) := by
  refine Cnt.mk (by first | exact plainFor_of_name (by first | (simp [plainName, overriddenIn]; done) | decide +kernel) | decide +kernel) Z0 ?_
  intro p e s m below meth c T X
  refine Go.cast (g' := mkF m 0 #[.val (.ref a), .val (.int (1 : Int32)), .val (.int n)] []) (by first | (simp [entryFrame, mkF, argsToLocals, Value.category, maxLocals]; done) | rfl) ?_
  have hK : (∀ q ∈ ([] : List (Nat × Int32)), (Jvm.Cond.constant "com/example/millrace/millrace/examples/CompactIntegers" q.1 q.2).before a0 Z = true) ∧ (∀ q ∈ ([] : List (Nat × Int64)), (Jvm.Cond.constantLong "com/example/millrace/millrace/examples/CompactIntegers" q.1 q.2).before a0 Z = true) :=
    ⟨(fun q hq => nomatch hq), (fun q hq => nomatch hq)⟩
  have l_n : n.toNatClampNeg ≤ 8 := by have := own_nat r1; omega
  refine X.blk hK (L := [(.aload_n 0, 1, 0, 0)]) (pc' := 1) (ls' := #[.val (.ref a), .val (.int (1 : Int32)), .val (.int n)]) (st' := [(.ref a)]) (by decide +kernel) rfl ?_
  refine X.initO 4 0 (hw _ (List.mem_of_getElem? (i := 9) rfl)) (hw _ (List.mem_of_getElem? (i := 10) rfl)) (hw _ (List.mem_of_getElem? (i := 11) rfl)) rfl rfl (by decide +kernel) (by decide) ?_
  intro T0 X0
  refine X0.blk hK (L := [(.aload_n 0, 1, 0, 0), (.iload_n 1, 1, 0, 0)]) (pc' := 6) (ls' := #[.val (.ref a), .val (.int (1 : Int32)), .val (.int n)]) (st' := [(.int (1 : Int32)), (.ref a)]) (by decide +kernel) rfl ?_
  refine X0.putf 9 (hw _ (List.mem_of_getElem? (i := 12) rfl)) F0 E (Or.inl (hw _ (List.mem_of_getElem? (i := 13) rfl))) (hw _ (List.mem_of_getElem? (i := 1) rfl)) (ty := .int) (by decide) rfl (rfl) (ga) (by decide +kernel) ?_
  intro T1 h1 X1 W1
  have G1 := F1.other W1 (Or.inr (slot_ne (t := .array .byte) (t' := .int) (Or.inl (hw _ (List.mem_of_getElem? (i := 16) rfl))) (Or.inl (hw _ (List.mem_of_getElem? (i := 13) rfl))) (by decide) (by decide) (by decide)))
  have G2 := F2.other W1 (Or.inr (slot_ne (t := .array .short) (t' := .int) (Or.inl (hw _ (List.mem_of_getElem? (i := 65) rfl))) (Or.inl (hw _ (List.mem_of_getElem? (i := 13) rfl))) (by decide) (by decide) (by decide)))
  have G4 := F4.other W1 (Or.inr (slot_ne (t := .array .int) (t' := .int) (Or.inl (hw _ (List.mem_of_getElem? (i := 67) rfl))) (Or.inl (hw _ (List.mem_of_getElem? (i := 13) rfl))) (by decide) (by decide) (by decide)))
  have G8 := F8.other W1 (Or.inr (slot_ne (t := .array .long) (t' := .int) (Or.inl (hw _ (List.mem_of_getElem? (i := 57) rfl))) (Or.inl (hw _ (List.mem_of_getElem? (i := 13) rfl))) (by decide) (by decide) (by decide)))
  have GW := F0.same W1
  refine X1.blk hK (L := [(.iload_n 1, 1, 0, 0)]) (pc' := 10) (ls' := #[.val (.ref a), .val (.int (1 : Int32)), .val (.int n)]) (st' := [(.int (1 : Int32))]) (by decide +kernel) rfl ?_
  refine X1.tsw 40 (df := 60) (lo := 1) (hi := 4) (offs := #[30, 40, 60, 50]) (n := 30) (by decide +kernel) ?_
  refine X1.blk hK (L := [(.aload_n 0, 1, 0, 0), (.iload_n 2, 1, 0, 0)]) (pc' := 42) (ls' := #[.val (.ref a), .val (.int (1 : Int32)), .val (.int n)]) (st' := [(.int n), (.ref a)]) (by decide +kernel) rfl ?_
  refine X1.newarr 44 8 (aty := .byte) (hw _ (List.mem_of_getElem? (i := 14) rfl)) rfl (by decide +kernel) (own_nn r1) (l_n) (by decide) ?_
  intro Tn hn Xn En A1
  obtain ⟨an, gn⟩ : ∃ z, z = h1.size := ⟨_, rfl⟩
  rw [← gn] at A1 ⊢
  have dd : a ≠ an := by rw [gn]; exact Nat.ne_of_lt GW.lt
  have A1 : AV Z hn an .byte (List.replicate n.toNatClampNeg (.int 0)) := A1
  refine Xn.putf 47 (hw _ (List.mem_of_getElem? (i := 15) rfl)) (G1.ext En) ((E.wr W1).ext En) (Or.inl (hw _ (List.mem_of_getElem? (i := 16) rfl))) (hw _ (List.mem_of_getElem? (i := 1) rfl)) (ty := (.array .byte)) (by decide) rfl (rfl) (ga) (by decide +kernel) ?_
  intro T2 h2 X2 W2
  have H1 : Fld Z h2 a "com/example/millrace/millrace/examples/CompactIntegers" "bytes" "[B" (.ref an) := (G1.ext En).same W2
  have H2 : Fld Z h2 a "com/example/millrace/millrace/examples/CompactIntegers" "shorts" "[S" (.null) := (G2.ext En).other W2 (Or.inr (slot_ne (t := .array .short) (t' := .array .byte) (Or.inl (hw _ (List.mem_of_getElem? (i := 65) rfl))) (Or.inl (hw _ (List.mem_of_getElem? (i := 16) rfl))) (by decide) (by decide) (by decide)))
  have H4 : Fld Z h2 a "com/example/millrace/millrace/examples/CompactIntegers" "ints" "[I" (.null) := (G4.ext En).other W2 (Or.inr (slot_ne (t := .array .int) (t' := .array .byte) (Or.inl (hw _ (List.mem_of_getElem? (i := 67) rfl))) (Or.inl (hw _ (List.mem_of_getElem? (i := 16) rfl))) (by decide) (by decide) (by decide)))
  have H8 : Fld Z h2 a "com/example/millrace/millrace/examples/CompactIntegers" "longs" "[J" (.null) := (G8.ext En).other W2 (Or.inr (slot_ne (t := .array .long) (t' := .array .byte) (Or.inl (hw _ (List.mem_of_getElem? (i := 57) rfl))) (Or.inl (hw _ (List.mem_of_getElem? (i := 16) rfl))) (by decide) (by decide) (by decide)))
  refine X2.blk hK (L := [(.goto 30, 3, 0, 77)]) (pc' := 77) (ls' := #[.val (.ref a), .val (.int (1 : Int32)), .val (.int n)]) (st' := []) (by decide +kernel) rfl ?_
  exact X2.retV (by decide +kernel) (by decide) (by decide) (⟨rfl, an, ⟨⟨((E.wr W1).ext En).wr W2, ga, by rw [gn]; exact X1.size, dd⟩, ⟨(GW.ext En).other W2 (Or.inr (slot_ne (t := .int) (t' := .array .byte) (Or.inl (hw _ (List.mem_of_getElem? (i := 13) rfl))) (Or.inl (hw _ (List.mem_of_getElem? (i := 16) rfl))) (by decide) (by decide) (by decide))), H1⟩, ⟨by rw [List.map_replicate]; exact A1.other W2 dd.symm, fun z hz => by rw [(List.mem_replicate.mp hz).2]; decide, by simp, r1, r7⟩, ⟨_, _, _, _, H1, H2, H4, H8⟩⟩, H1, H2, H4, H8, ((Keep.of_wr W1).ext En).wr W2 (Or.inl (List.mem_singleton.mpr rfl)), by rw [gn, W1.size]; exact Nat.le_refl _⟩)
set_option maxRecDepth 65536 in
set_option maxHeartbeats 40000000 in
theorem rm_len2 (l : Launch) (Z : State) (a0 : Array Value) (hw : ∀ d ∈ tables_1, d.before a0 Z = true) (a ar : Addr) (n : Int32) (xs : List Int64) (h0 : Heap) (n0 : Nat) (Z0 : n0 ≤ h0.size) (I : CI2 Z h0 n0 a ar n xs) :
    Cnt l Z (⟨"com/example/millrace/millrace/examples/CompactIntegers", "length", "()I"⟩ : MethodName) prog_16_method_3_code 1 (some .int) ({ frames := 0, cells := 0, slots := 0, locals := 0 } : Room) n0 #[(.ref a)] h0 (fun v h => v = some (.int n) ∧ h0 = h) := by
  refine Cnt.mk (by first | exact plainFor_of_name (by first | (simp [plainName, overriddenIn]; done) | decide +kernel) | decide +kernel) Z0 ?_
  intro p e s m below meth c T X
  refine Go.cast (g' := mkF m 0 #[.val (.ref a)] []) (by first | (simp [entryFrame, mkF, argsToLocals, Value.category, maxLocals]; done) | rfl) ?_
  have hK : (∀ q ∈ ([] : List (Nat × Int32)), (Jvm.Cond.constant "com/example/millrace/millrace/examples/CompactIntegers" q.1 q.2).before a0 Z = true) ∧ (∀ q ∈ ([] : List (Nat × Int64)), (Jvm.Cond.constantLong "com/example/millrace/millrace/examples/CompactIntegers" q.1 q.2).before a0 Z = true) :=
    ⟨(fun q hq => nomatch hq), (fun q hq => nomatch hq)⟩
  obtain ⟨⟨EX, na, nr, nar⟩, ⟨FW, FA⟩, ⟨AA, HF, LN, r1, r7⟩, ⟨v1, v2, v4, v8, F1, F2, F4, F8⟩⟩ := I
  refine X.blk hK (L := [(.aload_n 0, 1, 0, 0)]) (pc' := 1) (ls' := #[.val (.ref a)]) (st' := [(.ref a)]) (by decide +kernel) rfl ?_
  refine X.getf 4 (hw _ (List.mem_of_getElem? (i := 12) rfl)) FW (by decide +kernel) ?_
  intro T1 X1
  refine X1.tsw 44 (df := 56) (lo := 1) (hi := 4) (offs := #[32, 40, 56, 48]) (n := 32) (by decide +kernel) ?_
  refine X1.blk hK (L := [(.aload_n 0, 1, 0, 0)]) (pc' := 45) (ls' := #[.val (.ref a)]) (st' := [(.ref a)]) (by decide +kernel) rfl ?_
  refine X1.getf 48 (hw _ (List.mem_of_getElem? (i := 64) rfl)) FA (by decide +kernel) ?_
  intro T2 X2
  refine X2.alen 49 (n := n) AA (by decide +kernel) (by rw [List.length_map, LN]; exact (back32 (own_nn r1)).1) ?_
  refine X2.blk hK (L := [(.goto 16, 3, 0, 65)]) (pc' := 65) (ls' := #[.val (.ref a)]) (st' := [(.int n)]) (by decide +kernel) rfl ?_
  exact X2.retI (by decide +kernel) (by decide) (by decide) (⟨rfl, rfl⟩)
set_option maxRecDepth 65536 in
set_option maxHeartbeats 40000000 in
theorem rm_get2 (l : Launch) (Z : State) (a0 : Array Value) (hw : ∀ d ∈ tables_1, d.before a0 Z = true) (a ar : Addr) (n i : Int32) (xs : List Int64) (z : Int64) (h0 : Heap) (n0 : Nat) (Z0 : n0 ≤ h0.size) (I : CI2 Z h0 n0 a ar n xs) (hi : ¬ i < 0) (hz : xs[i.toNatClampNeg]? = some z) :
    Cnt l Z (⟨"com/example/millrace/millrace/examples/CompactIntegers", "get", "(I)J"⟩ : MethodName) prog_16_method_4_code 2 (some .long) ({ frames := 0, cells := 0, slots := 0, locals := 0 } : Room) n0 #[(.ref a), (.int i)] h0 (fun v h => v = some (.long z) ∧ h0 = h) := by
  refine Cnt.mk (by first | exact plainFor_of_name (by first | (simp [plainName, overriddenIn]; done) | decide +kernel) | decide +kernel) Z0 ?_
  intro p e s m below meth c T X
  refine Go.cast (g' := mkF m 0 #[.val (.ref a), .val (.int i)] []) (by first | (simp [entryFrame, mkF, argsToLocals, Value.category, maxLocals]; done) | rfl) ?_
  have hK : (∀ q ∈ ([] : List (Nat × Int32)), (Jvm.Cond.constant "com/example/millrace/millrace/examples/CompactIntegers" q.1 q.2).before a0 Z = true) ∧ (∀ q ∈ ([] : List (Nat × Int64)), (Jvm.Cond.constantLong "com/example/millrace/millrace/examples/CompactIntegers" q.1 q.2).before a0 Z = true) :=
    ⟨(fun q hq => nomatch hq), (fun q hq => nomatch hq)⟩
  obtain ⟨⟨EX, na, nr, nar⟩, ⟨FW, FA⟩, ⟨AA, HF, LN, r1, r7⟩, ⟨v1, v2, v4, v8, F1, F2, F4, F8⟩⟩ := I
  have fz := HF z (List.mem_of_getElem? hz)
  refine X.blk hK (L := [(.aload_n 0, 1, 0, 0)]) (pc' := 1) (ls' := #[.val (.ref a), .val (.int i)]) (st' := [(.ref a)]) (by decide +kernel) rfl ?_
  refine X.getf 4 (hw _ (List.mem_of_getElem? (i := 12) rfl)) FW (by decide +kernel) ?_
  intro T1 X1
  refine X1.tsw 46 (df := 62) (lo := 1) (hi := 4) (offs := #[32, 42, 62, 52]) (n := 32) (by decide +kernel) ?_
  refine X1.blk hK (L := [(.aload_n 0, 1, 0, 0)]) (pc' := 47) (ls' := #[.val (.ref a), .val (.int i)]) (st' := [(.ref a)]) (by decide +kernel) rfl ?_
  refine X1.getf 50 (hw _ (List.mem_of_getElem? (i := 64) rfl)) FA (by decide +kernel) ?_
  intro T2 X2
  refine X2.blk hK (L := [(.iload_n 1, 1, 0, 0)]) (pc' := 51) (ls' := #[.val (.ref a), .val (.int i)]) (st' := [(.int i), (.ref ar)]) (by decide +kernel) rfl ?_
  refine X2.saload 52 AA (by decide +kernel) (hi) (by rw [List.getElem?_map, hz]; rfl) ?_
  refine X2.blk hK (L := [(.i2l, 1, 0, 0), (.goto 19, 3, 0, 72)]) (pc' := 72) (ls' := #[.val (.ref a), .val (.int i)]) (st' := [(.long z.toInt32.toInt64)]) (by decide +kernel) rfl ?_
  exact X2.retL (by decide +kernel) (by decide) (by decide) (⟨by rw [own_g2 fz], rfl⟩)
set_option maxRecDepth 65536 in
set_option maxHeartbeats 40000000 in
theorem rm_setN2 (l : Launch) (Z : State) (a0 : Array Value) (hw : ∀ d ∈ tables_1, d.before a0 Z = true) (a ar : Addr) (n i : Int32) (xs : List Int64) (z : Int64) (h0 : Heap) (n0 : Nat) (Z0 : n0 ≤ h0.size) (I : CI2 Z h0 n0 a ar n xs) (hi : ¬ i < 0) (hl : i.toNatClampNeg < xs.length) (fz : z.toInt32.toInt16.toInt32.toInt64 = z) (hwz : ¬ (2 : Int32) < wof z) :
    Cnt l Z (⟨"com/example/millrace/millrace/examples/CompactIntegers", "set", "(IJ)V"⟩ : MethodName) prog_16_method_5_code 5 none ({ frames := 1, cells := 0, slots := 0, locals := 14 } : Room) n0 #[(.ref a), (.int i), (.long z)] h0 (fun v h => v = none ∧ CI2 Z h n0 a ar n (xs.set i.toNatClampNeg z) ∧ Keep h0 h [ar]) := by
  refine Cnt.mk (by first | exact plainFor_of_name (by first | (simp [plainName, overriddenIn]; done) | decide +kernel) | decide +kernel) Z0 ?_
  intro p e s m below meth c T X
  refine Go.cast (g' := mkF m 0 #[.val (.ref a), .val (.int i), .val (.long z), .second, .unset] []) (by first | (simp [entryFrame, mkF, argsToLocals, Value.category, maxLocals]; done) | rfl) ?_
  have hK : (∀ q ∈ ([] : List (Nat × Int32)), (Jvm.Cond.constant "com/example/millrace/millrace/examples/CompactIntegers" q.1 q.2).before a0 Z = true) ∧ (∀ q ∈ ([] : List (Nat × Int64)), (Jvm.Cond.constantLong "com/example/millrace/millrace/examples/CompactIntegers" q.1 q.2).before a0 Z = true) :=
    ⟨(fun q hq => nomatch hq), (fun q hq => nomatch hq)⟩
  obtain ⟨⟨EX, na, nr, nar⟩, ⟨FW, FA⟩, ⟨AA, HF, LN, r1, r7⟩, ⟨v1, v2, v4, v8, F1, F2, F4, F8⟩⟩ := I
  refine X.blk hK (L := [(.lload_n 2, 1, 0, 0)]) (pc' := 1) (ls' := #[.val (.ref a), .val (.int i), .val (.long z), .second, .unset]) (st' := [(.long z)]) (by decide +kernel) rfl ?_
  refine X.callS 4 0 (argsL := [(.long z)]) (rest := []) (rm_wof l Z a0 hw z h0 n0 Z0) (hw _ (List.mem_of_getElem? (i := 46) rfl)) (hw _ (List.mem_of_getElem? (i := 47) rfl)) (hw _ (List.mem_of_getElem? (i := 2) rfl)) (hw _ (List.mem_of_getElem? (i := 48) rfl)) (by decide) (ps := [.long]) (r := some .int) (by decide +kernel) rfl rfl rfl rfl (by decide +kernel) (by decide) ?_
  rintro Tc hc vc Xc ⟨rfl, rfl⟩
  show Go p e below s _ n0 _ (Tc.setTop (mkF m 4 #[.val (.ref a), .val (.int i), .val (.long z), .second, .unset] [(.int (wof z))]))
  refine Xc.blk hK (L := [(.istore 4, 2, 0, 0), (.iload 4, 2, 0, 0), (.aload_n 0, 1, 0, 0)]) (pc' := 9) (ls' := #[.val (.ref a), .val (.int i), .val (.long z), .second, .val (.int (wof z))]) (st' := [(.ref a), (.int (wof z))]) (by decide +kernel) rfl ?_
  refine Xc.getf 12 (hw _ (List.mem_of_getElem? (i := 12) rfl)) FW (by decide +kernel) ?_
  intro T1 X1
  refine X1.icmp .le (9) 21 15 (by decide +kernel) (fun (c12 : ¬ (2 : Int32) < (wof z)) => ?_) (fun (c12 : (2 : Int32) < (wof z)) => absurd c12 (hwz : ¬ (2 : Int32) < (wof z)))
  refine X1.blk hK (L := [(.aload_n 0, 1, 0, 0)]) (pc' := 22) (ls' := #[.val (.ref a), .val (.int i), .val (.long z), .second, .val (.int (wof z))]) (st' := [(.ref a)]) (by decide +kernel) rfl ?_
  refine X1.getf 25 (hw _ (List.mem_of_getElem? (i := 12) rfl)) FW (by decide +kernel) ?_
  intro Tw Xw
  refine Xw.tsw 68 (df := 66) (lo := 1) (hi := 4) (offs := #[31, 43, 66, 55]) (n := 31) (by decide +kernel) ?_
  refine Xw.blk hK (L := [(.aload_n 0, 1, 0, 0)]) (pc' := 69) (ls' := #[.val (.ref a), .val (.int i), .val (.long z), .second, .val (.int (wof z))]) (st' := [(.ref a)]) (by decide +kernel) rfl ?_
  refine Xw.getf 72 (hw _ (List.mem_of_getElem? (i := 64) rfl)) FA (by decide +kernel) ?_
  intro Tx Xx
  refine Xx.blk hK (L := [(.iload_n 1, 1, 0, 0), (.lload_n 2, 1, 0, 0), (.l2i, 1, 0, 0), (.i2s, 1, 0, 0)]) (pc' := 76) (ls' := #[.val (.ref a), .val (.int i), .val (.long z), .second, .val (.int (wof z))]) (st' := [(.int z.toInt32.toInt16.toInt32), (.int i), (.ref ar)]) (by decide +kernel) rfl ?_
  refine Xx.sastore 77 (hx' := by show z.toInt32.toInt16.toInt32.toInt16.toInt32 = z.toInt32; rw [own_v2 fz, own_v2 fz]) AA (by decide +kernel) (hi) (by rw [List.length_map]; exact hl) (nr) ?_
  intro Ts hs Xs Ws AS
  refine Xs.blk hK (L := [(.goto 21, 3, 0, 98)]) (pc' := 98) (ls' := #[.val (.ref a), .val (.int i), .val (.long z), .second, .val (.int (wof z))]) (st' := []) (by decide +kernel) rfl ?_
  exact Xs.retV (by decide +kernel) (by decide) (by decide) (⟨rfl, ⟨⟨EX.wr Ws, na, nr, nar⟩, ⟨FW.other Ws (Or.inl nar), FA.other Ws (Or.inl nar)⟩, ⟨by rw [List.map_set]; exact AS, own_set_mem HF fz, by rw [List.length_set]; exact LN, r1, r7⟩, ⟨v1, v2, v4, v8, F1.other Ws (Or.inl nar), F2.other Ws (Or.inl nar), F4.other Ws (Or.inl nar), F8.other Ws (Or.inl nar)⟩⟩, Keep.of_wr Ws⟩)
set_option maxRecDepth 65536 in
set_option maxHeartbeats 40000000 in
theorem rm_initW2 (l : Launch) (Z : State) (a0 : Array Value) (hw : ∀ d ∈ tables_1, d.before a0 Z = true) (a : Addr) (n : Int32) (h0 : Heap) (n0 : Nat) (Z0 : n0 ≤ h0.size) (F0 : Fld Z h0 a "com/example/millrace/millrace/examples/CompactIntegers" "width" "I" (.int 0)) (F1 : Fld Z h0 a "com/example/millrace/millrace/examples/CompactIntegers" "bytes" "[B" (.null)) (F2 : Fld Z h0 a "com/example/millrace/millrace/examples/CompactIntegers" "shorts" "[S" (.null)) (F4 : Fld Z h0 a "com/example/millrace/millrace/examples/CompactIntegers" "ints" "[I" (.null)) (F8 : Fld Z h0 a "com/example/millrace/millrace/examples/CompactIntegers" "longs" "[J" (.null)) (E : Exa Z h0 a "com/example/millrace/millrace/examples/CompactIntegers") (ga : n0 ≤ a) (r1 : 0 ≤ n.toInt) (r7 : n.toInt ≤ 7) :
    Cnt l Z (⟨"com/example/millrace/millrace/examples/CompactIntegers", "<init>", "(II)V"⟩ : MethodName) prog_16_method_2_code 3 none ({ frames := 1, cells := 1, slots := 8, locals := 12 } : Room) n0 #[(.ref a), (.int (2 : Int32)), (.int n)] h0 (fun v h => v = none ∧ ∃ ar, CI2 Z h n0 a ar n (List.replicate n.toNatClampNeg (0 : Int64)) ∧ Fld Z h a "com/example/millrace/millrace/examples/CompactIntegers" "bytes" "[B" (.null) ∧ Fld Z h a "com/example/millrace/millrace/examples/CompactIntegers" "shorts" "[S" (.ref ar) ∧ Fld Z h a "com/example/millrace/millrace/examples/CompactIntegers" "ints" "[I" (.null) ∧ Fld Z h a "com/example/millrace/millrace/examples/CompactIntegers" "longs" "[J" (.null) ∧ Keep h0 h [a] ∧ h0.size ≤ ar) := by
  refine Cnt.mk (by first | exact plainFor_of_name (by first | (simp [plainName, overriddenIn]; done) | decide +kernel) | decide +kernel) Z0 ?_
  intro p e s m below meth c T X
  refine Go.cast (g' := mkF m 0 #[.val (.ref a), .val (.int (2 : Int32)), .val (.int n)] []) (by first | (simp [entryFrame, mkF, argsToLocals, Value.category, maxLocals]; done) | rfl) ?_
  have hK : (∀ q ∈ ([] : List (Nat × Int32)), (Jvm.Cond.constant "com/example/millrace/millrace/examples/CompactIntegers" q.1 q.2).before a0 Z = true) ∧ (∀ q ∈ ([] : List (Nat × Int64)), (Jvm.Cond.constantLong "com/example/millrace/millrace/examples/CompactIntegers" q.1 q.2).before a0 Z = true) :=
    ⟨(fun q hq => nomatch hq), (fun q hq => nomatch hq)⟩
  have l_n : n.toNatClampNeg ≤ 8 := by have := own_nat r1; omega
  refine X.blk hK (L := [(.aload_n 0, 1, 0, 0)]) (pc' := 1) (ls' := #[.val (.ref a), .val (.int (2 : Int32)), .val (.int n)]) (st' := [(.ref a)]) (by decide +kernel) rfl ?_
  refine X.initO 4 0 (hw _ (List.mem_of_getElem? (i := 9) rfl)) (hw _ (List.mem_of_getElem? (i := 10) rfl)) (hw _ (List.mem_of_getElem? (i := 11) rfl)) rfl rfl (by decide +kernel) (by decide) ?_
  intro T0 X0
  refine X0.blk hK (L := [(.aload_n 0, 1, 0, 0), (.iload_n 1, 1, 0, 0)]) (pc' := 6) (ls' := #[.val (.ref a), .val (.int (2 : Int32)), .val (.int n)]) (st' := [(.int (2 : Int32)), (.ref a)]) (by decide +kernel) rfl ?_
  refine X0.putf 9 (hw _ (List.mem_of_getElem? (i := 12) rfl)) F0 E (Or.inl (hw _ (List.mem_of_getElem? (i := 13) rfl))) (hw _ (List.mem_of_getElem? (i := 1) rfl)) (ty := .int) (by decide) rfl (rfl) (ga) (by decide +kernel) ?_
  intro T1 h1 X1 W1
  have G1 := F1.other W1 (Or.inr (slot_ne (t := .array .byte) (t' := .int) (Or.inl (hw _ (List.mem_of_getElem? (i := 16) rfl))) (Or.inl (hw _ (List.mem_of_getElem? (i := 13) rfl))) (by decide) (by decide) (by decide)))
  have G2 := F2.other W1 (Or.inr (slot_ne (t := .array .short) (t' := .int) (Or.inl (hw _ (List.mem_of_getElem? (i := 65) rfl))) (Or.inl (hw _ (List.mem_of_getElem? (i := 13) rfl))) (by decide) (by decide) (by decide)))
  have G4 := F4.other W1 (Or.inr (slot_ne (t := .array .int) (t' := .int) (Or.inl (hw _ (List.mem_of_getElem? (i := 67) rfl))) (Or.inl (hw _ (List.mem_of_getElem? (i := 13) rfl))) (by decide) (by decide) (by decide)))
  have G8 := F8.other W1 (Or.inr (slot_ne (t := .array .long) (t' := .int) (Or.inl (hw _ (List.mem_of_getElem? (i := 57) rfl))) (Or.inl (hw _ (List.mem_of_getElem? (i := 13) rfl))) (by decide) (by decide) (by decide)))
  have GW := F0.same W1
  refine X1.blk hK (L := [(.iload_n 1, 1, 0, 0)]) (pc' := 10) (ls' := #[.val (.ref a), .val (.int (2 : Int32)), .val (.int n)]) (st' := [(.int (2 : Int32))]) (by decide +kernel) rfl ?_
  refine X1.tsw 50 (df := 60) (lo := 1) (hi := 4) (offs := #[30, 40, 60, 50]) (n := 30) (by decide +kernel) ?_
  refine X1.blk hK (L := [(.aload_n 0, 1, 0, 0), (.iload_n 2, 1, 0, 0)]) (pc' := 52) (ls' := #[.val (.ref a), .val (.int (2 : Int32)), .val (.int n)]) (st' := [(.int n), (.ref a)]) (by decide +kernel) rfl ?_
  refine X1.newarr 54 8 (aty := .short) (hw _ (List.mem_of_getElem? (i := 84) rfl)) rfl (by decide +kernel) (own_nn r1) (l_n) (by decide) ?_
  intro Tn hn Xn En A1
  obtain ⟨an, gn⟩ : ∃ z, z = h1.size := ⟨_, rfl⟩
  rw [← gn] at A1 ⊢
  have dd : a ≠ an := by rw [gn]; exact Nat.ne_of_lt GW.lt
  have A1 : AV Z hn an .short (List.replicate n.toNatClampNeg (.int 0)) := A1
  refine Xn.putf 57 (hw _ (List.mem_of_getElem? (i := 64) rfl)) (G2.ext En) ((E.wr W1).ext En) (Or.inl (hw _ (List.mem_of_getElem? (i := 65) rfl))) (hw _ (List.mem_of_getElem? (i := 1) rfl)) (ty := (.array .short)) (by decide) rfl (rfl) (ga) (by decide +kernel) ?_
  intro T2 h2 X2 W2
  have H1 : Fld Z h2 a "com/example/millrace/millrace/examples/CompactIntegers" "bytes" "[B" (.null) := (G1.ext En).other W2 (Or.inr (slot_ne (t := .array .byte) (t' := .array .short) (Or.inl (hw _ (List.mem_of_getElem? (i := 16) rfl))) (Or.inl (hw _ (List.mem_of_getElem? (i := 65) rfl))) (by decide) (by decide) (by decide)))
  have H2 : Fld Z h2 a "com/example/millrace/millrace/examples/CompactIntegers" "shorts" "[S" (.ref an) := (G2.ext En).same W2
  have H4 : Fld Z h2 a "com/example/millrace/millrace/examples/CompactIntegers" "ints" "[I" (.null) := (G4.ext En).other W2 (Or.inr (slot_ne (t := .array .int) (t' := .array .short) (Or.inl (hw _ (List.mem_of_getElem? (i := 67) rfl))) (Or.inl (hw _ (List.mem_of_getElem? (i := 65) rfl))) (by decide) (by decide) (by decide)))
  have H8 : Fld Z h2 a "com/example/millrace/millrace/examples/CompactIntegers" "longs" "[J" (.null) := (G8.ext En).other W2 (Or.inr (slot_ne (t := .array .long) (t' := .array .short) (Or.inl (hw _ (List.mem_of_getElem? (i := 57) rfl))) (Or.inl (hw _ (List.mem_of_getElem? (i := 65) rfl))) (by decide) (by decide) (by decide)))
  refine X2.blk hK (L := [(.goto 20, 3, 0, 77)]) (pc' := 77) (ls' := #[.val (.ref a), .val (.int (2 : Int32)), .val (.int n)]) (st' := []) (by decide +kernel) rfl ?_
  exact X2.retV (by decide +kernel) (by decide) (by decide) (⟨rfl, an, ⟨⟨((E.wr W1).ext En).wr W2, ga, by rw [gn]; exact X1.size, dd⟩, ⟨(GW.ext En).other W2 (Or.inr (slot_ne (t := .int) (t' := .array .short) (Or.inl (hw _ (List.mem_of_getElem? (i := 13) rfl))) (Or.inl (hw _ (List.mem_of_getElem? (i := 65) rfl))) (by decide) (by decide) (by decide))), H2⟩, ⟨by rw [List.map_replicate]; exact A1.other W2 dd.symm, fun z hz => by rw [(List.mem_replicate.mp hz).2]; decide, by simp, r1, r7⟩, ⟨_, _, _, _, H1, H2, H4, H8⟩⟩, H1, H2, H4, H8, ((Keep.of_wr W1).ext En).wr W2 (Or.inl (List.mem_singleton.mpr rfl)), by rw [gn, W1.size]; exact Nat.le_refl _⟩)
set_option maxRecDepth 65536 in
set_option maxHeartbeats 40000000 in
theorem rm_len4 (l : Launch) (Z : State) (a0 : Array Value) (hw : ∀ d ∈ tables_1, d.before a0 Z = true) (a ar : Addr) (n : Int32) (xs : List Int64) (h0 : Heap) (n0 : Nat) (Z0 : n0 ≤ h0.size) (I : CI4 Z h0 n0 a ar n xs) :
    Cnt l Z (⟨"com/example/millrace/millrace/examples/CompactIntegers", "length", "()I"⟩ : MethodName) prog_16_method_3_code 1 (some .int) ({ frames := 0, cells := 0, slots := 0, locals := 0 } : Room) n0 #[(.ref a)] h0 (fun v h => v = some (.int n) ∧ h0 = h) := by
  refine Cnt.mk (by first | exact plainFor_of_name (by first | (simp [plainName, overriddenIn]; done) | decide +kernel) | decide +kernel) Z0 ?_
  intro p e s m below meth c T X
  refine Go.cast (g' := mkF m 0 #[.val (.ref a)] []) (by first | (simp [entryFrame, mkF, argsToLocals, Value.category, maxLocals]; done) | rfl) ?_
  have hK : (∀ q ∈ ([] : List (Nat × Int32)), (Jvm.Cond.constant "com/example/millrace/millrace/examples/CompactIntegers" q.1 q.2).before a0 Z = true) ∧ (∀ q ∈ ([] : List (Nat × Int64)), (Jvm.Cond.constantLong "com/example/millrace/millrace/examples/CompactIntegers" q.1 q.2).before a0 Z = true) :=
    ⟨(fun q hq => nomatch hq), (fun q hq => nomatch hq)⟩
  obtain ⟨⟨EX, na, nr, nar⟩, ⟨FW, FA⟩, ⟨AA, HF, LN, r1, r7⟩, ⟨v1, v2, v4, v8, F1, F2, F4, F8⟩⟩ := I
  refine X.blk hK (L := [(.aload_n 0, 1, 0, 0)]) (pc' := 1) (ls' := #[.val (.ref a)]) (st' := [(.ref a)]) (by decide +kernel) rfl ?_
  refine X.getf 4 (hw _ (List.mem_of_getElem? (i := 12) rfl)) FW (by decide +kernel) ?_
  intro T1 X1
  refine X1.tsw 52 (df := 56) (lo := 1) (hi := 4) (offs := #[32, 40, 56, 48]) (n := 32) (by decide +kernel) ?_
  refine X1.blk hK (L := [(.aload_n 0, 1, 0, 0)]) (pc' := 53) (ls' := #[.val (.ref a)]) (st' := [(.ref a)]) (by decide +kernel) rfl ?_
  refine X1.getf 56 (hw _ (List.mem_of_getElem? (i := 66) rfl)) FA (by decide +kernel) ?_
  intro T2 X2
  refine X2.alen 57 (n := n) AA (by decide +kernel) (by rw [List.length_map, LN]; exact (back32 (own_nn r1)).1) ?_
  refine X2.blk hK (L := [(.goto 8, 3, 0, 65)]) (pc' := 65) (ls' := #[.val (.ref a)]) (st' := [(.int n)]) (by decide +kernel) rfl ?_
  exact X2.retI (by decide +kernel) (by decide) (by decide) (⟨rfl, rfl⟩)
set_option maxRecDepth 65536 in
set_option maxHeartbeats 40000000 in
theorem rm_get4 (l : Launch) (Z : State) (a0 : Array Value) (hw : ∀ d ∈ tables_1, d.before a0 Z = true) (a ar : Addr) (n i : Int32) (xs : List Int64) (z : Int64) (h0 : Heap) (n0 : Nat) (Z0 : n0 ≤ h0.size) (I : CI4 Z h0 n0 a ar n xs) (hi : ¬ i < 0) (hz : xs[i.toNatClampNeg]? = some z) :
    Cnt l Z (⟨"com/example/millrace/millrace/examples/CompactIntegers", "get", "(I)J"⟩ : MethodName) prog_16_method_4_code 2 (some .long) ({ frames := 0, cells := 0, slots := 0, locals := 0 } : Room) n0 #[(.ref a), (.int i)] h0 (fun v h => v = some (.long z) ∧ h0 = h) := by
  refine Cnt.mk (by first | exact plainFor_of_name (by first | (simp [plainName, overriddenIn]; done) | decide +kernel) | decide +kernel) Z0 ?_
  intro p e s m below meth c T X
  refine Go.cast (g' := mkF m 0 #[.val (.ref a), .val (.int i)] []) (by first | (simp [entryFrame, mkF, argsToLocals, Value.category, maxLocals]; done) | rfl) ?_
  have hK : (∀ q ∈ ([] : List (Nat × Int32)), (Jvm.Cond.constant "com/example/millrace/millrace/examples/CompactIntegers" q.1 q.2).before a0 Z = true) ∧ (∀ q ∈ ([] : List (Nat × Int64)), (Jvm.Cond.constantLong "com/example/millrace/millrace/examples/CompactIntegers" q.1 q.2).before a0 Z = true) :=
    ⟨(fun q hq => nomatch hq), (fun q hq => nomatch hq)⟩
  obtain ⟨⟨EX, na, nr, nar⟩, ⟨FW, FA⟩, ⟨AA, HF, LN, r1, r7⟩, ⟨v1, v2, v4, v8, F1, F2, F4, F8⟩⟩ := I
  have fz := HF z (List.mem_of_getElem? hz)
  refine X.blk hK (L := [(.aload_n 0, 1, 0, 0)]) (pc' := 1) (ls' := #[.val (.ref a), .val (.int i)]) (st' := [(.ref a)]) (by decide +kernel) rfl ?_
  refine X.getf 4 (hw _ (List.mem_of_getElem? (i := 12) rfl)) FW (by decide +kernel) ?_
  intro T1 X1
  refine X1.tsw 56 (df := 62) (lo := 1) (hi := 4) (offs := #[32, 42, 62, 52]) (n := 32) (by decide +kernel) ?_
  refine X1.blk hK (L := [(.aload_n 0, 1, 0, 0)]) (pc' := 57) (ls' := #[.val (.ref a), .val (.int i)]) (st' := [(.ref a)]) (by decide +kernel) rfl ?_
  refine X1.getf 60 (hw _ (List.mem_of_getElem? (i := 66) rfl)) FA (by decide +kernel) ?_
  intro T2 X2
  refine X2.blk hK (L := [(.iload_n 1, 1, 0, 0)]) (pc' := 61) (ls' := #[.val (.ref a), .val (.int i)]) (st' := [(.int i), (.ref ar)]) (by decide +kernel) rfl ?_
  refine X2.iaload 62 AA (by decide +kernel) (hi) (by rw [List.getElem?_map, hz]; rfl) ?_
  refine X2.blk hK (L := [(.i2l, 1, 0, 0), (.goto 9, 3, 0, 72)]) (pc' := 72) (ls' := #[.val (.ref a), .val (.int i)]) (st' := [(.long z.toInt32.toInt64)]) (by decide +kernel) rfl ?_
  exact X2.retL (by decide +kernel) (by decide) (by decide) (⟨by rw [fz], rfl⟩)
set_option maxRecDepth 65536 in
set_option maxHeartbeats 40000000 in
theorem rm_setN4 (l : Launch) (Z : State) (a0 : Array Value) (hw : ∀ d ∈ tables_1, d.before a0 Z = true) (a ar : Addr) (n i : Int32) (xs : List Int64) (z : Int64) (h0 : Heap) (n0 : Nat) (Z0 : n0 ≤ h0.size) (I : CI4 Z h0 n0 a ar n xs) (hi : ¬ i < 0) (hl : i.toNatClampNeg < xs.length) (fz : z.toInt32.toInt64 = z) (hwz : ¬ (4 : Int32) < wof z) :
    Cnt l Z (⟨"com/example/millrace/millrace/examples/CompactIntegers", "set", "(IJ)V"⟩ : MethodName) prog_16_method_5_code 5 none ({ frames := 1, cells := 0, slots := 0, locals := 14 } : Room) n0 #[(.ref a), (.int i), (.long z)] h0 (fun v h => v = none ∧ CI4 Z h n0 a ar n (xs.set i.toNatClampNeg z) ∧ Keep h0 h [ar]) := by
  refine Cnt.mk (by first | exact plainFor_of_name (by first | (simp [plainName, overriddenIn]; done) | decide +kernel) | decide +kernel) Z0 ?_
  intro p e s m below meth c T X
  refine Go.cast (g' := mkF m 0 #[.val (.ref a), .val (.int i), .val (.long z), .second, .unset] []) (by first | (simp [entryFrame, mkF, argsToLocals, Value.category, maxLocals]; done) | rfl) ?_
  have hK : (∀ q ∈ ([] : List (Nat × Int32)), (Jvm.Cond.constant "com/example/millrace/millrace/examples/CompactIntegers" q.1 q.2).before a0 Z = true) ∧ (∀ q ∈ ([] : List (Nat × Int64)), (Jvm.Cond.constantLong "com/example/millrace/millrace/examples/CompactIntegers" q.1 q.2).before a0 Z = true) :=
    ⟨(fun q hq => nomatch hq), (fun q hq => nomatch hq)⟩
  obtain ⟨⟨EX, na, nr, nar⟩, ⟨FW, FA⟩, ⟨AA, HF, LN, r1, r7⟩, ⟨v1, v2, v4, v8, F1, F2, F4, F8⟩⟩ := I
  refine X.blk hK (L := [(.lload_n 2, 1, 0, 0)]) (pc' := 1) (ls' := #[.val (.ref a), .val (.int i), .val (.long z), .second, .unset]) (st' := [(.long z)]) (by decide +kernel) rfl ?_
  refine X.callS 4 0 (argsL := [(.long z)]) (rest := []) (rm_wof l Z a0 hw z h0 n0 Z0) (hw _ (List.mem_of_getElem? (i := 46) rfl)) (hw _ (List.mem_of_getElem? (i := 47) rfl)) (hw _ (List.mem_of_getElem? (i := 2) rfl)) (hw _ (List.mem_of_getElem? (i := 48) rfl)) (by decide) (ps := [.long]) (r := some .int) (by decide +kernel) rfl rfl rfl rfl (by decide +kernel) (by decide) ?_
  rintro Tc hc vc Xc ⟨rfl, rfl⟩
  show Go p e below s _ n0 _ (Tc.setTop (mkF m 4 #[.val (.ref a), .val (.int i), .val (.long z), .second, .unset] [(.int (wof z))]))
  refine Xc.blk hK (L := [(.istore 4, 2, 0, 0), (.iload 4, 2, 0, 0), (.aload_n 0, 1, 0, 0)]) (pc' := 9) (ls' := #[.val (.ref a), .val (.int i), .val (.long z), .second, .val (.int (wof z))]) (st' := [(.ref a), (.int (wof z))]) (by decide +kernel) rfl ?_
  refine Xc.getf 12 (hw _ (List.mem_of_getElem? (i := 12) rfl)) FW (by decide +kernel) ?_
  intro T1 X1
  refine X1.icmp .le (9) 21 15 (by decide +kernel) (fun (c12 : ¬ (4 : Int32) < (wof z)) => ?_) (fun (c12 : (4 : Int32) < (wof z)) => absurd c12 (hwz : ¬ (4 : Int32) < (wof z)))
  refine X1.blk hK (L := [(.aload_n 0, 1, 0, 0)]) (pc' := 22) (ls' := #[.val (.ref a), .val (.int i), .val (.long z), .second, .val (.int (wof z))]) (st' := [(.ref a)]) (by decide +kernel) rfl ?_
  refine X1.getf 25 (hw _ (List.mem_of_getElem? (i := 12) rfl)) FW (by decide +kernel) ?_
  intro Tw Xw
  refine Xw.tsw 80 (df := 66) (lo := 1) (hi := 4) (offs := #[31, 43, 66, 55]) (n := 31) (by decide +kernel) ?_
  refine Xw.blk hK (L := [(.aload_n 0, 1, 0, 0)]) (pc' := 81) (ls' := #[.val (.ref a), .val (.int i), .val (.long z), .second, .val (.int (wof z))]) (st' := [(.ref a)]) (by decide +kernel) rfl ?_
  refine Xw.getf 84 (hw _ (List.mem_of_getElem? (i := 66) rfl)) FA (by decide +kernel) ?_
  intro Tx Xx
  refine Xx.blk hK (L := [(.iload_n 1, 1, 0, 0), (.lload_n 2, 1, 0, 0), (.l2i, 1, 0, 0)]) (pc' := 87) (ls' := #[.val (.ref a), .val (.int i), .val (.long z), .second, .val (.int (wof z))]) (st' := [(.int z.toInt32), (.int i), (.ref ar)]) (by decide +kernel) rfl ?_
  refine Xx.iastore 88 AA (by decide +kernel) (hi) (by rw [List.length_map]; exact hl) (nr) ?_
  intro Ts hs Xs Ws AS
  refine Xs.blk hK (L := [(.goto 10, 3, 0, 98)]) (pc' := 98) (ls' := #[.val (.ref a), .val (.int i), .val (.long z), .second, .val (.int (wof z))]) (st' := []) (by decide +kernel) rfl ?_
  exact Xs.retV (by decide +kernel) (by decide) (by decide) (⟨rfl, ⟨⟨EX.wr Ws, na, nr, nar⟩, ⟨FW.other Ws (Or.inl nar), FA.other Ws (Or.inl nar)⟩, ⟨by rw [List.map_set]; exact AS, own_set_mem HF fz, by rw [List.length_set]; exact LN, r1, r7⟩, ⟨v1, v2, v4, v8, F1.other Ws (Or.inl nar), F2.other Ws (Or.inl nar), F4.other Ws (Or.inl nar), F8.other Ws (Or.inl nar)⟩⟩, Keep.of_wr Ws⟩)
set_option maxRecDepth 65536 in
set_option maxHeartbeats 40000000 in
theorem rm_initW4 (l : Launch) (Z : State) (a0 : Array Value) (hw : ∀ d ∈ tables_1, d.before a0 Z = true) (a : Addr) (n : Int32) (h0 : Heap) (n0 : Nat) (Z0 : n0 ≤ h0.size) (F0 : Fld Z h0 a "com/example/millrace/millrace/examples/CompactIntegers" "width" "I" (.int 0)) (F1 : Fld Z h0 a "com/example/millrace/millrace/examples/CompactIntegers" "bytes" "[B" (.null)) (F2 : Fld Z h0 a "com/example/millrace/millrace/examples/CompactIntegers" "shorts" "[S" (.null)) (F4 : Fld Z h0 a "com/example/millrace/millrace/examples/CompactIntegers" "ints" "[I" (.null)) (F8 : Fld Z h0 a "com/example/millrace/millrace/examples/CompactIntegers" "longs" "[J" (.null)) (E : Exa Z h0 a "com/example/millrace/millrace/examples/CompactIntegers") (ga : n0 ≤ a) (r1 : 0 ≤ n.toInt) (r7 : n.toInt ≤ 7) :
    Cnt l Z (⟨"com/example/millrace/millrace/examples/CompactIntegers", "<init>", "(II)V"⟩ : MethodName) prog_16_method_2_code 3 none ({ frames := 1, cells := 1, slots := 8, locals := 12 } : Room) n0 #[(.ref a), (.int (4 : Int32)), (.int n)] h0 (fun v h => v = none ∧ ∃ ar, CI4 Z h n0 a ar n (List.replicate n.toNatClampNeg (0 : Int64)) ∧ Fld Z h a "com/example/millrace/millrace/examples/CompactIntegers" "bytes" "[B" (.null) ∧ Fld Z h a "com/example/millrace/millrace/examples/CompactIntegers" "shorts" "[S" (.null) ∧ Fld Z h a "com/example/millrace/millrace/examples/CompactIntegers" "ints" "[I" (.ref ar) ∧ Fld Z h a "com/example/millrace/millrace/examples/CompactIntegers" "longs" "[J" (.null) ∧ Keep h0 h [a] ∧ h0.size ≤ ar) := by
  refine Cnt.mk (by first | exact plainFor_of_name (by first | (simp [plainName, overriddenIn]; done) | decide +kernel) | decide +kernel) Z0 ?_
  intro p e s m below meth c T X
  refine Go.cast (g' := mkF m 0 #[.val (.ref a), .val (.int (4 : Int32)), .val (.int n)] []) (by first | (simp [entryFrame, mkF, argsToLocals, Value.category, maxLocals]; done) | rfl) ?_
  have hK : (∀ q ∈ ([] : List (Nat × Int32)), (Jvm.Cond.constant "com/example/millrace/millrace/examples/CompactIntegers" q.1 q.2).before a0 Z = true) ∧ (∀ q ∈ ([] : List (Nat × Int64)), (Jvm.Cond.constantLong "com/example/millrace/millrace/examples/CompactIntegers" q.1 q.2).before a0 Z = true) :=
    ⟨(fun q hq => nomatch hq), (fun q hq => nomatch hq)⟩
  have l_n : n.toNatClampNeg ≤ 8 := by have := own_nat r1; omega
  refine X.blk hK (L := [(.aload_n 0, 1, 0, 0)]) (pc' := 1) (ls' := #[.val (.ref a), .val (.int (4 : Int32)), .val (.int n)]) (st' := [(.ref a)]) (by decide +kernel) rfl ?_
  refine X.initO 4 0 (hw _ (List.mem_of_getElem? (i := 9) rfl)) (hw _ (List.mem_of_getElem? (i := 10) rfl)) (hw _ (List.mem_of_getElem? (i := 11) rfl)) rfl rfl (by decide +kernel) (by decide) ?_
  intro T0 X0
  refine X0.blk hK (L := [(.aload_n 0, 1, 0, 0), (.iload_n 1, 1, 0, 0)]) (pc' := 6) (ls' := #[.val (.ref a), .val (.int (4 : Int32)), .val (.int n)]) (st' := [(.int (4 : Int32)), (.ref a)]) (by decide +kernel) rfl ?_
  refine X0.putf 9 (hw _ (List.mem_of_getElem? (i := 12) rfl)) F0 E (Or.inl (hw _ (List.mem_of_getElem? (i := 13) rfl))) (hw _ (List.mem_of_getElem? (i := 1) rfl)) (ty := .int) (by decide) rfl (rfl) (ga) (by decide +kernel) ?_
  intro T1 h1 X1 W1
  have G1 := F1.other W1 (Or.inr (slot_ne (t := .array .byte) (t' := .int) (Or.inl (hw _ (List.mem_of_getElem? (i := 16) rfl))) (Or.inl (hw _ (List.mem_of_getElem? (i := 13) rfl))) (by decide) (by decide) (by decide)))
  have G2 := F2.other W1 (Or.inr (slot_ne (t := .array .short) (t' := .int) (Or.inl (hw _ (List.mem_of_getElem? (i := 65) rfl))) (Or.inl (hw _ (List.mem_of_getElem? (i := 13) rfl))) (by decide) (by decide) (by decide)))
  have G4 := F4.other W1 (Or.inr (slot_ne (t := .array .int) (t' := .int) (Or.inl (hw _ (List.mem_of_getElem? (i := 67) rfl))) (Or.inl (hw _ (List.mem_of_getElem? (i := 13) rfl))) (by decide) (by decide) (by decide)))
  have G8 := F8.other W1 (Or.inr (slot_ne (t := .array .long) (t' := .int) (Or.inl (hw _ (List.mem_of_getElem? (i := 57) rfl))) (Or.inl (hw _ (List.mem_of_getElem? (i := 13) rfl))) (by decide) (by decide) (by decide)))
  have GW := F0.same W1
  refine X1.blk hK (L := [(.iload_n 1, 1, 0, 0)]) (pc' := 10) (ls' := #[.val (.ref a), .val (.int (4 : Int32)), .val (.int n)]) (st' := [(.int (4 : Int32))]) (by decide +kernel) rfl ?_
  refine X1.tsw 60 (df := 60) (lo := 1) (hi := 4) (offs := #[30, 40, 60, 50]) (n := 30) (by decide +kernel) ?_
  refine X1.blk hK (L := [(.aload_n 0, 1, 0, 0), (.iload_n 2, 1, 0, 0)]) (pc' := 62) (ls' := #[.val (.ref a), .val (.int (4 : Int32)), .val (.int n)]) (st' := [(.int n), (.ref a)]) (by decide +kernel) rfl ?_
  refine X1.newarr 64 8 (aty := .int) (hw _ (List.mem_of_getElem? (i := 80) rfl)) rfl (by decide +kernel) (own_nn r1) (l_n) (by decide) ?_
  intro Tn hn Xn En A1
  obtain ⟨an, gn⟩ : ∃ z, z = h1.size := ⟨_, rfl⟩
  rw [← gn] at A1 ⊢
  have dd : a ≠ an := by rw [gn]; exact Nat.ne_of_lt GW.lt
  have A1 : AV Z hn an .int (List.replicate n.toNatClampNeg (.int 0)) := A1
  refine Xn.putf 67 (hw _ (List.mem_of_getElem? (i := 66) rfl)) (G4.ext En) ((E.wr W1).ext En) (Or.inl (hw _ (List.mem_of_getElem? (i := 67) rfl))) (hw _ (List.mem_of_getElem? (i := 1) rfl)) (ty := (.array .int)) (by decide) rfl (rfl) (ga) (by decide +kernel) ?_
  intro T2 h2 X2 W2
  have H1 : Fld Z h2 a "com/example/millrace/millrace/examples/CompactIntegers" "bytes" "[B" (.null) := (G1.ext En).other W2 (Or.inr (slot_ne (t := .array .byte) (t' := .array .int) (Or.inl (hw _ (List.mem_of_getElem? (i := 16) rfl))) (Or.inl (hw _ (List.mem_of_getElem? (i := 67) rfl))) (by decide) (by decide) (by decide)))
  have H2 : Fld Z h2 a "com/example/millrace/millrace/examples/CompactIntegers" "shorts" "[S" (.null) := (G2.ext En).other W2 (Or.inr (slot_ne (t := .array .short) (t' := .array .int) (Or.inl (hw _ (List.mem_of_getElem? (i := 65) rfl))) (Or.inl (hw _ (List.mem_of_getElem? (i := 67) rfl))) (by decide) (by decide) (by decide)))
  have H4 : Fld Z h2 a "com/example/millrace/millrace/examples/CompactIntegers" "ints" "[I" (.ref an) := (G4.ext En).same W2
  have H8 : Fld Z h2 a "com/example/millrace/millrace/examples/CompactIntegers" "longs" "[J" (.null) := (G8.ext En).other W2 (Or.inr (slot_ne (t := .array .long) (t' := .array .int) (Or.inl (hw _ (List.mem_of_getElem? (i := 57) rfl))) (Or.inl (hw _ (List.mem_of_getElem? (i := 67) rfl))) (by decide) (by decide) (by decide)))
  refine X2.blk hK (L := [(.goto 10, 3, 0, 77)]) (pc' := 77) (ls' := #[.val (.ref a), .val (.int (4 : Int32)), .val (.int n)]) (st' := []) (by decide +kernel) rfl ?_
  exact X2.retV (by decide +kernel) (by decide) (by decide) (⟨rfl, an, ⟨⟨((E.wr W1).ext En).wr W2, ga, by rw [gn]; exact X1.size, dd⟩, ⟨(GW.ext En).other W2 (Or.inr (slot_ne (t := .int) (t' := .array .int) (Or.inl (hw _ (List.mem_of_getElem? (i := 13) rfl))) (Or.inl (hw _ (List.mem_of_getElem? (i := 67) rfl))) (by decide) (by decide) (by decide))), H4⟩, ⟨by rw [List.map_replicate]; exact A1.other W2 dd.symm, fun z hz => by rw [(List.mem_replicate.mp hz).2]; decide, by simp, r1, r7⟩, ⟨_, _, _, _, H1, H2, H4, H8⟩⟩, H1, H2, H4, H8, ((Keep.of_wr W1).ext En).wr W2 (Or.inl (List.mem_singleton.mpr rfl)), by rw [gn, W1.size]; exact Nat.le_refl _⟩)
set_option maxRecDepth 65536 in
set_option maxHeartbeats 40000000 in
theorem rm_len8 (l : Launch) (Z : State) (a0 : Array Value) (hw : ∀ d ∈ tables_1, d.before a0 Z = true) (a ar : Addr) (n : Int32) (xs : List Int64) (h0 : Heap) (n0 : Nat) (Z0 : n0 ≤ h0.size) (I : CI8 Z h0 n0 a ar n xs) :
    Cnt l Z (⟨"com/example/millrace/millrace/examples/CompactIntegers", "length", "()I"⟩ : MethodName) prog_16_method_3_code 1 (some .int) ({ frames := 0, cells := 0, slots := 0, locals := 0 } : Room) n0 #[(.ref a)] h0 (fun v h => v = some (.int n) ∧ h0 = h) := by
  refine Cnt.mk (by first | exact plainFor_of_name (by first | (simp [plainName, overriddenIn]; done) | decide +kernel) | decide +kernel) Z0 ?_
  intro p e s m below meth c T X
  refine Go.cast (g' := mkF m 0 #[.val (.ref a)] []) (by first | (simp [entryFrame, mkF, argsToLocals, Value.category, maxLocals]; done) | rfl) ?_
  have hK : (∀ q ∈ ([] : List (Nat × Int32)), (Jvm.Cond.constant "com/example/millrace/millrace/examples/CompactIntegers" q.1 q.2).before a0 Z = true) ∧ (∀ q ∈ ([] : List (Nat × Int64)), (Jvm.Cond.constantLong "com/example/millrace/millrace/examples/CompactIntegers" q.1 q.2).before a0 Z = true) :=
    ⟨(fun q hq => nomatch hq), (fun q hq => nomatch hq)⟩
  obtain ⟨⟨EX, na, nr, nar⟩, ⟨FW, FA⟩, ⟨AA, HF, LN, r1, r7⟩, ⟨v1, v2, v4, v8, F1, F2, F4, F8⟩⟩ := I
  refine X.blk hK (L := [(.aload_n 0, 1, 0, 0)]) (pc' := 1) (ls' := #[.val (.ref a)]) (st' := [(.ref a)]) (by decide +kernel) rfl ?_
  refine X.getf 4 (hw _ (List.mem_of_getElem? (i := 12) rfl)) FW (by decide +kernel) ?_
  intro T1 X1
  refine X1.tsw 60 (df := 56) (lo := 1) (hi := 4) (offs := #[32, 40, 56, 48]) (n := 32) (by decide +kernel) ?_
  refine X1.blk hK (L := [(.aload_n 0, 1, 0, 0)]) (pc' := 61) (ls' := #[.val (.ref a)]) (st' := [(.ref a)]) (by decide +kernel) rfl ?_
  refine X1.getf 64 (hw _ (List.mem_of_getElem? (i := 56) rfl)) FA (by decide +kernel) ?_
  intro T2 X2
  refine X2.alen 65 (n := n) AA (by decide +kernel) (by rw [List.length_map, LN]; exact (back32 (own_nn r1)).1) ?_
  exact X2.retI (by decide +kernel) (by decide) (by decide) (⟨rfl, rfl⟩)
set_option maxRecDepth 65536 in
set_option maxHeartbeats 40000000 in
theorem rm_get8 (l : Launch) (Z : State) (a0 : Array Value) (hw : ∀ d ∈ tables_1, d.before a0 Z = true) (a ar : Addr) (n i : Int32) (xs : List Int64) (z : Int64) (h0 : Heap) (n0 : Nat) (Z0 : n0 ≤ h0.size) (I : CI8 Z h0 n0 a ar n xs) (hi : ¬ i < 0) (hz : xs[i.toNatClampNeg]? = some z) :
    Cnt l Z (⟨"com/example/millrace/millrace/examples/CompactIntegers", "get", "(I)J"⟩ : MethodName) prog_16_method_4_code 2 (some .long) ({ frames := 0, cells := 0, slots := 0, locals := 0 } : Room) n0 #[(.ref a), (.int i)] h0 (fun v h => v = some (.long z) ∧ h0 = h) := by
  refine Cnt.mk (by first | exact plainFor_of_name (by first | (simp [plainName, overriddenIn]; done) | decide +kernel) | decide +kernel) Z0 ?_
  intro p e s m below meth c T X
  refine Go.cast (g' := mkF m 0 #[.val (.ref a), .val (.int i)] []) (by first | (simp [entryFrame, mkF, argsToLocals, Value.category, maxLocals]; done) | rfl) ?_
  have hK : (∀ q ∈ ([] : List (Nat × Int32)), (Jvm.Cond.constant "com/example/millrace/millrace/examples/CompactIntegers" q.1 q.2).before a0 Z = true) ∧ (∀ q ∈ ([] : List (Nat × Int64)), (Jvm.Cond.constantLong "com/example/millrace/millrace/examples/CompactIntegers" q.1 q.2).before a0 Z = true) :=
    ⟨(fun q hq => nomatch hq), (fun q hq => nomatch hq)⟩
  obtain ⟨⟨EX, na, nr, nar⟩, ⟨FW, FA⟩, ⟨AA, HF, LN, r1, r7⟩, ⟨v1, v2, v4, v8, F1, F2, F4, F8⟩⟩ := I
  have fz := HF z (List.mem_of_getElem? hz)
  refine X.blk hK (L := [(.aload_n 0, 1, 0, 0)]) (pc' := 1) (ls' := #[.val (.ref a), .val (.int i)]) (st' := [(.ref a)]) (by decide +kernel) rfl ?_
  refine X.getf 4 (hw _ (List.mem_of_getElem? (i := 12) rfl)) FW (by decide +kernel) ?_
  intro T1 X1
  refine X1.tsw 66 (df := 62) (lo := 1) (hi := 4) (offs := #[32, 42, 62, 52]) (n := 32) (by decide +kernel) ?_
  refine X1.blk hK (L := [(.aload_n 0, 1, 0, 0)]) (pc' := 67) (ls' := #[.val (.ref a), .val (.int i)]) (st' := [(.ref a)]) (by decide +kernel) rfl ?_
  refine X1.getf 70 (hw _ (List.mem_of_getElem? (i := 56) rfl)) FA (by decide +kernel) ?_
  intro T2 X2
  refine X2.blk hK (L := [(.iload_n 1, 1, 0, 0)]) (pc' := 71) (ls' := #[.val (.ref a), .val (.int i)]) (st' := [(.int i), (.ref ar)]) (by decide +kernel) rfl ?_
  refine X2.laload 72 AA (by decide +kernel) (hi) (by rw [List.getElem?_map, hz]; rfl) ?_
  exact X2.retL (by decide +kernel) (by decide) (by decide) (⟨rfl, rfl⟩)
set_option maxRecDepth 65536 in
set_option maxHeartbeats 40000000 in
theorem rm_setN8 (l : Launch) (Z : State) (a0 : Array Value) (hw : ∀ d ∈ tables_1, d.before a0 Z = true) (a ar : Addr) (n i : Int32) (xs : List Int64) (z : Int64) (h0 : Heap) (n0 : Nat) (Z0 : n0 ≤ h0.size) (I : CI8 Z h0 n0 a ar n xs) (hi : ¬ i < 0) (hl : i.toNatClampNeg < xs.length) (fz : True ∨ z = z) (hwz : ¬ (8 : Int32) < wof z) :
    Cnt l Z (⟨"com/example/millrace/millrace/examples/CompactIntegers", "set", "(IJ)V"⟩ : MethodName) prog_16_method_5_code 5 none ({ frames := 1, cells := 0, slots := 0, locals := 14 } : Room) n0 #[(.ref a), (.int i), (.long z)] h0 (fun v h => v = none ∧ CI8 Z h n0 a ar n (xs.set i.toNatClampNeg z) ∧ Keep h0 h [ar]) := by
  refine Cnt.mk (by first | exact plainFor_of_name (by first | (simp [plainName, overriddenIn]; done) | decide +kernel) | decide +kernel) Z0 ?_
  intro p e s m below meth c T X
  refine Go.cast (g' := mkF m 0 #[.val (.ref a), .val (.int i), .val (.long z), .second, .unset] []) (by first | (simp [entryFrame, mkF, argsToLocals, Value.category, maxLocals]; done) | rfl) ?_
  have hK : (∀ q ∈ ([] : List (Nat × Int32)), (Jvm.Cond.constant "com/example/millrace/millrace/examples/CompactIntegers" q.1 q.2).before a0 Z = true) ∧ (∀ q ∈ ([] : List (Nat × Int64)), (Jvm.Cond.constantLong "com/example/millrace/millrace/examples/CompactIntegers" q.1 q.2).before a0 Z = true) :=
    ⟨(fun q hq => nomatch hq), (fun q hq => nomatch hq)⟩
  obtain ⟨⟨EX, na, nr, nar⟩, ⟨FW, FA⟩, ⟨AA, HF, LN, r1, r7⟩, ⟨v1, v2, v4, v8, F1, F2, F4, F8⟩⟩ := I
  refine X.blk hK (L := [(.lload_n 2, 1, 0, 0)]) (pc' := 1) (ls' := #[.val (.ref a), .val (.int i), .val (.long z), .second, .unset]) (st' := [(.long z)]) (by decide +kernel) rfl ?_
  refine X.callS 4 0 (argsL := [(.long z)]) (rest := []) (rm_wof l Z a0 hw z h0 n0 Z0) (hw _ (List.mem_of_getElem? (i := 46) rfl)) (hw _ (List.mem_of_getElem? (i := 47) rfl)) (hw _ (List.mem_of_getElem? (i := 2) rfl)) (hw _ (List.mem_of_getElem? (i := 48) rfl)) (by decide) (ps := [.long]) (r := some .int) (by decide +kernel) rfl rfl rfl rfl (by decide +kernel) (by decide) ?_
  rintro Tc hc vc Xc ⟨rfl, rfl⟩
  show Go p e below s _ n0 _ (Tc.setTop (mkF m 4 #[.val (.ref a), .val (.int i), .val (.long z), .second, .unset] [(.int (wof z))]))
  refine Xc.blk hK (L := [(.istore 4, 2, 0, 0), (.iload 4, 2, 0, 0), (.aload_n 0, 1, 0, 0)]) (pc' := 9) (ls' := #[.val (.ref a), .val (.int i), .val (.long z), .second, .val (.int (wof z))]) (st' := [(.ref a), (.int (wof z))]) (by decide +kernel) rfl ?_
  refine Xc.getf 12 (hw _ (List.mem_of_getElem? (i := 12) rfl)) FW (by decide +kernel) ?_
  intro T1 X1
  refine X1.icmp .le (9) 21 15 (by decide +kernel) (fun (c12 : ¬ (8 : Int32) < (wof z)) => ?_) (fun (c12 : (8 : Int32) < (wof z)) => absurd c12 (hwz : ¬ (8 : Int32) < (wof z)))
  refine X1.blk hK (L := [(.aload_n 0, 1, 0, 0)]) (pc' := 22) (ls' := #[.val (.ref a), .val (.int i), .val (.long z), .second, .val (.int (wof z))]) (st' := [(.ref a)]) (by decide +kernel) rfl ?_
  refine X1.getf 25 (hw _ (List.mem_of_getElem? (i := 12) rfl)) FW (by decide +kernel) ?_
  intro Tw Xw
  refine Xw.tsw 91 (df := 66) (lo := 1) (hi := 4) (offs := #[31, 43, 66, 55]) (n := 31) (by decide +kernel) ?_
  refine Xw.blk hK (L := [(.aload_n 0, 1, 0, 0)]) (pc' := 92) (ls' := #[.val (.ref a), .val (.int i), .val (.long z), .second, .val (.int (wof z))]) (st' := [(.ref a)]) (by decide +kernel) rfl ?_
  refine Xw.getf 95 (hw _ (List.mem_of_getElem? (i := 56) rfl)) FA (by decide +kernel) ?_
  intro Tx Xx
  refine Xx.blk hK (L := [(.iload_n 1, 1, 0, 0), (.lload_n 2, 1, 0, 0)]) (pc' := 97) (ls' := #[.val (.ref a), .val (.int i), .val (.long z), .second, .val (.int (wof z))]) (st' := [(.long z), (.int i), (.ref ar)]) (by decide +kernel) rfl ?_
  refine Xx.lastore 98 AA (by decide +kernel) (hi) (by rw [List.length_map]; exact hl) (nr) ?_
  intro Ts hs Xs Ws AS
  exact Xs.retV (by decide +kernel) (by decide) (by decide) (⟨rfl, ⟨⟨EX.wr Ws, na, nr, nar⟩, ⟨FW.other Ws (Or.inl nar), FA.other Ws (Or.inl nar)⟩, ⟨by rw [List.map_set]; exact AS, own_set_mem HF fz, by rw [List.length_set]; exact LN, r1, r7⟩, ⟨v1, v2, v4, v8, F1.other Ws (Or.inl nar), F2.other Ws (Or.inl nar), F4.other Ws (Or.inl nar), F8.other Ws (Or.inl nar)⟩⟩, Keep.of_wr Ws⟩)
set_option maxRecDepth 65536 in
set_option maxHeartbeats 40000000 in
theorem rm_initW8 (l : Launch) (Z : State) (a0 : Array Value) (hw : ∀ d ∈ tables_1, d.before a0 Z = true) (a : Addr) (n : Int32) (h0 : Heap) (n0 : Nat) (Z0 : n0 ≤ h0.size) (F0 : Fld Z h0 a "com/example/millrace/millrace/examples/CompactIntegers" "width" "I" (.int 0)) (F1 : Fld Z h0 a "com/example/millrace/millrace/examples/CompactIntegers" "bytes" "[B" (.null)) (F2 : Fld Z h0 a "com/example/millrace/millrace/examples/CompactIntegers" "shorts" "[S" (.null)) (F4 : Fld Z h0 a "com/example/millrace/millrace/examples/CompactIntegers" "ints" "[I" (.null)) (F8 : Fld Z h0 a "com/example/millrace/millrace/examples/CompactIntegers" "longs" "[J" (.null)) (E : Exa Z h0 a "com/example/millrace/millrace/examples/CompactIntegers") (ga : n0 ≤ a) (r1 : 0 ≤ n.toInt) (r7 : n.toInt ≤ 7) :
    Cnt l Z (⟨"com/example/millrace/millrace/examples/CompactIntegers", "<init>", "(II)V"⟩ : MethodName) prog_16_method_2_code 3 none ({ frames := 1, cells := 1, slots := 8, locals := 12 } : Room) n0 #[(.ref a), (.int (8 : Int32)), (.int n)] h0 (fun v h => v = none ∧ ∃ ar, CI8 Z h n0 a ar n (List.replicate n.toNatClampNeg (0 : Int64)) ∧ Fld Z h a "com/example/millrace/millrace/examples/CompactIntegers" "bytes" "[B" (.null) ∧ Fld Z h a "com/example/millrace/millrace/examples/CompactIntegers" "shorts" "[S" (.null) ∧ Fld Z h a "com/example/millrace/millrace/examples/CompactIntegers" "ints" "[I" (.null) ∧ Fld Z h a "com/example/millrace/millrace/examples/CompactIntegers" "longs" "[J" (.ref ar) ∧ Keep h0 h [a] ∧ h0.size ≤ ar) := by
  refine Cnt.mk (by first | exact plainFor_of_name (by first | (simp [plainName, overriddenIn]; done) | decide +kernel) | decide +kernel) Z0 ?_
  intro p e s m below meth c T X
  refine Go.cast (g' := mkF m 0 #[.val (.ref a), .val (.int (8 : Int32)), .val (.int n)] []) (by first | (simp [entryFrame, mkF, argsToLocals, Value.category, maxLocals]; done) | rfl) ?_
  have hK : (∀ q ∈ ([] : List (Nat × Int32)), (Jvm.Cond.constant "com/example/millrace/millrace/examples/CompactIntegers" q.1 q.2).before a0 Z = true) ∧ (∀ q ∈ ([] : List (Nat × Int64)), (Jvm.Cond.constantLong "com/example/millrace/millrace/examples/CompactIntegers" q.1 q.2).before a0 Z = true) :=
    ⟨(fun q hq => nomatch hq), (fun q hq => nomatch hq)⟩
  have l_n : n.toNatClampNeg ≤ 8 := by have := own_nat r1; omega
  refine X.blk hK (L := [(.aload_n 0, 1, 0, 0)]) (pc' := 1) (ls' := #[.val (.ref a), .val (.int (8 : Int32)), .val (.int n)]) (st' := [(.ref a)]) (by decide +kernel) rfl ?_
  refine X.initO 4 0 (hw _ (List.mem_of_getElem? (i := 9) rfl)) (hw _ (List.mem_of_getElem? (i := 10) rfl)) (hw _ (List.mem_of_getElem? (i := 11) rfl)) rfl rfl (by decide +kernel) (by decide) ?_
  intro T0 X0
  refine X0.blk hK (L := [(.aload_n 0, 1, 0, 0), (.iload_n 1, 1, 0, 0)]) (pc' := 6) (ls' := #[.val (.ref a), .val (.int (8 : Int32)), .val (.int n)]) (st' := [(.int (8 : Int32)), (.ref a)]) (by decide +kernel) rfl ?_
  refine X0.putf 9 (hw _ (List.mem_of_getElem? (i := 12) rfl)) F0 E (Or.inl (hw _ (List.mem_of_getElem? (i := 13) rfl))) (hw _ (List.mem_of_getElem? (i := 1) rfl)) (ty := .int) (by decide) rfl (rfl) (ga) (by decide +kernel) ?_
  intro T1 h1 X1 W1
  have G1 := F1.other W1 (Or.inr (slot_ne (t := .array .byte) (t' := .int) (Or.inl (hw _ (List.mem_of_getElem? (i := 16) rfl))) (Or.inl (hw _ (List.mem_of_getElem? (i := 13) rfl))) (by decide) (by decide) (by decide)))
  have G2 := F2.other W1 (Or.inr (slot_ne (t := .array .short) (t' := .int) (Or.inl (hw _ (List.mem_of_getElem? (i := 65) rfl))) (Or.inl (hw _ (List.mem_of_getElem? (i := 13) rfl))) (by decide) (by decide) (by decide)))
  have G4 := F4.other W1 (Or.inr (slot_ne (t := .array .int) (t' := .int) (Or.inl (hw _ (List.mem_of_getElem? (i := 67) rfl))) (Or.inl (hw _ (List.mem_of_getElem? (i := 13) rfl))) (by decide) (by decide) (by decide)))
  have G8 := F8.other W1 (Or.inr (slot_ne (t := .array .long) (t' := .int) (Or.inl (hw _ (List.mem_of_getElem? (i := 57) rfl))) (Or.inl (hw _ (List.mem_of_getElem? (i := 13) rfl))) (by decide) (by decide) (by decide)))
  have GW := F0.same W1
  refine X1.blk hK (L := [(.iload_n 1, 1, 0, 0)]) (pc' := 10) (ls' := #[.val (.ref a), .val (.int (8 : Int32)), .val (.int n)]) (st' := [(.int (8 : Int32))]) (by decide +kernel) rfl ?_
  refine X1.tsw 70 (df := 60) (lo := 1) (hi := 4) (offs := #[30, 40, 60, 50]) (n := 30) (by decide +kernel) ?_
  refine X1.blk hK (L := [(.aload_n 0, 1, 0, 0), (.iload_n 2, 1, 0, 0)]) (pc' := 72) (ls' := #[.val (.ref a), .val (.int (8 : Int32)), .val (.int n)]) (st' := [(.int n), (.ref a)]) (by decide +kernel) rfl ?_
  refine X1.newarr 74 8 (aty := .long) (hw _ (List.mem_of_getElem? (i := 55) rfl)) rfl (by decide +kernel) (own_nn r1) (l_n) (by decide) ?_
  intro Tn hn Xn En A1
  obtain ⟨an, gn⟩ : ∃ z, z = h1.size := ⟨_, rfl⟩
  rw [← gn] at A1 ⊢
  have dd : a ≠ an := by rw [gn]; exact Nat.ne_of_lt GW.lt
  have A1 : AV Z hn an .long (List.replicate n.toNatClampNeg (.long 0)) := A1
  refine Xn.putf 77 (hw _ (List.mem_of_getElem? (i := 56) rfl)) (G8.ext En) ((E.wr W1).ext En) (Or.inl (hw _ (List.mem_of_getElem? (i := 57) rfl))) (hw _ (List.mem_of_getElem? (i := 1) rfl)) (ty := (.array .long)) (by decide) rfl (rfl) (ga) (by decide +kernel) ?_
  intro T2 h2 X2 W2
  have H1 : Fld Z h2 a "com/example/millrace/millrace/examples/CompactIntegers" "bytes" "[B" (.null) := (G1.ext En).other W2 (Or.inr (slot_ne (t := .array .byte) (t' := .array .long) (Or.inl (hw _ (List.mem_of_getElem? (i := 16) rfl))) (Or.inl (hw _ (List.mem_of_getElem? (i := 57) rfl))) (by decide) (by decide) (by decide)))
  have H2 : Fld Z h2 a "com/example/millrace/millrace/examples/CompactIntegers" "shorts" "[S" (.null) := (G2.ext En).other W2 (Or.inr (slot_ne (t := .array .short) (t' := .array .long) (Or.inl (hw _ (List.mem_of_getElem? (i := 65) rfl))) (Or.inl (hw _ (List.mem_of_getElem? (i := 57) rfl))) (by decide) (by decide) (by decide)))
  have H4 : Fld Z h2 a "com/example/millrace/millrace/examples/CompactIntegers" "ints" "[I" (.null) := (G4.ext En).other W2 (Or.inr (slot_ne (t := .array .int) (t' := .array .long) (Or.inl (hw _ (List.mem_of_getElem? (i := 67) rfl))) (Or.inl (hw _ (List.mem_of_getElem? (i := 57) rfl))) (by decide) (by decide) (by decide)))
  have H8 : Fld Z h2 a "com/example/millrace/millrace/examples/CompactIntegers" "longs" "[J" (.ref an) := (G8.ext En).same W2
  exact X2.retV (by decide +kernel) (by decide) (by decide) (⟨rfl, an, ⟨⟨((E.wr W1).ext En).wr W2, ga, by rw [gn]; exact X1.size, dd⟩, ⟨(GW.ext En).other W2 (Or.inr (slot_ne (t := .int) (t' := .array .long) (Or.inl (hw _ (List.mem_of_getElem? (i := 13) rfl))) (Or.inl (hw _ (List.mem_of_getElem? (i := 57) rfl))) (by decide) (by decide) (by decide))), H8⟩, ⟨by rw [List.map_replicate]; exact A1.other W2 dd.symm, fun z hz => by rw [(List.mem_replicate.mp hz).2]; exact Or.inl trivial, by simp, r1, r7⟩, ⟨_, _, _, _, H1, H2, H4, H8⟩⟩, H1, H2, H4, H8, ((Keep.of_wr W1).ext En).wr W2 (Or.inl (List.mem_singleton.mpr rfl)), by rw [gn, W1.size]; exact Nat.le_refl _⟩)
set_option maxRecDepth 65536 in
set_option maxHeartbeats 40000000 in
theorem rm_init (l : Launch) (Z : State) (a0 : Array Value) (hw : ∀ d ∈ tables_1, d.before a0 Z = true) (a : Addr) (n : Int32) (h0 : Heap) (n0 : Nat) (Z0 : n0 ≤ h0.size) (F0 : Fld Z h0 a "com/example/millrace/millrace/examples/CompactIntegers" "width" "I" (.int 0)) (F1 : Fld Z h0 a "com/example/millrace/millrace/examples/CompactIntegers" "bytes" "[B" (.null)) (F2 : Fld Z h0 a "com/example/millrace/millrace/examples/CompactIntegers" "shorts" "[S" (.null)) (F4 : Fld Z h0 a "com/example/millrace/millrace/examples/CompactIntegers" "ints" "[I" (.null)) (F8 : Fld Z h0 a "com/example/millrace/millrace/examples/CompactIntegers" "longs" "[J" (.null)) (E : Exa Z h0 a "com/example/millrace/millrace/examples/CompactIntegers") (ga : n0 ≤ a) (r1 : 0 ≤ n.toInt) (r7 : n.toInt ≤ 7) :
    Cnt l Z (⟨"com/example/millrace/millrace/examples/CompactIntegers", "<init>", "(I)V"⟩ : MethodName) prog_16_method_1_code 2 none ({ frames := 2, cells := 1, slots := 8, locals := 26 } : Room) n0 #[(.ref a), (.int n)] h0 (fun v h => v = none ∧ CIx Z h n0 a n (List.replicate n.toNatClampNeg (0 : Int64))) := by
  refine Cnt.mk (by first | exact plainFor_of_name (by first | (simp [plainName, overriddenIn]; done) | decide +kernel) | decide +kernel) Z0 ?_
  intro p e s m below meth c T X
  refine Go.cast (g' := mkF m 0 #[.val (.ref a), .val (.int n)] []) (by first | (simp [entryFrame, mkF, argsToLocals, Value.category, maxLocals]; done) | rfl) ?_
  have hK : (∀ q ∈ ([] : List (Nat × Int32)), (Jvm.Cond.constant "com/example/millrace/millrace/examples/CompactIntegers" q.1 q.2).before a0 Z = true) ∧ (∀ q ∈ ([] : List (Nat × Int64)), (Jvm.Cond.constantLong "com/example/millrace/millrace/examples/CompactIntegers" q.1 q.2).before a0 Z = true) :=
    ⟨(fun q hq => nomatch hq), (fun q hq => nomatch hq)⟩
  refine X.blk hK (L := [(.aload_n 0, 1, 0, 0), (.iconst 1, 1, 1, 0), (.iload_n 1, 1, 0, 0)]) (pc' := 3) (ls' := #[.val (.ref a), .val (.int n)]) (st' := [(.int n), (.int (1 : Int32)), (.ref a)]) (by decide +kernel) rfl ?_
  refine X.callI 6 0 (argsL := [(.int (1 : Int32)), (.int n)]) (rest := []) (rm_initW1 l Z a0 hw a n h0 n0 Z0 F0 F1 F2 F4 F8 E ga r1 r7) rfl (hw _ (List.mem_of_getElem? (i := 6) rfl)) (hw _ (List.mem_of_getElem? (i := 7) rfl)) (hw _ (List.mem_of_getElem? (i := 2) rfl)) (hw _ (List.mem_of_getElem? (i := 8) rfl)) (by decide) (ps := [.int, .int]) (r := none) (by decide +kernel) rfl rfl rfl rfl (by decide +kernel) (by decide) ?_
  rintro T1 h1 v1 X1 ⟨rfl, ar, I, -⟩
  show Go p e below s _ n0 _ (T1.setTop (mkF m 6 #[.val (.ref a), .val (.int n)] []))
  exact X1.retV (by decide +kernel) (by decide) (by decide) (⟨rfl, ar, Or.inl I⟩)
set_option maxRecDepth 65536 in
set_option maxHeartbeats 40000000 in
theorem rm_wd12 (l : Launch) (Z : State) (a0 : Array Value) (hw : ∀ d ∈ tables_1, d.before a0 Z = true) (a ar : Addr) (n : Int32) (xs : List Int64) (h0 : Heap) (n0 : Nat) (Z0 : n0 ≤ h0.size) (I : CI1 Z h0 n0 a ar n xs) :
    Cnt l Z (⟨"com/example/millrace/millrace/examples/CompactIntegers", "widen", "(I)V"⟩ : MethodName) prog_16_method_8_code 4 none ({ frames := 2, cells := 2, slots := 13, locals := 32 } : Room) n0 #[(.ref a), (.int (2 : Int32))] h0 (fun v h => v = none ∧ ∃ ar', CI2 Z h n0 a ar' n xs) := by
  refine Cnt.mk (by first | exact plainFor_of_name (by first | (simp [plainName, overriddenIn]; done) | decide +kernel) | decide +kernel) Z0 ?_
  intro p e s m below meth c T X
  refine Go.cast (g' := mkF m 0 #[.val (.ref a), .val (.int (2 : Int32)), .unset, .unset] []) (by first | (simp [entryFrame, mkF, argsToLocals, Value.category, maxLocals]; done) | rfl) ?_
  have hK : (∀ q ∈ ([] : List (Nat × Int32)), (Jvm.Cond.constant "com/example/millrace/millrace/examples/CompactIntegers" q.1 q.2).before a0 Z = true) ∧ (∀ q ∈ ([] : List (Nat × Int64)), (Jvm.Cond.constantLong "com/example/millrace/millrace/examples/CompactIntegers" q.1 q.2).before a0 Z = true) :=
    ⟨(fun q hq => nomatch hq), (fun q hq => nomatch hq)⟩
  obtain ⟨⟨EX, na, nr, nar⟩, ⟨FW, FA⟩, ⟨AA, HF, LN, r1, r7⟩, ⟨v1, v2, v4, v8, F1, F2, F4, F8⟩⟩ := I
  have rn := own_nat r1
  refine X.newobj 3 (hw _ (List.mem_of_getElem? (i := 53) rfl)) (hw _ (List.mem_of_getElem? (i := 1) rfl)) (hw _ (List.mem_of_getElem? (i := 2) rfl)) (by decide +kernel) (by decide) ?_
  intro Tn hn Xn En Bn Dn
  obtain ⟨an, gn⟩ : ∃ z, z = h0.size := ⟨_, rfl⟩
  rw [← gn] at Bn ⊢
  simp only [← gn] at Dn
  refine Xn.blk hK (L := [(.dup, 1, 0, 0), (.iload_n 1, 1, 0, 0), (.aload_n 0, 1, 0, 0)]) (pc' := 6) (ls' := #[.val (.ref a), .val (.int (2 : Int32)), .unset, .unset]) (st' := [(.ref a), (.int (2 : Int32)), (.ref an), (.ref an)]) (by decide +kernel) rfl ?_
  have In : CI1 Z hn n0 a ar n xs := ⟨⟨EX.ext En, na, nr, nar⟩, ⟨FW.ext En, FA.ext En⟩, ⟨AA.ext En, HF, LN, r1, r7⟩, ⟨_, _, _, _, F1.ext En, F2.ext En, F4.ext En, F8.ext En⟩⟩
  refine Xn.callV 9 3 (argsL := []) (rest := [(.int (2 : Int32)), (.ref an), (.ref an)]) (EX.ext En) (rm_len1 l Z a0 hw a ar n xs hn n0 Xn.size In) (hw _ (List.mem_of_getElem? (i := 54) rfl)) (hw _ (List.mem_of_getElem? (i := 18) rfl)) (hw _ (List.mem_of_getElem? (i := 20) rfl)) (hw _ (List.mem_of_getElem? (i := 19) rfl)) (hw _ (List.mem_of_getElem? (i := 2) rfl)) (hw _ (List.mem_of_getElem? (i := 21) rfl)) (by decide) (ps := []) (r := some .int) (by decide +kernel) rfl rfl rfl rfl (by decide +kernel) (by decide) ?_
  rintro Tl hl vl Xl ⟨rfl, rfl⟩
  show Go p e below s _ n0 _ (Tl.setTop (mkF m 9 #[.val (.ref a), .val (.int (2 : Int32)), .unset, .unset] [(.int n), (.int (2 : Int32)), (.ref an), (.ref an)]))
  refine Xl.callI 12 1 (argsL := [(.int (2 : Int32)), (.int n)]) (rest := [(.ref an)]) (rm_initW2 l Z a0 hw an n hn n0 Xl.size (Dn (Or.inl (hw _ (List.mem_of_getElem? (i := 13) rfl))) (ty := .int) (by decide)) (Dn (Or.inl (hw _ (List.mem_of_getElem? (i := 16) rfl))) (ty := .array .byte) (by decide)) (Dn (Or.inl (hw _ (List.mem_of_getElem? (i := 65) rfl))) (ty := .array .short) (by decide)) (Dn (Or.inl (hw _ (List.mem_of_getElem? (i := 67) rfl))) (ty := .array .int) (by decide)) (Dn (Or.inl (hw _ (List.mem_of_getElem? (i := 57) rfl))) (ty := .array .long) (by decide)) Bn (by rw [gn]; exact Z0) r1 r7) rfl (hw _ (List.mem_of_getElem? (i := 6) rfl)) (hw _ (List.mem_of_getElem? (i := 7) rfl)) (hw _ (List.mem_of_getElem? (i := 2) rfl)) (hw _ (List.mem_of_getElem? (i := 8) rfl)) (by decide) (ps := [.int, .int]) (r := none) (by decide +kernel) rfl rfl rfl rfl (by decide +kernel) (by decide) ?_
  rintro Ti hi vi Xi ⟨rfl, br, Ji, M1, M2, M4, M8, Ki, gbr⟩
  show Go p e below s _ n0 _ (Ti.setTop (mkF m 12 #[.val (.ref a), .val (.int (2 : Int32)), .unset, .unset] [(.ref an)]))
  have nan : a ≠ an := by rw [gn]; exact Nat.ne_of_lt FW.lt
  have narn : ar ≠ an := by rw [gn]; exact Nat.ne_of_lt AA.lt
  have nbr : a ≠ br := Nat.ne_of_lt (Nat.lt_of_lt_of_le (FW.ext En).lt gbr)
  have narb : ar ≠ br := Nat.ne_of_lt (Nat.lt_of_lt_of_le (AA.ext En).lt gbr)
  have Ii : CI1 Z hi n0 a ar n xs := ⟨⟨(EX.ext En).keep Ki, na, nr, nar⟩, ⟨(FW.ext En).keep Ki (ninS nan nin0), (FA.ext En).keep Ki (ninS nan nin0)⟩, ⟨(AA.ext En).keep Ki (ninS narn nin0), HF, LN, r1, r7⟩, ⟨_, _, _, _, (F1.ext En).keep Ki (ninS nan nin0), (F2.ext En).keep Ki (ninS nan nin0), (F4.ext En).keep Ki (ninS nan nin0), (F8.ext En).keep Ki (ninS nan nin0)⟩⟩
  have J15 : ∀ (k : Nat) (i : Int32) (TL : State) (hL : Heap) (ys : List Int64), Wk Z l p e ({ frames := 2, cells := 2, slots := 13, locals := 32 } : Room) s m #[(.ref a), (.int (2 : Int32))] below meth c "com/example/millrace/millrace/examples/CompactIntegers" "widen" prog_16_method_8_code 4 none n0 TL hL 2 13 → CI1 Z hL n0 a ar n xs → CI2 Z hL n0 an br n ys → (0 ≤ i.toInt ∧ n.toInt - i.toInt = k) → (∀ j, j < i.toNatClampNeg → ys[j]? = xs[j]?) → Fld Z hL an "com/example/millrace/millrace/examples/CompactIntegers" "bytes" "[B" (.null) → Fld Z hL an "com/example/millrace/millrace/examples/CompactIntegers" "shorts" "[S" (.ref br) → Fld Z hL an "com/example/millrace/millrace/examples/CompactIntegers" "ints" "[I" (.null) → Fld Z hL an "com/example/millrace/millrace/examples/CompactIntegers" "longs" "[J" (.null) → Go p e below s ({ frames := 2, cells := 2, slots := 13, locals := 32 } : Room) n0 (fun v h => v = none ∧ ∃ ar', CI2 Z h n0 a ar' n xs) (TL.setTop (mkF m 15 #[.val (.ref a), .val (.int (2 : Int32)), .val (.ref an), .val (.int i)] [])) := by
    intro k
    induction k with
    | zero =>
      intro i TL hL ys XL IL JL hik hys N1 N2 N4 N8
      have n_i := own_nat hik.1
      refine XL.blk hK (L := [(.iload_n 3, 1, 0, 0), (.aload_n 2, 1, 0, 0)]) (pc' := 17) (ls' := #[.val (.ref a), .val (.int (2 : Int32)), .val (.ref an), .val (.int i)]) (st' := [(.ref an), (.int i)]) (by decide +kernel) rfl ?_
      refine XL.callV 20 1 (argsL := []) (rest := [(.int i)]) JL.1.1 (rm_len2 l Z a0 hw an br n ys hL n0 XL.size JL) (hw _ (List.mem_of_getElem? (i := 54) rfl)) (hw _ (List.mem_of_getElem? (i := 18) rfl)) (hw _ (List.mem_of_getElem? (i := 20) rfl)) (hw _ (List.mem_of_getElem? (i := 19) rfl)) (hw _ (List.mem_of_getElem? (i := 2) rfl)) (hw _ (List.mem_of_getElem? (i := 21) rfl)) (by decide) (ps := []) (r := some .int) (by decide +kernel) rfl rfl rfl rfl (by decide +kernel) (by decide) ?_
      rintro Tm hm vm Xm ⟨rfl, rfl⟩
      show Go p e below s _ n0 _ (Tm.setTop (mkF m 20 #[.val (.ref a), .val (.int (2 : Int32)), .val (.ref an), .val (.int i)] [(.int n), (.int i)]))
      refine Xm.icmp .ge (19) 39 23 (by decide +kernel) (fun (c20 : ¬ i < n) => ?_) (fun (c20 : i < n) => absurd c20 (by rw [Int32.lt_iff_toInt_lt]; omega : ¬ i < n))
      have eys : ys = xs := by
        refine List.ext_getElem? fun j => ?_
        by_cases q : j < n.toNatClampNeg
        · exact hys j (by omega)
        · rw [List.getElem?_eq_none (by have := JL.2.2.1.2.2.1; omega), List.getElem?_eq_none (by omega)]
      subst eys
      obtain ⟨⟨EXL, naL, nrL, narL⟩, ⟨FWL, FAL⟩, ⟨AAL, HFL, LNL, r1L, r7L⟩, ⟨v1L, v2L, v4L, v8L, F1L, F2L, F4L, F8L⟩⟩ := IL
      obtain ⟨⟨EXR, naR, nrR, narR⟩, ⟨FWR, FAR⟩, ⟨AAR, HFR, LNR, r1R, r7R⟩, ⟨v1R, v2R, v4R, v8R, F1R, F2R, F4R, F8R⟩⟩ := JL
      refine Xm.blk hK (L := [(.aload_n 0, 1, 0, 0), (.iload_n 1, 1, 0, 0)]) (pc' := 41) (ls' := #[.val (.ref a), .val (.int (2 : Int32)), .val (.ref an), .val (.int i)]) (st' := [(.int (2 : Int32)), (.ref a)]) (by decide +kernel) rfl ?_
      refine Xm.putf 44 (hw _ (List.mem_of_getElem? (i := 12) rfl)) FWL EXL (Or.inl (hw _ (List.mem_of_getElem? (i := 13) rfl))) (hw _ (List.mem_of_getElem? (i := 1) rfl)) (ty := .int) (by decide) rfl (rfl) (naL) (by decide +kernel) ?_
      intro Tp0 hp0 Xp0 Wp0
      have Wp0_bytes := F1L.other Wp0 (Or.inr (slot_ne (t := .array .byte) (t' := .int) (Or.inl (hw _ (List.mem_of_getElem? (i := 16) rfl))) (Or.inl (hw _ (List.mem_of_getElem? (i := 13) rfl))) (by decide) (by decide) (by decide)))
      have Wp0_shorts := F2L.other Wp0 (Or.inr (slot_ne (t := .array .short) (t' := .int) (Or.inl (hw _ (List.mem_of_getElem? (i := 65) rfl))) (Or.inl (hw _ (List.mem_of_getElem? (i := 13) rfl))) (by decide) (by decide) (by decide)))
      have Wp0_ints := F4L.other Wp0 (Or.inr (slot_ne (t := .array .int) (t' := .int) (Or.inl (hw _ (List.mem_of_getElem? (i := 67) rfl))) (Or.inl (hw _ (List.mem_of_getElem? (i := 13) rfl))) (by decide) (by decide) (by decide)))
      have Wp0_longs := F8L.other Wp0 (Or.inr (slot_ne (t := .array .long) (t' := .int) (Or.inl (hw _ (List.mem_of_getElem? (i := 57) rfl))) (Or.inl (hw _ (List.mem_of_getElem? (i := 13) rfl))) (by decide) (by decide) (by decide)))
      have Wp0_width := FWL.same Wp0
      have Wp0_o1 := N1.other Wp0 (Or.inl nan.symm)
      have Wp0_o2 := N2.other Wp0 (Or.inl nan.symm)
      have Wp0_o4 := N4.other Wp0 (Or.inl nan.symm)
      have Wp0_o8 := N8.other Wp0 (Or.inl nan.symm)
      have Wp0_A := AAR.other Wp0 nbr.symm
      
      refine Xp0.blk hK (L := [(.aload_n 0, 1, 0, 0), (.aload_n 2, 1, 0, 0)]) (pc' := 46) (ls' := #[.val (.ref a), .val (.int (2 : Int32)), .val (.ref an), .val (.int i)]) (st' := [(.ref an), (.ref a)]) (by decide +kernel) rfl ?_
      refine Xp0.getf 49 (hw _ (List.mem_of_getElem? (i := 15) rfl)) Wp0_o1 (by decide +kernel) ?_
      intro Tg1 Xg1
      refine Xg1.putf 52 (hw _ (List.mem_of_getElem? (i := 15) rfl)) Wp0_bytes (EXL.wr Wp0) (Or.inl (hw _ (List.mem_of_getElem? (i := 16) rfl))) (hw _ (List.mem_of_getElem? (i := 1) rfl)) (ty := (.array .byte)) (by decide) rfl (rfl) (naL) (by decide +kernel) ?_
      intro Tp1 hp1 Xp1 Wp1
      have Wp1_width := Wp0_width.other Wp1 (Or.inr (slot_ne (t := .int) (t' := .array .byte) (Or.inl (hw _ (List.mem_of_getElem? (i := 13) rfl))) (Or.inl (hw _ (List.mem_of_getElem? (i := 16) rfl))) (by decide) (by decide) (by decide)))
      have Wp1_shorts := Wp0_shorts.other Wp1 (Or.inr (slot_ne (t := .array .short) (t' := .array .byte) (Or.inl (hw _ (List.mem_of_getElem? (i := 65) rfl))) (Or.inl (hw _ (List.mem_of_getElem? (i := 16) rfl))) (by decide) (by decide) (by decide)))
      have Wp1_ints := Wp0_ints.other Wp1 (Or.inr (slot_ne (t := .array .int) (t' := .array .byte) (Or.inl (hw _ (List.mem_of_getElem? (i := 67) rfl))) (Or.inl (hw _ (List.mem_of_getElem? (i := 16) rfl))) (by decide) (by decide) (by decide)))
      have Wp1_longs := Wp0_longs.other Wp1 (Or.inr (slot_ne (t := .array .long) (t' := .array .byte) (Or.inl (hw _ (List.mem_of_getElem? (i := 57) rfl))) (Or.inl (hw _ (List.mem_of_getElem? (i := 16) rfl))) (by decide) (by decide) (by decide)))
      have Wp1_bytes := Wp0_bytes.same Wp1
      have Wp1_o1 := Wp0_o1.other Wp1 (Or.inl nan.symm)
      have Wp1_o2 := Wp0_o2.other Wp1 (Or.inl nan.symm)
      have Wp1_o4 := Wp0_o4.other Wp1 (Or.inl nan.symm)
      have Wp1_o8 := Wp0_o8.other Wp1 (Or.inl nan.symm)
      have Wp1_A := Wp0_A.other Wp1 nbr.symm
      refine Xp1.blk hK (L := [(.aload_n 0, 1, 0, 0), (.aload_n 2, 1, 0, 0)]) (pc' := 54) (ls' := #[.val (.ref a), .val (.int (2 : Int32)), .val (.ref an), .val (.int i)]) (st' := [(.ref an), (.ref a)]) (by decide +kernel) rfl ?_
      refine Xp1.getf 57 (hw _ (List.mem_of_getElem? (i := 64) rfl)) Wp1_o2 (by decide +kernel) ?_
      intro Tg2 Xg2
      refine Xg2.putf 60 (hw _ (List.mem_of_getElem? (i := 64) rfl)) Wp1_shorts ((EXL.wr Wp0).wr Wp1) (Or.inl (hw _ (List.mem_of_getElem? (i := 65) rfl))) (hw _ (List.mem_of_getElem? (i := 1) rfl)) (ty := (.array .short)) (by decide) rfl (rfl) (naL) (by decide +kernel) ?_
      intro Tp2 hp2 Xp2 Wp2
      have Wp2_width := Wp1_width.other Wp2 (Or.inr (slot_ne (t := .int) (t' := .array .short) (Or.inl (hw _ (List.mem_of_getElem? (i := 13) rfl))) (Or.inl (hw _ (List.mem_of_getElem? (i := 65) rfl))) (by decide) (by decide) (by decide)))
      have Wp2_bytes := Wp1_bytes.other Wp2 (Or.inr (slot_ne (t := .array .byte) (t' := .array .short) (Or.inl (hw _ (List.mem_of_getElem? (i := 16) rfl))) (Or.inl (hw _ (List.mem_of_getElem? (i := 65) rfl))) (by decide) (by decide) (by decide)))
      have Wp2_ints := Wp1_ints.other Wp2 (Or.inr (slot_ne (t := .array .int) (t' := .array .short) (Or.inl (hw _ (List.mem_of_getElem? (i := 67) rfl))) (Or.inl (hw _ (List.mem_of_getElem? (i := 65) rfl))) (by decide) (by decide) (by decide)))
      have Wp2_longs := Wp1_longs.other Wp2 (Or.inr (slot_ne (t := .array .long) (t' := .array .short) (Or.inl (hw _ (List.mem_of_getElem? (i := 57) rfl))) (Or.inl (hw _ (List.mem_of_getElem? (i := 65) rfl))) (by decide) (by decide) (by decide)))
      have Wp2_shorts := Wp1_shorts.same Wp2
      have Wp2_o1 := Wp1_o1.other Wp2 (Or.inl nan.symm)
      have Wp2_o2 := Wp1_o2.other Wp2 (Or.inl nan.symm)
      have Wp2_o4 := Wp1_o4.other Wp2 (Or.inl nan.symm)
      have Wp2_o8 := Wp1_o8.other Wp2 (Or.inl nan.symm)
      have Wp2_A := Wp1_A.other Wp2 nbr.symm
      refine Xp2.blk hK (L := [(.aload_n 0, 1, 0, 0), (.aload_n 2, 1, 0, 0)]) (pc' := 62) (ls' := #[.val (.ref a), .val (.int (2 : Int32)), .val (.ref an), .val (.int i)]) (st' := [(.ref an), (.ref a)]) (by decide +kernel) rfl ?_
      refine Xp2.getf 65 (hw _ (List.mem_of_getElem? (i := 66) rfl)) Wp2_o4 (by decide +kernel) ?_
      intro Tg4 Xg4
      refine Xg4.putf 68 (hw _ (List.mem_of_getElem? (i := 66) rfl)) Wp2_ints (((EXL.wr Wp0).wr Wp1).wr Wp2) (Or.inl (hw _ (List.mem_of_getElem? (i := 67) rfl))) (hw _ (List.mem_of_getElem? (i := 1) rfl)) (ty := (.array .int)) (by decide) rfl (rfl) (naL) (by decide +kernel) ?_
      intro Tp4 hp4 Xp4 Wp4
      have Wp4_width := Wp2_width.other Wp4 (Or.inr (slot_ne (t := .int) (t' := .array .int) (Or.inl (hw _ (List.mem_of_getElem? (i := 13) rfl))) (Or.inl (hw _ (List.mem_of_getElem? (i := 67) rfl))) (by decide) (by decide) (by decide)))
      have Wp4_bytes := Wp2_bytes.other Wp4 (Or.inr (slot_ne (t := .array .byte) (t' := .array .int) (Or.inl (hw _ (List.mem_of_getElem? (i := 16) rfl))) (Or.inl (hw _ (List.mem_of_getElem? (i := 67) rfl))) (by decide) (by decide) (by decide)))
      have Wp4_shorts := Wp2_shorts.other Wp4 (Or.inr (slot_ne (t := .array .short) (t' := .array .int) (Or.inl (hw _ (List.mem_of_getElem? (i := 65) rfl))) (Or.inl (hw _ (List.mem_of_getElem? (i := 67) rfl))) (by decide) (by decide) (by decide)))
      have Wp4_longs := Wp2_longs.other Wp4 (Or.inr (slot_ne (t := .array .long) (t' := .array .int) (Or.inl (hw _ (List.mem_of_getElem? (i := 57) rfl))) (Or.inl (hw _ (List.mem_of_getElem? (i := 67) rfl))) (by decide) (by decide) (by decide)))
      have Wp4_ints := Wp2_ints.same Wp4
      have Wp4_o1 := Wp2_o1.other Wp4 (Or.inl nan.symm)
      have Wp4_o2 := Wp2_o2.other Wp4 (Or.inl nan.symm)
      have Wp4_o4 := Wp2_o4.other Wp4 (Or.inl nan.symm)
      have Wp4_o8 := Wp2_o8.other Wp4 (Or.inl nan.symm)
      have Wp4_A := Wp2_A.other Wp4 nbr.symm
      refine Xp4.blk hK (L := [(.aload_n 0, 1, 0, 0), (.aload_n 2, 1, 0, 0)]) (pc' := 70) (ls' := #[.val (.ref a), .val (.int (2 : Int32)), .val (.ref an), .val (.int i)]) (st' := [(.ref an), (.ref a)]) (by decide +kernel) rfl ?_
      refine Xp4.getf 73 (hw _ (List.mem_of_getElem? (i := 56) rfl)) Wp4_o8 (by decide +kernel) ?_
      intro Tg8 Xg8
      refine Xg8.putf 76 (hw _ (List.mem_of_getElem? (i := 56) rfl)) Wp4_longs ((((EXL.wr Wp0).wr Wp1).wr Wp2).wr Wp4) (Or.inl (hw _ (List.mem_of_getElem? (i := 57) rfl))) (hw _ (List.mem_of_getElem? (i := 1) rfl)) (ty := (.array .long)) (by decide) rfl (rfl) (naL) (by decide +kernel) ?_
      intro Tp8 hp8 Xp8 Wp8
      have Wp8_width := Wp4_width.other Wp8 (Or.inr (slot_ne (t := .int) (t' := .array .long) (Or.inl (hw _ (List.mem_of_getElem? (i := 13) rfl))) (Or.inl (hw _ (List.mem_of_getElem? (i := 57) rfl))) (by decide) (by decide) (by decide)))
      have Wp8_bytes := Wp4_bytes.other Wp8 (Or.inr (slot_ne (t := .array .byte) (t' := .array .long) (Or.inl (hw _ (List.mem_of_getElem? (i := 16) rfl))) (Or.inl (hw _ (List.mem_of_getElem? (i := 57) rfl))) (by decide) (by decide) (by decide)))
      have Wp8_shorts := Wp4_shorts.other Wp8 (Or.inr (slot_ne (t := .array .short) (t' := .array .long) (Or.inl (hw _ (List.mem_of_getElem? (i := 65) rfl))) (Or.inl (hw _ (List.mem_of_getElem? (i := 57) rfl))) (by decide) (by decide) (by decide)))
      have Wp8_ints := Wp4_ints.other Wp8 (Or.inr (slot_ne (t := .array .int) (t' := .array .long) (Or.inl (hw _ (List.mem_of_getElem? (i := 67) rfl))) (Or.inl (hw _ (List.mem_of_getElem? (i := 57) rfl))) (by decide) (by decide) (by decide)))
      have Wp8_longs := Wp4_longs.same Wp8
      have Wp8_o1 := Wp4_o1.other Wp8 (Or.inl nan.symm)
      have Wp8_o2 := Wp4_o2.other Wp8 (Or.inl nan.symm)
      have Wp8_o4 := Wp4_o4.other Wp8 (Or.inl nan.symm)
      have Wp8_o8 := Wp4_o8.other Wp8 (Or.inl nan.symm)
      have Wp8_A := Wp4_A.other Wp8 nbr.symm
      exact Xp8.retV (by decide +kernel) (by decide) (by decide) (⟨rfl, br, ⟨(((((EXL.wr Wp0).wr Wp1).wr Wp2).wr Wp4).wr Wp8), naL, nrR, nbr⟩, ⟨Wp8_width, Wp8_shorts⟩, ⟨Wp8_A, HFR, LNR, r1, r7⟩, ⟨_, _, _, _, Wp8_bytes, Wp8_shorts, Wp8_ints, Wp8_longs⟩⟩)
    | succ k ih =>
      intro i TL hL ys XL IL JL hik hys N1 N2 N4 N8
      have n_i := own_nat hik.1
      refine XL.blk hK (L := [(.iload_n 3, 1, 0, 0), (.aload_n 2, 1, 0, 0)]) (pc' := 17) (ls' := #[.val (.ref a), .val (.int (2 : Int32)), .val (.ref an), .val (.int i)]) (st' := [(.ref an), (.int i)]) (by decide +kernel) rfl ?_
      refine XL.callV 20 1 (argsL := []) (rest := [(.int i)]) JL.1.1 (rm_len2 l Z a0 hw an br n ys hL n0 XL.size JL) (hw _ (List.mem_of_getElem? (i := 54) rfl)) (hw _ (List.mem_of_getElem? (i := 18) rfl)) (hw _ (List.mem_of_getElem? (i := 20) rfl)) (hw _ (List.mem_of_getElem? (i := 19) rfl)) (hw _ (List.mem_of_getElem? (i := 2) rfl)) (hw _ (List.mem_of_getElem? (i := 21) rfl)) (by decide) (ps := []) (r := some .int) (by decide +kernel) rfl rfl rfl rfl (by decide +kernel) (by decide) ?_
      rintro Tm hm vm Xm ⟨rfl, rfl⟩
      show Go p e below s _ n0 _ (Tm.setTop (mkF m 20 #[.val (.ref a), .val (.int (2 : Int32)), .val (.ref an), .val (.int i)] [(.int n), (.int i)]))
      refine Xm.icmp .ge (19) 39 23 (by decide +kernel) (fun (c20 : ¬ i < n) => absurd (by rw [Int32.lt_iff_toInt_lt]; omega : i < n) c20) (fun (c20 : i < n) => ?_)
      refine Xm.blk hK (L := [(.aload_n 2, 1, 0, 0), (.iload_n 3, 1, 0, 0), (.aload_n 0, 1, 0, 0), (.iload_n 3, 1, 0, 0)]) (pc' := 27) (ls' := #[.val (.ref a), .val (.int (2 : Int32)), .val (.ref an), .val (.int i)]) (st' := [(.int i), (.ref a), (.int i), (.ref an)]) (by decide +kernel) rfl ?_
      obtain ⟨z, hz⟩ : ∃ z, xs[i.toNatClampNeg]? = some z := ⟨_, List.getElem?_eq_getElem (by omega)⟩
      have fz := IL.2.2.1.2.1 z (List.mem_of_getElem? hz)
      have LY := JL.2.2.1.2.2.1
      refine Xm.callV 30 2 (argsL := [(.int i)]) (rest := [(.int i), (.ref an)]) IL.1.1 (rm_get1 l Z a0 hw a ar n i xs z hL n0 Xm.size IL (own_nn hik.1) hz) (hw _ (List.mem_of_getElem? (i := 58) rfl)) (hw _ (List.mem_of_getElem? (i := 59) rfl)) (hw _ (List.mem_of_getElem? (i := 61) rfl)) (hw _ (List.mem_of_getElem? (i := 60) rfl)) (hw _ (List.mem_of_getElem? (i := 2) rfl)) (hw _ (List.mem_of_getElem? (i := 62) rfl)) (by decide) (ps := [.int]) (r := some .long) (by decide +kernel) rfl rfl rfl rfl (by decide +kernel) (by decide) ?_
      rintro Tg hg vg Xg ⟨rfl, rfl⟩
      show Go p e below s _ n0 _ (Tg.setTop (mkF m 30 #[.val (.ref a), .val (.int (2 : Int32)), .val (.ref an), .val (.int i)] [(.long z), (.int i), (.ref an)]))
      refine Xg.callV 33 0 (argsL := [(.int i), (.long z)]) (rest := []) JL.1.1 (rm_setN2 l Z a0 hw an br n i ys z hL n0 Xg.size JL (own_nn hik.1) (by omega) (own_12 fz) (own_n12 z fz)) (hw _ (List.mem_of_getElem? (i := 63) rfl)) (hw _ (List.mem_of_getElem? (i := 42) rfl)) (hw _ (List.mem_of_getElem? (i := 44) rfl)) (hw _ (List.mem_of_getElem? (i := 43) rfl)) (hw _ (List.mem_of_getElem? (i := 2) rfl)) (hw _ (List.mem_of_getElem? (i := 45) rfl)) (by decide) (ps := [.int, .long]) (r := none) (by decide +kernel) rfl rfl rfl rfl (by decide +kernel) (by decide) ?_
      rintro Ts hs vs Xs ⟨rfl, JS, KS⟩
      show Go p e below s _ n0 _ (Ts.setTop (mkF m 33 #[.val (.ref a), .val (.int (2 : Int32)), .val (.ref an), .val (.int i)] []))
      refine Xs.blk hK (L := [(.iinc 3 1, 3, 1, 0), (.goto (-21), 3, 0, 15)]) (pc' := 15) (ls' := #[.val (.ref a), .val (.int (2 : Int32)), .val (.ref an), .val (.int (i + (1 : Int32)))]) (st' := []) (by decide +kernel) rfl ?_
      obtain ⟨⟨EXL, naL, nrL, narL⟩, ⟨FWL, FAL⟩, ⟨AAL, HFL, LNL, r1L, r7L⟩, ⟨v1L, v2L, v4L, v8L, F1L, F2L, F4L, F8L⟩⟩ := IL
      have k1 : (1 : Int32).toInt = 1 := rfl
      have e1 : (i + 1).toInt = i.toInt + 1 := by have := c_iadd i 1; have := rng32 (i + 1); omega
      have n_1 := own_nat (j := i + 1) (by omega)
      exact ih (i + 1) _ _ _ Xs ⟨⟨EXL.keep KS, na, nr, nar⟩, ⟨FWL.keep KS (ninS nbr nin0), FAL.keep KS (ninS nbr nin0)⟩, ⟨AAL.keep KS (ninS narb nin0), HF, LN, r1, r7⟩, ⟨_, _, _, _, F1L.keep KS (ninS nbr nin0), F2L.keep KS (ninS nbr nin0), F4L.keep KS (ninS nbr nin0), F8L.keep KS (ninS nbr nin0)⟩⟩ JS ⟨by omega, by omega⟩ (fun j hj => by
        by_cases q : j = i.toNatClampNeg
        · subst q; rw [List.getElem?_set_self (by omega), hz]
        · rw [List.getElem?_set_ne (fun y => q y.symm)]; exact hys j (by omega)) (N1.keep KS (ninS JL.1.2.2.2 nin0)) (N2.keep KS (ninS JL.1.2.2.2 nin0)) (N4.keep KS (ninS JL.1.2.2.2 nin0)) (N8.keep KS (ninS JL.1.2.2.2 nin0))
  refine Xi.blk hK (L := [(.astore_n 2, 1, 0, 0), (.iconst 0, 1, 0, 0), (.istore_n 3, 1, 0, 0)]) (pc' := 15) (ls' := #[.val (.ref a), .val (.int (2 : Int32)), .val (.ref an), .val (.int (0 : Int32))]) (st' := []) (by decide +kernel) rfl ?_
  exact J15 n.toInt.toNat 0 _ _ _ Xi Ii Ji ⟨by decide, by show n.toInt - (0 : Int) = _; omega⟩ (fun j hj => absurd hj (by simp)) M1 M2 M4 M8
set_option maxRecDepth 65536 in
set_option maxHeartbeats 40000000 in
theorem rm_wd14 (l : Launch) (Z : State) (a0 : Array Value) (hw : ∀ d ∈ tables_1, d.before a0 Z = true) (a ar : Addr) (n : Int32) (xs : List Int64) (h0 : Heap) (n0 : Nat) (Z0 : n0 ≤ h0.size) (I : CI1 Z h0 n0 a ar n xs) :
    Cnt l Z (⟨"com/example/millrace/millrace/examples/CompactIntegers", "widen", "(I)V"⟩ : MethodName) prog_16_method_8_code 4 none ({ frames := 2, cells := 2, slots := 13, locals := 32 } : Room) n0 #[(.ref a), (.int (4 : Int32))] h0 (fun v h => v = none ∧ ∃ ar', CI4 Z h n0 a ar' n xs) := by
  refine Cnt.mk (by first | exact plainFor_of_name (by first | (simp [plainName, overriddenIn]; done) | decide +kernel) | decide +kernel) Z0 ?_
  intro p e s m below meth c T X
  refine Go.cast (g' := mkF m 0 #[.val (.ref a), .val (.int (4 : Int32)), .unset, .unset] []) (by first | (simp [entryFrame, mkF, argsToLocals, Value.category, maxLocals]; done) | rfl) ?_
  have hK : (∀ q ∈ ([] : List (Nat × Int32)), (Jvm.Cond.constant "com/example/millrace/millrace/examples/CompactIntegers" q.1 q.2).before a0 Z = true) ∧ (∀ q ∈ ([] : List (Nat × Int64)), (Jvm.Cond.constantLong "com/example/millrace/millrace/examples/CompactIntegers" q.1 q.2).before a0 Z = true) :=
    ⟨(fun q hq => nomatch hq), (fun q hq => nomatch hq)⟩
  obtain ⟨⟨EX, na, nr, nar⟩, ⟨FW, FA⟩, ⟨AA, HF, LN, r1, r7⟩, ⟨v1, v2, v4, v8, F1, F2, F4, F8⟩⟩ := I
  have rn := own_nat r1
  refine X.newobj 3 (hw _ (List.mem_of_getElem? (i := 53) rfl)) (hw _ (List.mem_of_getElem? (i := 1) rfl)) (hw _ (List.mem_of_getElem? (i := 2) rfl)) (by decide +kernel) (by decide) ?_
  intro Tn hn Xn En Bn Dn
  obtain ⟨an, gn⟩ : ∃ z, z = h0.size := ⟨_, rfl⟩
  rw [← gn] at Bn ⊢
  simp only [← gn] at Dn
  refine Xn.blk hK (L := [(.dup, 1, 0, 0), (.iload_n 1, 1, 0, 0), (.aload_n 0, 1, 0, 0)]) (pc' := 6) (ls' := #[.val (.ref a), .val (.int (4 : Int32)), .unset, .unset]) (st' := [(.ref a), (.int (4 : Int32)), (.ref an), (.ref an)]) (by decide +kernel) rfl ?_
  have In : CI1 Z hn n0 a ar n xs := ⟨⟨EX.ext En, na, nr, nar⟩, ⟨FW.ext En, FA.ext En⟩, ⟨AA.ext En, HF, LN, r1, r7⟩, ⟨_, _, _, _, F1.ext En, F2.ext En, F4.ext En, F8.ext En⟩⟩
  refine Xn.callV 9 3 (argsL := []) (rest := [(.int (4 : Int32)), (.ref an), (.ref an)]) (EX.ext En) (rm_len1 l Z a0 hw a ar n xs hn n0 Xn.size In) (hw _ (List.mem_of_getElem? (i := 54) rfl)) (hw _ (List.mem_of_getElem? (i := 18) rfl)) (hw _ (List.mem_of_getElem? (i := 20) rfl)) (hw _ (List.mem_of_getElem? (i := 19) rfl)) (hw _ (List.mem_of_getElem? (i := 2) rfl)) (hw _ (List.mem_of_getElem? (i := 21) rfl)) (by decide) (ps := []) (r := some .int) (by decide +kernel) rfl rfl rfl rfl (by decide +kernel) (by decide) ?_
  rintro Tl hl vl Xl ⟨rfl, rfl⟩
  show Go p e below s _ n0 _ (Tl.setTop (mkF m 9 #[.val (.ref a), .val (.int (4 : Int32)), .unset, .unset] [(.int n), (.int (4 : Int32)), (.ref an), (.ref an)]))
  refine Xl.callI 12 1 (argsL := [(.int (4 : Int32)), (.int n)]) (rest := [(.ref an)]) (rm_initW4 l Z a0 hw an n hn n0 Xl.size (Dn (Or.inl (hw _ (List.mem_of_getElem? (i := 13) rfl))) (ty := .int) (by decide)) (Dn (Or.inl (hw _ (List.mem_of_getElem? (i := 16) rfl))) (ty := .array .byte) (by decide)) (Dn (Or.inl (hw _ (List.mem_of_getElem? (i := 65) rfl))) (ty := .array .short) (by decide)) (Dn (Or.inl (hw _ (List.mem_of_getElem? (i := 67) rfl))) (ty := .array .int) (by decide)) (Dn (Or.inl (hw _ (List.mem_of_getElem? (i := 57) rfl))) (ty := .array .long) (by decide)) Bn (by rw [gn]; exact Z0) r1 r7) rfl (hw _ (List.mem_of_getElem? (i := 6) rfl)) (hw _ (List.mem_of_getElem? (i := 7) rfl)) (hw _ (List.mem_of_getElem? (i := 2) rfl)) (hw _ (List.mem_of_getElem? (i := 8) rfl)) (by decide) (ps := [.int, .int]) (r := none) (by decide +kernel) rfl rfl rfl rfl (by decide +kernel) (by decide) ?_
  rintro Ti hi vi Xi ⟨rfl, br, Ji, M1, M2, M4, M8, Ki, gbr⟩
  show Go p e below s _ n0 _ (Ti.setTop (mkF m 12 #[.val (.ref a), .val (.int (4 : Int32)), .unset, .unset] [(.ref an)]))
  have nan : a ≠ an := by rw [gn]; exact Nat.ne_of_lt FW.lt
  have narn : ar ≠ an := by rw [gn]; exact Nat.ne_of_lt AA.lt
  have nbr : a ≠ br := Nat.ne_of_lt (Nat.lt_of_lt_of_le (FW.ext En).lt gbr)
  have narb : ar ≠ br := Nat.ne_of_lt (Nat.lt_of_lt_of_le (AA.ext En).lt gbr)
  have Ii : CI1 Z hi n0 a ar n xs := ⟨⟨(EX.ext En).keep Ki, na, nr, nar⟩, ⟨(FW.ext En).keep Ki (ninS nan nin0), (FA.ext En).keep Ki (ninS nan nin0)⟩, ⟨(AA.ext En).keep Ki (ninS narn nin0), HF, LN, r1, r7⟩, ⟨_, _, _, _, (F1.ext En).keep Ki (ninS nan nin0), (F2.ext En).keep Ki (ninS nan nin0), (F4.ext En).keep Ki (ninS nan nin0), (F8.ext En).keep Ki (ninS nan nin0)⟩⟩
  have J15 : ∀ (k : Nat) (i : Int32) (TL : State) (hL : Heap) (ys : List Int64), Wk Z l p e ({ frames := 2, cells := 2, slots := 13, locals := 32 } : Room) s m #[(.ref a), (.int (4 : Int32))] below meth c "com/example/millrace/millrace/examples/CompactIntegers" "widen" prog_16_method_8_code 4 none n0 TL hL 2 13 → CI1 Z hL n0 a ar n xs → CI4 Z hL n0 an br n ys → (0 ≤ i.toInt ∧ n.toInt - i.toInt = k) → (∀ j, j < i.toNatClampNeg → ys[j]? = xs[j]?) → Fld Z hL an "com/example/millrace/millrace/examples/CompactIntegers" "bytes" "[B" (.null) → Fld Z hL an "com/example/millrace/millrace/examples/CompactIntegers" "shorts" "[S" (.null) → Fld Z hL an "com/example/millrace/millrace/examples/CompactIntegers" "ints" "[I" (.ref br) → Fld Z hL an "com/example/millrace/millrace/examples/CompactIntegers" "longs" "[J" (.null) → Go p e below s ({ frames := 2, cells := 2, slots := 13, locals := 32 } : Room) n0 (fun v h => v = none ∧ ∃ ar', CI4 Z h n0 a ar' n xs) (TL.setTop (mkF m 15 #[.val (.ref a), .val (.int (4 : Int32)), .val (.ref an), .val (.int i)] [])) := by
    intro k
    induction k with
    | zero =>
      intro i TL hL ys XL IL JL hik hys N1 N2 N4 N8
      have n_i := own_nat hik.1
      refine XL.blk hK (L := [(.iload_n 3, 1, 0, 0), (.aload_n 2, 1, 0, 0)]) (pc' := 17) (ls' := #[.val (.ref a), .val (.int (4 : Int32)), .val (.ref an), .val (.int i)]) (st' := [(.ref an), (.int i)]) (by decide +kernel) rfl ?_
      refine XL.callV 20 1 (argsL := []) (rest := [(.int i)]) JL.1.1 (rm_len4 l Z a0 hw an br n ys hL n0 XL.size JL) (hw _ (List.mem_of_getElem? (i := 54) rfl)) (hw _ (List.mem_of_getElem? (i := 18) rfl)) (hw _ (List.mem_of_getElem? (i := 20) rfl)) (hw _ (List.mem_of_getElem? (i := 19) rfl)) (hw _ (List.mem_of_getElem? (i := 2) rfl)) (hw _ (List.mem_of_getElem? (i := 21) rfl)) (by decide) (ps := []) (r := some .int) (by decide +kernel) rfl rfl rfl rfl (by decide +kernel) (by decide) ?_
      rintro Tm hm vm Xm ⟨rfl, rfl⟩
      show Go p e below s _ n0 _ (Tm.setTop (mkF m 20 #[.val (.ref a), .val (.int (4 : Int32)), .val (.ref an), .val (.int i)] [(.int n), (.int i)]))
      refine Xm.icmp .ge (19) 39 23 (by decide +kernel) (fun (c20 : ¬ i < n) => ?_) (fun (c20 : i < n) => absurd c20 (by rw [Int32.lt_iff_toInt_lt]; omega : ¬ i < n))
      have eys : ys = xs := by
        refine List.ext_getElem? fun j => ?_
        by_cases q : j < n.toNatClampNeg
        · exact hys j (by omega)
        · rw [List.getElem?_eq_none (by have := JL.2.2.1.2.2.1; omega), List.getElem?_eq_none (by omega)]
      subst eys
      obtain ⟨⟨EXL, naL, nrL, narL⟩, ⟨FWL, FAL⟩, ⟨AAL, HFL, LNL, r1L, r7L⟩, ⟨v1L, v2L, v4L, v8L, F1L, F2L, F4L, F8L⟩⟩ := IL
      obtain ⟨⟨EXR, naR, nrR, narR⟩, ⟨FWR, FAR⟩, ⟨AAR, HFR, LNR, r1R, r7R⟩, ⟨v1R, v2R, v4R, v8R, F1R, F2R, F4R, F8R⟩⟩ := JL
      refine Xm.blk hK (L := [(.aload_n 0, 1, 0, 0), (.iload_n 1, 1, 0, 0)]) (pc' := 41) (ls' := #[.val (.ref a), .val (.int (4 : Int32)), .val (.ref an), .val (.int i)]) (st' := [(.int (4 : Int32)), (.ref a)]) (by decide +kernel) rfl ?_
      refine Xm.putf 44 (hw _ (List.mem_of_getElem? (i := 12) rfl)) FWL EXL (Or.inl (hw _ (List.mem_of_getElem? (i := 13) rfl))) (hw _ (List.mem_of_getElem? (i := 1) rfl)) (ty := .int) (by decide) rfl (rfl) (naL) (by decide +kernel) ?_
      intro Tp0 hp0 Xp0 Wp0
      have Wp0_bytes := F1L.other Wp0 (Or.inr (slot_ne (t := .array .byte) (t' := .int) (Or.inl (hw _ (List.mem_of_getElem? (i := 16) rfl))) (Or.inl (hw _ (List.mem_of_getElem? (i := 13) rfl))) (by decide) (by decide) (by decide)))
      have Wp0_shorts := F2L.other Wp0 (Or.inr (slot_ne (t := .array .short) (t' := .int) (Or.inl (hw _ (List.mem_of_getElem? (i := 65) rfl))) (Or.inl (hw _ (List.mem_of_getElem? (i := 13) rfl))) (by decide) (by decide) (by decide)))
      have Wp0_ints := F4L.other Wp0 (Or.inr (slot_ne (t := .array .int) (t' := .int) (Or.inl (hw _ (List.mem_of_getElem? (i := 67) rfl))) (Or.inl (hw _ (List.mem_of_getElem? (i := 13) rfl))) (by decide) (by decide) (by decide)))
      have Wp0_longs := F8L.other Wp0 (Or.inr (slot_ne (t := .array .long) (t' := .int) (Or.inl (hw _ (List.mem_of_getElem? (i := 57) rfl))) (Or.inl (hw _ (List.mem_of_getElem? (i := 13) rfl))) (by decide) (by decide) (by decide)))
      have Wp0_width := FWL.same Wp0
      have Wp0_o1 := N1.other Wp0 (Or.inl nan.symm)
      have Wp0_o2 := N2.other Wp0 (Or.inl nan.symm)
      have Wp0_o4 := N4.other Wp0 (Or.inl nan.symm)
      have Wp0_o8 := N8.other Wp0 (Or.inl nan.symm)
      have Wp0_A := AAR.other Wp0 nbr.symm
      
      refine Xp0.blk hK (L := [(.aload_n 0, 1, 0, 0), (.aload_n 2, 1, 0, 0)]) (pc' := 46) (ls' := #[.val (.ref a), .val (.int (4 : Int32)), .val (.ref an), .val (.int i)]) (st' := [(.ref an), (.ref a)]) (by decide +kernel) rfl ?_
      refine Xp0.getf 49 (hw _ (List.mem_of_getElem? (i := 15) rfl)) Wp0_o1 (by decide +kernel) ?_
      intro Tg1 Xg1
      refine Xg1.putf 52 (hw _ (List.mem_of_getElem? (i := 15) rfl)) Wp0_bytes (EXL.wr Wp0) (Or.inl (hw _ (List.mem_of_getElem? (i := 16) rfl))) (hw _ (List.mem_of_getElem? (i := 1) rfl)) (ty := (.array .byte)) (by decide) rfl (rfl) (naL) (by decide +kernel) ?_
      intro Tp1 hp1 Xp1 Wp1
      have Wp1_width := Wp0_width.other Wp1 (Or.inr (slot_ne (t := .int) (t' := .array .byte) (Or.inl (hw _ (List.mem_of_getElem? (i := 13) rfl))) (Or.inl (hw _ (List.mem_of_getElem? (i := 16) rfl))) (by decide) (by decide) (by decide)))
      have Wp1_shorts := Wp0_shorts.other Wp1 (Or.inr (slot_ne (t := .array .short) (t' := .array .byte) (Or.inl (hw _ (List.mem_of_getElem? (i := 65) rfl))) (Or.inl (hw _ (List.mem_of_getElem? (i := 16) rfl))) (by decide) (by decide) (by decide)))
      have Wp1_ints := Wp0_ints.other Wp1 (Or.inr (slot_ne (t := .array .int) (t' := .array .byte) (Or.inl (hw _ (List.mem_of_getElem? (i := 67) rfl))) (Or.inl (hw _ (List.mem_of_getElem? (i := 16) rfl))) (by decide) (by decide) (by decide)))
      have Wp1_longs := Wp0_longs.other Wp1 (Or.inr (slot_ne (t := .array .long) (t' := .array .byte) (Or.inl (hw _ (List.mem_of_getElem? (i := 57) rfl))) (Or.inl (hw _ (List.mem_of_getElem? (i := 16) rfl))) (by decide) (by decide) (by decide)))
      have Wp1_bytes := Wp0_bytes.same Wp1
      have Wp1_o1 := Wp0_o1.other Wp1 (Or.inl nan.symm)
      have Wp1_o2 := Wp0_o2.other Wp1 (Or.inl nan.symm)
      have Wp1_o4 := Wp0_o4.other Wp1 (Or.inl nan.symm)
      have Wp1_o8 := Wp0_o8.other Wp1 (Or.inl nan.symm)
      have Wp1_A := Wp0_A.other Wp1 nbr.symm
      refine Xp1.blk hK (L := [(.aload_n 0, 1, 0, 0), (.aload_n 2, 1, 0, 0)]) (pc' := 54) (ls' := #[.val (.ref a), .val (.int (4 : Int32)), .val (.ref an), .val (.int i)]) (st' := [(.ref an), (.ref a)]) (by decide +kernel) rfl ?_
      refine Xp1.getf 57 (hw _ (List.mem_of_getElem? (i := 64) rfl)) Wp1_o2 (by decide +kernel) ?_
      intro Tg2 Xg2
      refine Xg2.putf 60 (hw _ (List.mem_of_getElem? (i := 64) rfl)) Wp1_shorts ((EXL.wr Wp0).wr Wp1) (Or.inl (hw _ (List.mem_of_getElem? (i := 65) rfl))) (hw _ (List.mem_of_getElem? (i := 1) rfl)) (ty := (.array .short)) (by decide) rfl (rfl) (naL) (by decide +kernel) ?_
      intro Tp2 hp2 Xp2 Wp2
      have Wp2_width := Wp1_width.other Wp2 (Or.inr (slot_ne (t := .int) (t' := .array .short) (Or.inl (hw _ (List.mem_of_getElem? (i := 13) rfl))) (Or.inl (hw _ (List.mem_of_getElem? (i := 65) rfl))) (by decide) (by decide) (by decide)))
      have Wp2_bytes := Wp1_bytes.other Wp2 (Or.inr (slot_ne (t := .array .byte) (t' := .array .short) (Or.inl (hw _ (List.mem_of_getElem? (i := 16) rfl))) (Or.inl (hw _ (List.mem_of_getElem? (i := 65) rfl))) (by decide) (by decide) (by decide)))
      have Wp2_ints := Wp1_ints.other Wp2 (Or.inr (slot_ne (t := .array .int) (t' := .array .short) (Or.inl (hw _ (List.mem_of_getElem? (i := 67) rfl))) (Or.inl (hw _ (List.mem_of_getElem? (i := 65) rfl))) (by decide) (by decide) (by decide)))
      have Wp2_longs := Wp1_longs.other Wp2 (Or.inr (slot_ne (t := .array .long) (t' := .array .short) (Or.inl (hw _ (List.mem_of_getElem? (i := 57) rfl))) (Or.inl (hw _ (List.mem_of_getElem? (i := 65) rfl))) (by decide) (by decide) (by decide)))
      have Wp2_shorts := Wp1_shorts.same Wp2
      have Wp2_o1 := Wp1_o1.other Wp2 (Or.inl nan.symm)
      have Wp2_o2 := Wp1_o2.other Wp2 (Or.inl nan.symm)
      have Wp2_o4 := Wp1_o4.other Wp2 (Or.inl nan.symm)
      have Wp2_o8 := Wp1_o8.other Wp2 (Or.inl nan.symm)
      have Wp2_A := Wp1_A.other Wp2 nbr.symm
      refine Xp2.blk hK (L := [(.aload_n 0, 1, 0, 0), (.aload_n 2, 1, 0, 0)]) (pc' := 62) (ls' := #[.val (.ref a), .val (.int (4 : Int32)), .val (.ref an), .val (.int i)]) (st' := [(.ref an), (.ref a)]) (by decide +kernel) rfl ?_
      refine Xp2.getf 65 (hw _ (List.mem_of_getElem? (i := 66) rfl)) Wp2_o4 (by decide +kernel) ?_
      intro Tg4 Xg4
      refine Xg4.putf 68 (hw _ (List.mem_of_getElem? (i := 66) rfl)) Wp2_ints (((EXL.wr Wp0).wr Wp1).wr Wp2) (Or.inl (hw _ (List.mem_of_getElem? (i := 67) rfl))) (hw _ (List.mem_of_getElem? (i := 1) rfl)) (ty := (.array .int)) (by decide) rfl (rfl) (naL) (by decide +kernel) ?_
      intro Tp4 hp4 Xp4 Wp4
      have Wp4_width := Wp2_width.other Wp4 (Or.inr (slot_ne (t := .int) (t' := .array .int) (Or.inl (hw _ (List.mem_of_getElem? (i := 13) rfl))) (Or.inl (hw _ (List.mem_of_getElem? (i := 67) rfl))) (by decide) (by decide) (by decide)))
      have Wp4_bytes := Wp2_bytes.other Wp4 (Or.inr (slot_ne (t := .array .byte) (t' := .array .int) (Or.inl (hw _ (List.mem_of_getElem? (i := 16) rfl))) (Or.inl (hw _ (List.mem_of_getElem? (i := 67) rfl))) (by decide) (by decide) (by decide)))
      have Wp4_shorts := Wp2_shorts.other Wp4 (Or.inr (slot_ne (t := .array .short) (t' := .array .int) (Or.inl (hw _ (List.mem_of_getElem? (i := 65) rfl))) (Or.inl (hw _ (List.mem_of_getElem? (i := 67) rfl))) (by decide) (by decide) (by decide)))
      have Wp4_longs := Wp2_longs.other Wp4 (Or.inr (slot_ne (t := .array .long) (t' := .array .int) (Or.inl (hw _ (List.mem_of_getElem? (i := 57) rfl))) (Or.inl (hw _ (List.mem_of_getElem? (i := 67) rfl))) (by decide) (by decide) (by decide)))
      have Wp4_ints := Wp2_ints.same Wp4
      have Wp4_o1 := Wp2_o1.other Wp4 (Or.inl nan.symm)
      have Wp4_o2 := Wp2_o2.other Wp4 (Or.inl nan.symm)
      have Wp4_o4 := Wp2_o4.other Wp4 (Or.inl nan.symm)
      have Wp4_o8 := Wp2_o8.other Wp4 (Or.inl nan.symm)
      have Wp4_A := Wp2_A.other Wp4 nbr.symm
      refine Xp4.blk hK (L := [(.aload_n 0, 1, 0, 0), (.aload_n 2, 1, 0, 0)]) (pc' := 70) (ls' := #[.val (.ref a), .val (.int (4 : Int32)), .val (.ref an), .val (.int i)]) (st' := [(.ref an), (.ref a)]) (by decide +kernel) rfl ?_
      refine Xp4.getf 73 (hw _ (List.mem_of_getElem? (i := 56) rfl)) Wp4_o8 (by decide +kernel) ?_
      intro Tg8 Xg8
      refine Xg8.putf 76 (hw _ (List.mem_of_getElem? (i := 56) rfl)) Wp4_longs ((((EXL.wr Wp0).wr Wp1).wr Wp2).wr Wp4) (Or.inl (hw _ (List.mem_of_getElem? (i := 57) rfl))) (hw _ (List.mem_of_getElem? (i := 1) rfl)) (ty := (.array .long)) (by decide) rfl (rfl) (naL) (by decide +kernel) ?_
      intro Tp8 hp8 Xp8 Wp8
      have Wp8_width := Wp4_width.other Wp8 (Or.inr (slot_ne (t := .int) (t' := .array .long) (Or.inl (hw _ (List.mem_of_getElem? (i := 13) rfl))) (Or.inl (hw _ (List.mem_of_getElem? (i := 57) rfl))) (by decide) (by decide) (by decide)))
      have Wp8_bytes := Wp4_bytes.other Wp8 (Or.inr (slot_ne (t := .array .byte) (t' := .array .long) (Or.inl (hw _ (List.mem_of_getElem? (i := 16) rfl))) (Or.inl (hw _ (List.mem_of_getElem? (i := 57) rfl))) (by decide) (by decide) (by decide)))
      have Wp8_shorts := Wp4_shorts.other Wp8 (Or.inr (slot_ne (t := .array .short) (t' := .array .long) (Or.inl (hw _ (List.mem_of_getElem? (i := 65) rfl))) (Or.inl (hw _ (List.mem_of_getElem? (i := 57) rfl))) (by decide) (by decide) (by decide)))
      have Wp8_ints := Wp4_ints.other Wp8 (Or.inr (slot_ne (t := .array .int) (t' := .array .long) (Or.inl (hw _ (List.mem_of_getElem? (i := 67) rfl))) (Or.inl (hw _ (List.mem_of_getElem? (i := 57) rfl))) (by decide) (by decide) (by decide)))
      have Wp8_longs := Wp4_longs.same Wp8
      have Wp8_o1 := Wp4_o1.other Wp8 (Or.inl nan.symm)
      have Wp8_o2 := Wp4_o2.other Wp8 (Or.inl nan.symm)
      have Wp8_o4 := Wp4_o4.other Wp8 (Or.inl nan.symm)
      have Wp8_o8 := Wp4_o8.other Wp8 (Or.inl nan.symm)
      have Wp8_A := Wp4_A.other Wp8 nbr.symm
      exact Xp8.retV (by decide +kernel) (by decide) (by decide) (⟨rfl, br, ⟨(((((EXL.wr Wp0).wr Wp1).wr Wp2).wr Wp4).wr Wp8), naL, nrR, nbr⟩, ⟨Wp8_width, Wp8_ints⟩, ⟨Wp8_A, HFR, LNR, r1, r7⟩, ⟨_, _, _, _, Wp8_bytes, Wp8_shorts, Wp8_ints, Wp8_longs⟩⟩)
    | succ k ih =>
      intro i TL hL ys XL IL JL hik hys N1 N2 N4 N8
      have n_i := own_nat hik.1
      refine XL.blk hK (L := [(.iload_n 3, 1, 0, 0), (.aload_n 2, 1, 0, 0)]) (pc' := 17) (ls' := #[.val (.ref a), .val (.int (4 : Int32)), .val (.ref an), .val (.int i)]) (st' := [(.ref an), (.int i)]) (by decide +kernel) rfl ?_
      refine XL.callV 20 1 (argsL := []) (rest := [(.int i)]) JL.1.1 (rm_len4 l Z a0 hw an br n ys hL n0 XL.size JL) (hw _ (List.mem_of_getElem? (i := 54) rfl)) (hw _ (List.mem_of_getElem? (i := 18) rfl)) (hw _ (List.mem_of_getElem? (i := 20) rfl)) (hw _ (List.mem_of_getElem? (i := 19) rfl)) (hw _ (List.mem_of_getElem? (i := 2) rfl)) (hw _ (List.mem_of_getElem? (i := 21) rfl)) (by decide) (ps := []) (r := some .int) (by decide +kernel) rfl rfl rfl rfl (by decide +kernel) (by decide) ?_
      rintro Tm hm vm Xm ⟨rfl, rfl⟩
      show Go p e below s _ n0 _ (Tm.setTop (mkF m 20 #[.val (.ref a), .val (.int (4 : Int32)), .val (.ref an), .val (.int i)] [(.int n), (.int i)]))
      refine Xm.icmp .ge (19) 39 23 (by decide +kernel) (fun (c20 : ¬ i < n) => absurd (by rw [Int32.lt_iff_toInt_lt]; omega : i < n) c20) (fun (c20 : i < n) => ?_)
      refine Xm.blk hK (L := [(.aload_n 2, 1, 0, 0), (.iload_n 3, 1, 0, 0), (.aload_n 0, 1, 0, 0), (.iload_n 3, 1, 0, 0)]) (pc' := 27) (ls' := #[.val (.ref a), .val (.int (4 : Int32)), .val (.ref an), .val (.int i)]) (st' := [(.int i), (.ref a), (.int i), (.ref an)]) (by decide +kernel) rfl ?_
      obtain ⟨z, hz⟩ : ∃ z, xs[i.toNatClampNeg]? = some z := ⟨_, List.getElem?_eq_getElem (by omega)⟩
      have fz := IL.2.2.1.2.1 z (List.mem_of_getElem? hz)
      have LY := JL.2.2.1.2.2.1
      refine Xm.callV 30 2 (argsL := [(.int i)]) (rest := [(.int i), (.ref an)]) IL.1.1 (rm_get1 l Z a0 hw a ar n i xs z hL n0 Xm.size IL (own_nn hik.1) hz) (hw _ (List.mem_of_getElem? (i := 58) rfl)) (hw _ (List.mem_of_getElem? (i := 59) rfl)) (hw _ (List.mem_of_getElem? (i := 61) rfl)) (hw _ (List.mem_of_getElem? (i := 60) rfl)) (hw _ (List.mem_of_getElem? (i := 2) rfl)) (hw _ (List.mem_of_getElem? (i := 62) rfl)) (by decide) (ps := [.int]) (r := some .long) (by decide +kernel) rfl rfl rfl rfl (by decide +kernel) (by decide) ?_
      rintro Tg hg vg Xg ⟨rfl, rfl⟩
      show Go p e below s _ n0 _ (Tg.setTop (mkF m 30 #[.val (.ref a), .val (.int (4 : Int32)), .val (.ref an), .val (.int i)] [(.long z), (.int i), (.ref an)]))
      refine Xg.callV 33 0 (argsL := [(.int i), (.long z)]) (rest := []) JL.1.1 (rm_setN4 l Z a0 hw an br n i ys z hL n0 Xg.size JL (own_nn hik.1) (by omega) (own_g1 fz) (own_n14 z fz)) (hw _ (List.mem_of_getElem? (i := 63) rfl)) (hw _ (List.mem_of_getElem? (i := 42) rfl)) (hw _ (List.mem_of_getElem? (i := 44) rfl)) (hw _ (List.mem_of_getElem? (i := 43) rfl)) (hw _ (List.mem_of_getElem? (i := 2) rfl)) (hw _ (List.mem_of_getElem? (i := 45) rfl)) (by decide) (ps := [.int, .long]) (r := none) (by decide +kernel) rfl rfl rfl rfl (by decide +kernel) (by decide) ?_
      rintro Ts hs vs Xs ⟨rfl, JS, KS⟩
      show Go p e below s _ n0 _ (Ts.setTop (mkF m 33 #[.val (.ref a), .val (.int (4 : Int32)), .val (.ref an), .val (.int i)] []))
      refine Xs.blk hK (L := [(.iinc 3 1, 3, 1, 0), (.goto (-21), 3, 0, 15)]) (pc' := 15) (ls' := #[.val (.ref a), .val (.int (4 : Int32)), .val (.ref an), .val (.int (i + (1 : Int32)))]) (st' := []) (by decide +kernel) rfl ?_
      obtain ⟨⟨EXL, naL, nrL, narL⟩, ⟨FWL, FAL⟩, ⟨AAL, HFL, LNL, r1L, r7L⟩, ⟨v1L, v2L, v4L, v8L, F1L, F2L, F4L, F8L⟩⟩ := IL
      have k1 : (1 : Int32).toInt = 1 := rfl
      have e1 : (i + 1).toInt = i.toInt + 1 := by have := c_iadd i 1; have := rng32 (i + 1); omega
      have n_1 := own_nat (j := i + 1) (by omega)
      exact ih (i + 1) _ _ _ Xs ⟨⟨EXL.keep KS, na, nr, nar⟩, ⟨FWL.keep KS (ninS nbr nin0), FAL.keep KS (ninS nbr nin0)⟩, ⟨AAL.keep KS (ninS narb nin0), HF, LN, r1, r7⟩, ⟨_, _, _, _, F1L.keep KS (ninS nbr nin0), F2L.keep KS (ninS nbr nin0), F4L.keep KS (ninS nbr nin0), F8L.keep KS (ninS nbr nin0)⟩⟩ JS ⟨by omega, by omega⟩ (fun j hj => by
        by_cases q : j = i.toNatClampNeg
        · subst q; rw [List.getElem?_set_self (by omega), hz]
        · rw [List.getElem?_set_ne (fun y => q y.symm)]; exact hys j (by omega)) (N1.keep KS (ninS JL.1.2.2.2 nin0)) (N2.keep KS (ninS JL.1.2.2.2 nin0)) (N4.keep KS (ninS JL.1.2.2.2 nin0)) (N8.keep KS (ninS JL.1.2.2.2 nin0))
  refine Xi.blk hK (L := [(.astore_n 2, 1, 0, 0), (.iconst 0, 1, 0, 0), (.istore_n 3, 1, 0, 0)]) (pc' := 15) (ls' := #[.val (.ref a), .val (.int (4 : Int32)), .val (.ref an), .val (.int (0 : Int32))]) (st' := []) (by decide +kernel) rfl ?_
  exact J15 n.toInt.toNat 0 _ _ _ Xi Ii Ji ⟨by decide, by show n.toInt - (0 : Int) = _; omega⟩ (fun j hj => absurd hj (by simp)) M1 M2 M4 M8
set_option maxRecDepth 65536 in
set_option maxHeartbeats 40000000 in
theorem rm_wd18 (l : Launch) (Z : State) (a0 : Array Value) (hw : ∀ d ∈ tables_1, d.before a0 Z = true) (a ar : Addr) (n : Int32) (xs : List Int64) (h0 : Heap) (n0 : Nat) (Z0 : n0 ≤ h0.size) (I : CI1 Z h0 n0 a ar n xs) :
    Cnt l Z (⟨"com/example/millrace/millrace/examples/CompactIntegers", "widen", "(I)V"⟩ : MethodName) prog_16_method_8_code 4 none ({ frames := 2, cells := 2, slots := 13, locals := 32 } : Room) n0 #[(.ref a), (.int (8 : Int32))] h0 (fun v h => v = none ∧ ∃ ar', CI8 Z h n0 a ar' n xs) := by
  refine Cnt.mk (by first | exact plainFor_of_name (by first | (simp [plainName, overriddenIn]; done) | decide +kernel) | decide +kernel) Z0 ?_
  intro p e s m below meth c T X
  refine Go.cast (g' := mkF m 0 #[.val (.ref a), .val (.int (8 : Int32)), .unset, .unset] []) (by first | (simp [entryFrame, mkF, argsToLocals, Value.category, maxLocals]; done) | rfl) ?_
  have hK : (∀ q ∈ ([] : List (Nat × Int32)), (Jvm.Cond.constant "com/example/millrace/millrace/examples/CompactIntegers" q.1 q.2).before a0 Z = true) ∧ (∀ q ∈ ([] : List (Nat × Int64)), (Jvm.Cond.constantLong "com/example/millrace/millrace/examples/CompactIntegers" q.1 q.2).before a0 Z = true) :=
    ⟨(fun q hq => nomatch hq), (fun q hq => nomatch hq)⟩
  obtain ⟨⟨EX, na, nr, nar⟩, ⟨FW, FA⟩, ⟨AA, HF, LN, r1, r7⟩, ⟨v1, v2, v4, v8, F1, F2, F4, F8⟩⟩ := I
  have rn := own_nat r1
  refine X.newobj 3 (hw _ (List.mem_of_getElem? (i := 53) rfl)) (hw _ (List.mem_of_getElem? (i := 1) rfl)) (hw _ (List.mem_of_getElem? (i := 2) rfl)) (by decide +kernel) (by decide) ?_
  intro Tn hn Xn En Bn Dn
  obtain ⟨an, gn⟩ : ∃ z, z = h0.size := ⟨_, rfl⟩
  rw [← gn] at Bn ⊢
  simp only [← gn] at Dn
  refine Xn.blk hK (L := [(.dup, 1, 0, 0), (.iload_n 1, 1, 0, 0), (.aload_n 0, 1, 0, 0)]) (pc' := 6) (ls' := #[.val (.ref a), .val (.int (8 : Int32)), .unset, .unset]) (st' := [(.ref a), (.int (8 : Int32)), (.ref an), (.ref an)]) (by decide +kernel) rfl ?_
  have In : CI1 Z hn n0 a ar n xs := ⟨⟨EX.ext En, na, nr, nar⟩, ⟨FW.ext En, FA.ext En⟩, ⟨AA.ext En, HF, LN, r1, r7⟩, ⟨_, _, _, _, F1.ext En, F2.ext En, F4.ext En, F8.ext En⟩⟩
  refine Xn.callV 9 3 (argsL := []) (rest := [(.int (8 : Int32)), (.ref an), (.ref an)]) (EX.ext En) (rm_len1 l Z a0 hw a ar n xs hn n0 Xn.size In) (hw _ (List.mem_of_getElem? (i := 54) rfl)) (hw _ (List.mem_of_getElem? (i := 18) rfl)) (hw _ (List.mem_of_getElem? (i := 20) rfl)) (hw _ (List.mem_of_getElem? (i := 19) rfl)) (hw _ (List.mem_of_getElem? (i := 2) rfl)) (hw _ (List.mem_of_getElem? (i := 21) rfl)) (by decide) (ps := []) (r := some .int) (by decide +kernel) rfl rfl rfl rfl (by decide +kernel) (by decide) ?_
  rintro Tl hl vl Xl ⟨rfl, rfl⟩
  show Go p e below s _ n0 _ (Tl.setTop (mkF m 9 #[.val (.ref a), .val (.int (8 : Int32)), .unset, .unset] [(.int n), (.int (8 : Int32)), (.ref an), (.ref an)]))
  refine Xl.callI 12 1 (argsL := [(.int (8 : Int32)), (.int n)]) (rest := [(.ref an)]) (rm_initW8 l Z a0 hw an n hn n0 Xl.size (Dn (Or.inl (hw _ (List.mem_of_getElem? (i := 13) rfl))) (ty := .int) (by decide)) (Dn (Or.inl (hw _ (List.mem_of_getElem? (i := 16) rfl))) (ty := .array .byte) (by decide)) (Dn (Or.inl (hw _ (List.mem_of_getElem? (i := 65) rfl))) (ty := .array .short) (by decide)) (Dn (Or.inl (hw _ (List.mem_of_getElem? (i := 67) rfl))) (ty := .array .int) (by decide)) (Dn (Or.inl (hw _ (List.mem_of_getElem? (i := 57) rfl))) (ty := .array .long) (by decide)) Bn (by rw [gn]; exact Z0) r1 r7) rfl (hw _ (List.mem_of_getElem? (i := 6) rfl)) (hw _ (List.mem_of_getElem? (i := 7) rfl)) (hw _ (List.mem_of_getElem? (i := 2) rfl)) (hw _ (List.mem_of_getElem? (i := 8) rfl)) (by decide) (ps := [.int, .int]) (r := none) (by decide +kernel) rfl rfl rfl rfl (by decide +kernel) (by decide) ?_
  rintro Ti hi vi Xi ⟨rfl, br, Ji, M1, M2, M4, M8, Ki, gbr⟩
  show Go p e below s _ n0 _ (Ti.setTop (mkF m 12 #[.val (.ref a), .val (.int (8 : Int32)), .unset, .unset] [(.ref an)]))
  have nan : a ≠ an := by rw [gn]; exact Nat.ne_of_lt FW.lt
  have narn : ar ≠ an := by rw [gn]; exact Nat.ne_of_lt AA.lt
  have nbr : a ≠ br := Nat.ne_of_lt (Nat.lt_of_lt_of_le (FW.ext En).lt gbr)
  have narb : ar ≠ br := Nat.ne_of_lt (Nat.lt_of_lt_of_le (AA.ext En).lt gbr)
  have Ii : CI1 Z hi n0 a ar n xs := ⟨⟨(EX.ext En).keep Ki, na, nr, nar⟩, ⟨(FW.ext En).keep Ki (ninS nan nin0), (FA.ext En).keep Ki (ninS nan nin0)⟩, ⟨(AA.ext En).keep Ki (ninS narn nin0), HF, LN, r1, r7⟩, ⟨_, _, _, _, (F1.ext En).keep Ki (ninS nan nin0), (F2.ext En).keep Ki (ninS nan nin0), (F4.ext En).keep Ki (ninS nan nin0), (F8.ext En).keep Ki (ninS nan nin0)⟩⟩
  have J15 : ∀ (k : Nat) (i : Int32) (TL : State) (hL : Heap) (ys : List Int64), Wk Z l p e ({ frames := 2, cells := 2, slots := 13, locals := 32 } : Room) s m #[(.ref a), (.int (8 : Int32))] below meth c "com/example/millrace/millrace/examples/CompactIntegers" "widen" prog_16_method_8_code 4 none n0 TL hL 2 13 → CI1 Z hL n0 a ar n xs → CI8 Z hL n0 an br n ys → (0 ≤ i.toInt ∧ n.toInt - i.toInt = k) → (∀ j, j < i.toNatClampNeg → ys[j]? = xs[j]?) → Fld Z hL an "com/example/millrace/millrace/examples/CompactIntegers" "bytes" "[B" (.null) → Fld Z hL an "com/example/millrace/millrace/examples/CompactIntegers" "shorts" "[S" (.null) → Fld Z hL an "com/example/millrace/millrace/examples/CompactIntegers" "ints" "[I" (.null) → Fld Z hL an "com/example/millrace/millrace/examples/CompactIntegers" "longs" "[J" (.ref br) → Go p e below s ({ frames := 2, cells := 2, slots := 13, locals := 32 } : Room) n0 (fun v h => v = none ∧ ∃ ar', CI8 Z h n0 a ar' n xs) (TL.setTop (mkF m 15 #[.val (.ref a), .val (.int (8 : Int32)), .val (.ref an), .val (.int i)] [])) := by
    intro k
    induction k with
    | zero =>
      intro i TL hL ys XL IL JL hik hys N1 N2 N4 N8
      have n_i := own_nat hik.1
      refine XL.blk hK (L := [(.iload_n 3, 1, 0, 0), (.aload_n 2, 1, 0, 0)]) (pc' := 17) (ls' := #[.val (.ref a), .val (.int (8 : Int32)), .val (.ref an), .val (.int i)]) (st' := [(.ref an), (.int i)]) (by decide +kernel) rfl ?_
      refine XL.callV 20 1 (argsL := []) (rest := [(.int i)]) JL.1.1 (rm_len8 l Z a0 hw an br n ys hL n0 XL.size JL) (hw _ (List.mem_of_getElem? (i := 54) rfl)) (hw _ (List.mem_of_getElem? (i := 18) rfl)) (hw _ (List.mem_of_getElem? (i := 20) rfl)) (hw _ (List.mem_of_getElem? (i := 19) rfl)) (hw _ (List.mem_of_getElem? (i := 2) rfl)) (hw _ (List.mem_of_getElem? (i := 21) rfl)) (by decide) (ps := []) (r := some .int) (by decide +kernel) rfl rfl rfl rfl (by decide +kernel) (by decide) ?_
      rintro Tm hm vm Xm ⟨rfl, rfl⟩
      show Go p e below s _ n0 _ (Tm.setTop (mkF m 20 #[.val (.ref a), .val (.int (8 : Int32)), .val (.ref an), .val (.int i)] [(.int n), (.int i)]))
      refine Xm.icmp .ge (19) 39 23 (by decide +kernel) (fun (c20 : ¬ i < n) => ?_) (fun (c20 : i < n) => absurd c20 (by rw [Int32.lt_iff_toInt_lt]; omega : ¬ i < n))
      have eys : ys = xs := by
        refine List.ext_getElem? fun j => ?_
        by_cases q : j < n.toNatClampNeg
        · exact hys j (by omega)
        · rw [List.getElem?_eq_none (by have := JL.2.2.1.2.2.1; omega), List.getElem?_eq_none (by omega)]
      subst eys
      obtain ⟨⟨EXL, naL, nrL, narL⟩, ⟨FWL, FAL⟩, ⟨AAL, HFL, LNL, r1L, r7L⟩, ⟨v1L, v2L, v4L, v8L, F1L, F2L, F4L, F8L⟩⟩ := IL
      obtain ⟨⟨EXR, naR, nrR, narR⟩, ⟨FWR, FAR⟩, ⟨AAR, HFR, LNR, r1R, r7R⟩, ⟨v1R, v2R, v4R, v8R, F1R, F2R, F4R, F8R⟩⟩ := JL
      refine Xm.blk hK (L := [(.aload_n 0, 1, 0, 0), (.iload_n 1, 1, 0, 0)]) (pc' := 41) (ls' := #[.val (.ref a), .val (.int (8 : Int32)), .val (.ref an), .val (.int i)]) (st' := [(.int (8 : Int32)), (.ref a)]) (by decide +kernel) rfl ?_
      refine Xm.putf 44 (hw _ (List.mem_of_getElem? (i := 12) rfl)) FWL EXL (Or.inl (hw _ (List.mem_of_getElem? (i := 13) rfl))) (hw _ (List.mem_of_getElem? (i := 1) rfl)) (ty := .int) (by decide) rfl (rfl) (naL) (by decide +kernel) ?_
      intro Tp0 hp0 Xp0 Wp0
      have Wp0_bytes := F1L.other Wp0 (Or.inr (slot_ne (t := .array .byte) (t' := .int) (Or.inl (hw _ (List.mem_of_getElem? (i := 16) rfl))) (Or.inl (hw _ (List.mem_of_getElem? (i := 13) rfl))) (by decide) (by decide) (by decide)))
      have Wp0_shorts := F2L.other Wp0 (Or.inr (slot_ne (t := .array .short) (t' := .int) (Or.inl (hw _ (List.mem_of_getElem? (i := 65) rfl))) (Or.inl (hw _ (List.mem_of_getElem? (i := 13) rfl))) (by decide) (by decide) (by decide)))
      have Wp0_ints := F4L.other Wp0 (Or.inr (slot_ne (t := .array .int) (t' := .int) (Or.inl (hw _ (List.mem_of_getElem? (i := 67) rfl))) (Or.inl (hw _ (List.mem_of_getElem? (i := 13) rfl))) (by decide) (by decide) (by decide)))
      have Wp0_longs := F8L.other Wp0 (Or.inr (slot_ne (t := .array .long) (t' := .int) (Or.inl (hw _ (List.mem_of_getElem? (i := 57) rfl))) (Or.inl (hw _ (List.mem_of_getElem? (i := 13) rfl))) (by decide) (by decide) (by decide)))
      have Wp0_width := FWL.same Wp0
      have Wp0_o1 := N1.other Wp0 (Or.inl nan.symm)
      have Wp0_o2 := N2.other Wp0 (Or.inl nan.symm)
      have Wp0_o4 := N4.other Wp0 (Or.inl nan.symm)
      have Wp0_o8 := N8.other Wp0 (Or.inl nan.symm)
      have Wp0_A := AAR.other Wp0 nbr.symm
      
      refine Xp0.blk hK (L := [(.aload_n 0, 1, 0, 0), (.aload_n 2, 1, 0, 0)]) (pc' := 46) (ls' := #[.val (.ref a), .val (.int (8 : Int32)), .val (.ref an), .val (.int i)]) (st' := [(.ref an), (.ref a)]) (by decide +kernel) rfl ?_
      refine Xp0.getf 49 (hw _ (List.mem_of_getElem? (i := 15) rfl)) Wp0_o1 (by decide +kernel) ?_
      intro Tg1 Xg1
      refine Xg1.putf 52 (hw _ (List.mem_of_getElem? (i := 15) rfl)) Wp0_bytes (EXL.wr Wp0) (Or.inl (hw _ (List.mem_of_getElem? (i := 16) rfl))) (hw _ (List.mem_of_getElem? (i := 1) rfl)) (ty := (.array .byte)) (by decide) rfl (rfl) (naL) (by decide +kernel) ?_
      intro Tp1 hp1 Xp1 Wp1
      have Wp1_width := Wp0_width.other Wp1 (Or.inr (slot_ne (t := .int) (t' := .array .byte) (Or.inl (hw _ (List.mem_of_getElem? (i := 13) rfl))) (Or.inl (hw _ (List.mem_of_getElem? (i := 16) rfl))) (by decide) (by decide) (by decide)))
      have Wp1_shorts := Wp0_shorts.other Wp1 (Or.inr (slot_ne (t := .array .short) (t' := .array .byte) (Or.inl (hw _ (List.mem_of_getElem? (i := 65) rfl))) (Or.inl (hw _ (List.mem_of_getElem? (i := 16) rfl))) (by decide) (by decide) (by decide)))
      have Wp1_ints := Wp0_ints.other Wp1 (Or.inr (slot_ne (t := .array .int) (t' := .array .byte) (Or.inl (hw _ (List.mem_of_getElem? (i := 67) rfl))) (Or.inl (hw _ (List.mem_of_getElem? (i := 16) rfl))) (by decide) (by decide) (by decide)))
      have Wp1_longs := Wp0_longs.other Wp1 (Or.inr (slot_ne (t := .array .long) (t' := .array .byte) (Or.inl (hw _ (List.mem_of_getElem? (i := 57) rfl))) (Or.inl (hw _ (List.mem_of_getElem? (i := 16) rfl))) (by decide) (by decide) (by decide)))
      have Wp1_bytes := Wp0_bytes.same Wp1
      have Wp1_o1 := Wp0_o1.other Wp1 (Or.inl nan.symm)
      have Wp1_o2 := Wp0_o2.other Wp1 (Or.inl nan.symm)
      have Wp1_o4 := Wp0_o4.other Wp1 (Or.inl nan.symm)
      have Wp1_o8 := Wp0_o8.other Wp1 (Or.inl nan.symm)
      have Wp1_A := Wp0_A.other Wp1 nbr.symm
      refine Xp1.blk hK (L := [(.aload_n 0, 1, 0, 0), (.aload_n 2, 1, 0, 0)]) (pc' := 54) (ls' := #[.val (.ref a), .val (.int (8 : Int32)), .val (.ref an), .val (.int i)]) (st' := [(.ref an), (.ref a)]) (by decide +kernel) rfl ?_
      refine Xp1.getf 57 (hw _ (List.mem_of_getElem? (i := 64) rfl)) Wp1_o2 (by decide +kernel) ?_
      intro Tg2 Xg2
      refine Xg2.putf 60 (hw _ (List.mem_of_getElem? (i := 64) rfl)) Wp1_shorts ((EXL.wr Wp0).wr Wp1) (Or.inl (hw _ (List.mem_of_getElem? (i := 65) rfl))) (hw _ (List.mem_of_getElem? (i := 1) rfl)) (ty := (.array .short)) (by decide) rfl (rfl) (naL) (by decide +kernel) ?_
      intro Tp2 hp2 Xp2 Wp2
      have Wp2_width := Wp1_width.other Wp2 (Or.inr (slot_ne (t := .int) (t' := .array .short) (Or.inl (hw _ (List.mem_of_getElem? (i := 13) rfl))) (Or.inl (hw _ (List.mem_of_getElem? (i := 65) rfl))) (by decide) (by decide) (by decide)))
      have Wp2_bytes := Wp1_bytes.other Wp2 (Or.inr (slot_ne (t := .array .byte) (t' := .array .short) (Or.inl (hw _ (List.mem_of_getElem? (i := 16) rfl))) (Or.inl (hw _ (List.mem_of_getElem? (i := 65) rfl))) (by decide) (by decide) (by decide)))
      have Wp2_ints := Wp1_ints.other Wp2 (Or.inr (slot_ne (t := .array .int) (t' := .array .short) (Or.inl (hw _ (List.mem_of_getElem? (i := 67) rfl))) (Or.inl (hw _ (List.mem_of_getElem? (i := 65) rfl))) (by decide) (by decide) (by decide)))
      have Wp2_longs := Wp1_longs.other Wp2 (Or.inr (slot_ne (t := .array .long) (t' := .array .short) (Or.inl (hw _ (List.mem_of_getElem? (i := 57) rfl))) (Or.inl (hw _ (List.mem_of_getElem? (i := 65) rfl))) (by decide) (by decide) (by decide)))
      have Wp2_shorts := Wp1_shorts.same Wp2
      have Wp2_o1 := Wp1_o1.other Wp2 (Or.inl nan.symm)
      have Wp2_o2 := Wp1_o2.other Wp2 (Or.inl nan.symm)
      have Wp2_o4 := Wp1_o4.other Wp2 (Or.inl nan.symm)
      have Wp2_o8 := Wp1_o8.other Wp2 (Or.inl nan.symm)
      have Wp2_A := Wp1_A.other Wp2 nbr.symm
      refine Xp2.blk hK (L := [(.aload_n 0, 1, 0, 0), (.aload_n 2, 1, 0, 0)]) (pc' := 62) (ls' := #[.val (.ref a), .val (.int (8 : Int32)), .val (.ref an), .val (.int i)]) (st' := [(.ref an), (.ref a)]) (by decide +kernel) rfl ?_
      refine Xp2.getf 65 (hw _ (List.mem_of_getElem? (i := 66) rfl)) Wp2_o4 (by decide +kernel) ?_
      intro Tg4 Xg4
      refine Xg4.putf 68 (hw _ (List.mem_of_getElem? (i := 66) rfl)) Wp2_ints (((EXL.wr Wp0).wr Wp1).wr Wp2) (Or.inl (hw _ (List.mem_of_getElem? (i := 67) rfl))) (hw _ (List.mem_of_getElem? (i := 1) rfl)) (ty := (.array .int)) (by decide) rfl (rfl) (naL) (by decide +kernel) ?_
      intro Tp4 hp4 Xp4 Wp4
      have Wp4_width := Wp2_width.other Wp4 (Or.inr (slot_ne (t := .int) (t' := .array .int) (Or.inl (hw _ (List.mem_of_getElem? (i := 13) rfl))) (Or.inl (hw _ (List.mem_of_getElem? (i := 67) rfl))) (by decide) (by decide) (by decide)))
      have Wp4_bytes := Wp2_bytes.other Wp4 (Or.inr (slot_ne (t := .array .byte) (t' := .array .int) (Or.inl (hw _ (List.mem_of_getElem? (i := 16) rfl))) (Or.inl (hw _ (List.mem_of_getElem? (i := 67) rfl))) (by decide) (by decide) (by decide)))
      have Wp4_shorts := Wp2_shorts.other Wp4 (Or.inr (slot_ne (t := .array .short) (t' := .array .int) (Or.inl (hw _ (List.mem_of_getElem? (i := 65) rfl))) (Or.inl (hw _ (List.mem_of_getElem? (i := 67) rfl))) (by decide) (by decide) (by decide)))
      have Wp4_longs := Wp2_longs.other Wp4 (Or.inr (slot_ne (t := .array .long) (t' := .array .int) (Or.inl (hw _ (List.mem_of_getElem? (i := 57) rfl))) (Or.inl (hw _ (List.mem_of_getElem? (i := 67) rfl))) (by decide) (by decide) (by decide)))
      have Wp4_ints := Wp2_ints.same Wp4
      have Wp4_o1 := Wp2_o1.other Wp4 (Or.inl nan.symm)
      have Wp4_o2 := Wp2_o2.other Wp4 (Or.inl nan.symm)
      have Wp4_o4 := Wp2_o4.other Wp4 (Or.inl nan.symm)
      have Wp4_o8 := Wp2_o8.other Wp4 (Or.inl nan.symm)
      have Wp4_A := Wp2_A.other Wp4 nbr.symm
      refine Xp4.blk hK (L := [(.aload_n 0, 1, 0, 0), (.aload_n 2, 1, 0, 0)]) (pc' := 70) (ls' := #[.val (.ref a), .val (.int (8 : Int32)), .val (.ref an), .val (.int i)]) (st' := [(.ref an), (.ref a)]) (by decide +kernel) rfl ?_
      refine Xp4.getf 73 (hw _ (List.mem_of_getElem? (i := 56) rfl)) Wp4_o8 (by decide +kernel) ?_
      intro Tg8 Xg8
      refine Xg8.putf 76 (hw _ (List.mem_of_getElem? (i := 56) rfl)) Wp4_longs ((((EXL.wr Wp0).wr Wp1).wr Wp2).wr Wp4) (Or.inl (hw _ (List.mem_of_getElem? (i := 57) rfl))) (hw _ (List.mem_of_getElem? (i := 1) rfl)) (ty := (.array .long)) (by decide) rfl (rfl) (naL) (by decide +kernel) ?_
      intro Tp8 hp8 Xp8 Wp8
      have Wp8_width := Wp4_width.other Wp8 (Or.inr (slot_ne (t := .int) (t' := .array .long) (Or.inl (hw _ (List.mem_of_getElem? (i := 13) rfl))) (Or.inl (hw _ (List.mem_of_getElem? (i := 57) rfl))) (by decide) (by decide) (by decide)))
      have Wp8_bytes := Wp4_bytes.other Wp8 (Or.inr (slot_ne (t := .array .byte) (t' := .array .long) (Or.inl (hw _ (List.mem_of_getElem? (i := 16) rfl))) (Or.inl (hw _ (List.mem_of_getElem? (i := 57) rfl))) (by decide) (by decide) (by decide)))
      have Wp8_shorts := Wp4_shorts.other Wp8 (Or.inr (slot_ne (t := .array .short) (t' := .array .long) (Or.inl (hw _ (List.mem_of_getElem? (i := 65) rfl))) (Or.inl (hw _ (List.mem_of_getElem? (i := 57) rfl))) (by decide) (by decide) (by decide)))
      have Wp8_ints := Wp4_ints.other Wp8 (Or.inr (slot_ne (t := .array .int) (t' := .array .long) (Or.inl (hw _ (List.mem_of_getElem? (i := 67) rfl))) (Or.inl (hw _ (List.mem_of_getElem? (i := 57) rfl))) (by decide) (by decide) (by decide)))
      have Wp8_longs := Wp4_longs.same Wp8
      have Wp8_o1 := Wp4_o1.other Wp8 (Or.inl nan.symm)
      have Wp8_o2 := Wp4_o2.other Wp8 (Or.inl nan.symm)
      have Wp8_o4 := Wp4_o4.other Wp8 (Or.inl nan.symm)
      have Wp8_o8 := Wp4_o8.other Wp8 (Or.inl nan.symm)
      have Wp8_A := Wp4_A.other Wp8 nbr.symm
      exact Xp8.retV (by decide +kernel) (by decide) (by decide) (⟨rfl, br, ⟨(((((EXL.wr Wp0).wr Wp1).wr Wp2).wr Wp4).wr Wp8), naL, nrR, nbr⟩, ⟨Wp8_width, Wp8_longs⟩, ⟨Wp8_A, HFR, LNR, r1, r7⟩, ⟨_, _, _, _, Wp8_bytes, Wp8_shorts, Wp8_ints, Wp8_longs⟩⟩)
    | succ k ih =>
      intro i TL hL ys XL IL JL hik hys N1 N2 N4 N8
      have n_i := own_nat hik.1
      refine XL.blk hK (L := [(.iload_n 3, 1, 0, 0), (.aload_n 2, 1, 0, 0)]) (pc' := 17) (ls' := #[.val (.ref a), .val (.int (8 : Int32)), .val (.ref an), .val (.int i)]) (st' := [(.ref an), (.int i)]) (by decide +kernel) rfl ?_
      refine XL.callV 20 1 (argsL := []) (rest := [(.int i)]) JL.1.1 (rm_len8 l Z a0 hw an br n ys hL n0 XL.size JL) (hw _ (List.mem_of_getElem? (i := 54) rfl)) (hw _ (List.mem_of_getElem? (i := 18) rfl)) (hw _ (List.mem_of_getElem? (i := 20) rfl)) (hw _ (List.mem_of_getElem? (i := 19) rfl)) (hw _ (List.mem_of_getElem? (i := 2) rfl)) (hw _ (List.mem_of_getElem? (i := 21) rfl)) (by decide) (ps := []) (r := some .int) (by decide +kernel) rfl rfl rfl rfl (by decide +kernel) (by decide) ?_
      rintro Tm hm vm Xm ⟨rfl, rfl⟩
      show Go p e below s _ n0 _ (Tm.setTop (mkF m 20 #[.val (.ref a), .val (.int (8 : Int32)), .val (.ref an), .val (.int i)] [(.int n), (.int i)]))
      refine Xm.icmp .ge (19) 39 23 (by decide +kernel) (fun (c20 : ¬ i < n) => absurd (by rw [Int32.lt_iff_toInt_lt]; omega : i < n) c20) (fun (c20 : i < n) => ?_)
      refine Xm.blk hK (L := [(.aload_n 2, 1, 0, 0), (.iload_n 3, 1, 0, 0), (.aload_n 0, 1, 0, 0), (.iload_n 3, 1, 0, 0)]) (pc' := 27) (ls' := #[.val (.ref a), .val (.int (8 : Int32)), .val (.ref an), .val (.int i)]) (st' := [(.int i), (.ref a), (.int i), (.ref an)]) (by decide +kernel) rfl ?_
      obtain ⟨z, hz⟩ : ∃ z, xs[i.toNatClampNeg]? = some z := ⟨_, List.getElem?_eq_getElem (by omega)⟩
      have fz := IL.2.2.1.2.1 z (List.mem_of_getElem? hz)
      have LY := JL.2.2.1.2.2.1
      refine Xm.callV 30 2 (argsL := [(.int i)]) (rest := [(.int i), (.ref an)]) IL.1.1 (rm_get1 l Z a0 hw a ar n i xs z hL n0 Xm.size IL (own_nn hik.1) hz) (hw _ (List.mem_of_getElem? (i := 58) rfl)) (hw _ (List.mem_of_getElem? (i := 59) rfl)) (hw _ (List.mem_of_getElem? (i := 61) rfl)) (hw _ (List.mem_of_getElem? (i := 60) rfl)) (hw _ (List.mem_of_getElem? (i := 2) rfl)) (hw _ (List.mem_of_getElem? (i := 62) rfl)) (by decide) (ps := [.int]) (r := some .long) (by decide +kernel) rfl rfl rfl rfl (by decide +kernel) (by decide) ?_
      rintro Tg hg vg Xg ⟨rfl, rfl⟩
      show Go p e below s _ n0 _ (Tg.setTop (mkF m 30 #[.val (.ref a), .val (.int (8 : Int32)), .val (.ref an), .val (.int i)] [(.long z), (.int i), (.ref an)]))
      refine Xg.callV 33 0 (argsL := [(.int i), (.long z)]) (rest := []) JL.1.1 (rm_setN8 l Z a0 hw an br n i ys z hL n0 Xg.size JL (own_nn hik.1) (by omega) (Or.inl trivial) (own_n18 z fz)) (hw _ (List.mem_of_getElem? (i := 63) rfl)) (hw _ (List.mem_of_getElem? (i := 42) rfl)) (hw _ (List.mem_of_getElem? (i := 44) rfl)) (hw _ (List.mem_of_getElem? (i := 43) rfl)) (hw _ (List.mem_of_getElem? (i := 2) rfl)) (hw _ (List.mem_of_getElem? (i := 45) rfl)) (by decide) (ps := [.int, .long]) (r := none) (by decide +kernel) rfl rfl rfl rfl (by decide +kernel) (by decide) ?_
      rintro Ts hs vs Xs ⟨rfl, JS, KS⟩
      show Go p e below s _ n0 _ (Ts.setTop (mkF m 33 #[.val (.ref a), .val (.int (8 : Int32)), .val (.ref an), .val (.int i)] []))
      refine Xs.blk hK (L := [(.iinc 3 1, 3, 1, 0), (.goto (-21), 3, 0, 15)]) (pc' := 15) (ls' := #[.val (.ref a), .val (.int (8 : Int32)), .val (.ref an), .val (.int (i + (1 : Int32)))]) (st' := []) (by decide +kernel) rfl ?_
      obtain ⟨⟨EXL, naL, nrL, narL⟩, ⟨FWL, FAL⟩, ⟨AAL, HFL, LNL, r1L, r7L⟩, ⟨v1L, v2L, v4L, v8L, F1L, F2L, F4L, F8L⟩⟩ := IL
      have k1 : (1 : Int32).toInt = 1 := rfl
      have e1 : (i + 1).toInt = i.toInt + 1 := by have := c_iadd i 1; have := rng32 (i + 1); omega
      have n_1 := own_nat (j := i + 1) (by omega)
      exact ih (i + 1) _ _ _ Xs ⟨⟨EXL.keep KS, na, nr, nar⟩, ⟨FWL.keep KS (ninS nbr nin0), FAL.keep KS (ninS nbr nin0)⟩, ⟨AAL.keep KS (ninS narb nin0), HF, LN, r1, r7⟩, ⟨_, _, _, _, F1L.keep KS (ninS nbr nin0), F2L.keep KS (ninS nbr nin0), F4L.keep KS (ninS nbr nin0), F8L.keep KS (ninS nbr nin0)⟩⟩ JS ⟨by omega, by omega⟩ (fun j hj => by
        by_cases q : j = i.toNatClampNeg
        · subst q; rw [List.getElem?_set_self (by omega), hz]
        · rw [List.getElem?_set_ne (fun y => q y.symm)]; exact hys j (by omega)) (N1.keep KS (ninS JL.1.2.2.2 nin0)) (N2.keep KS (ninS JL.1.2.2.2 nin0)) (N4.keep KS (ninS JL.1.2.2.2 nin0)) (N8.keep KS (ninS JL.1.2.2.2 nin0))
  refine Xi.blk hK (L := [(.astore_n 2, 1, 0, 0), (.iconst 0, 1, 0, 0), (.istore_n 3, 1, 0, 0)]) (pc' := 15) (ls' := #[.val (.ref a), .val (.int (8 : Int32)), .val (.ref an), .val (.int (0 : Int32))]) (st' := []) (by decide +kernel) rfl ?_
  exact J15 n.toInt.toNat 0 _ _ _ Xi Ii Ji ⟨by decide, by show n.toInt - (0 : Int) = _; omega⟩ (fun j hj => absurd hj (by simp)) M1 M2 M4 M8
set_option maxRecDepth 65536 in
set_option maxHeartbeats 40000000 in
theorem rm_wd24 (l : Launch) (Z : State) (a0 : Array Value) (hw : ∀ d ∈ tables_1, d.before a0 Z = true) (a ar : Addr) (n : Int32) (xs : List Int64) (h0 : Heap) (n0 : Nat) (Z0 : n0 ≤ h0.size) (I : CI2 Z h0 n0 a ar n xs) :
    Cnt l Z (⟨"com/example/millrace/millrace/examples/CompactIntegers", "widen", "(I)V"⟩ : MethodName) prog_16_method_8_code 4 none ({ frames := 2, cells := 2, slots := 13, locals := 32 } : Room) n0 #[(.ref a), (.int (4 : Int32))] h0 (fun v h => v = none ∧ ∃ ar', CI4 Z h n0 a ar' n xs) := by
  refine Cnt.mk (by first | exact plainFor_of_name (by first | (simp [plainName, overriddenIn]; done) | decide +kernel) | decide +kernel) Z0 ?_
  intro p e s m below meth c T X
  refine Go.cast (g' := mkF m 0 #[.val (.ref a), .val (.int (4 : Int32)), .unset, .unset] []) (by first | (simp [entryFrame, mkF, argsToLocals, Value.category, maxLocals]; done) | rfl) ?_
  have hK : (∀ q ∈ ([] : List (Nat × Int32)), (Jvm.Cond.constant "com/example/millrace/millrace/examples/CompactIntegers" q.1 q.2).before a0 Z = true) ∧ (∀ q ∈ ([] : List (Nat × Int64)), (Jvm.Cond.constantLong "com/example/millrace/millrace/examples/CompactIntegers" q.1 q.2).before a0 Z = true) :=
    ⟨(fun q hq => nomatch hq), (fun q hq => nomatch hq)⟩
  obtain ⟨⟨EX, na, nr, nar⟩, ⟨FW, FA⟩, ⟨AA, HF, LN, r1, r7⟩, ⟨v1, v2, v4, v8, F1, F2, F4, F8⟩⟩ := I
  have rn := own_nat r1
  refine X.newobj 3 (hw _ (List.mem_of_getElem? (i := 53) rfl)) (hw _ (List.mem_of_getElem? (i := 1) rfl)) (hw _ (List.mem_of_getElem? (i := 2) rfl)) (by decide +kernel) (by decide) ?_
  intro Tn hn Xn En Bn Dn
  obtain ⟨an, gn⟩ : ∃ z, z = h0.size := ⟨_, rfl⟩
  rw [← gn] at Bn ⊢
  simp only [← gn] at Dn
  refine Xn.blk hK (L := [(.dup, 1, 0, 0), (.iload_n 1, 1, 0, 0), (.aload_n 0, 1, 0, 0)]) (pc' := 6) (ls' := #[.val (.ref a), .val (.int (4 : Int32)), .unset, .unset]) (st' := [(.ref a), (.int (4 : Int32)), (.ref an), (.ref an)]) (by decide +kernel) rfl ?_
  have In : CI2 Z hn n0 a ar n xs := ⟨⟨EX.ext En, na, nr, nar⟩, ⟨FW.ext En, FA.ext En⟩, ⟨AA.ext En, HF, LN, r1, r7⟩, ⟨_, _, _, _, F1.ext En, F2.ext En, F4.ext En, F8.ext En⟩⟩
  refine Xn.callV 9 3 (argsL := []) (rest := [(.int (4 : Int32)), (.ref an), (.ref an)]) (EX.ext En) (rm_len2 l Z a0 hw a ar n xs hn n0 Xn.size In) (hw _ (List.mem_of_getElem? (i := 54) rfl)) (hw _ (List.mem_of_getElem? (i := 18) rfl)) (hw _ (List.mem_of_getElem? (i := 20) rfl)) (hw _ (List.mem_of_getElem? (i := 19) rfl)) (hw _ (List.mem_of_getElem? (i := 2) rfl)) (hw _ (List.mem_of_getElem? (i := 21) rfl)) (by decide) (ps := []) (r := some .int) (by decide +kernel) rfl rfl rfl rfl (by decide +kernel) (by decide) ?_
  rintro Tl hl vl Xl ⟨rfl, rfl⟩
  show Go p e below s _ n0 _ (Tl.setTop (mkF m 9 #[.val (.ref a), .val (.int (4 : Int32)), .unset, .unset] [(.int n), (.int (4 : Int32)), (.ref an), (.ref an)]))
  refine Xl.callI 12 1 (argsL := [(.int (4 : Int32)), (.int n)]) (rest := [(.ref an)]) (rm_initW4 l Z a0 hw an n hn n0 Xl.size (Dn (Or.inl (hw _ (List.mem_of_getElem? (i := 13) rfl))) (ty := .int) (by decide)) (Dn (Or.inl (hw _ (List.mem_of_getElem? (i := 16) rfl))) (ty := .array .byte) (by decide)) (Dn (Or.inl (hw _ (List.mem_of_getElem? (i := 65) rfl))) (ty := .array .short) (by decide)) (Dn (Or.inl (hw _ (List.mem_of_getElem? (i := 67) rfl))) (ty := .array .int) (by decide)) (Dn (Or.inl (hw _ (List.mem_of_getElem? (i := 57) rfl))) (ty := .array .long) (by decide)) Bn (by rw [gn]; exact Z0) r1 r7) rfl (hw _ (List.mem_of_getElem? (i := 6) rfl)) (hw _ (List.mem_of_getElem? (i := 7) rfl)) (hw _ (List.mem_of_getElem? (i := 2) rfl)) (hw _ (List.mem_of_getElem? (i := 8) rfl)) (by decide) (ps := [.int, .int]) (r := none) (by decide +kernel) rfl rfl rfl rfl (by decide +kernel) (by decide) ?_
  rintro Ti hi vi Xi ⟨rfl, br, Ji, M1, M2, M4, M8, Ki, gbr⟩
  show Go p e below s _ n0 _ (Ti.setTop (mkF m 12 #[.val (.ref a), .val (.int (4 : Int32)), .unset, .unset] [(.ref an)]))
  have nan : a ≠ an := by rw [gn]; exact Nat.ne_of_lt FW.lt
  have narn : ar ≠ an := by rw [gn]; exact Nat.ne_of_lt AA.lt
  have nbr : a ≠ br := Nat.ne_of_lt (Nat.lt_of_lt_of_le (FW.ext En).lt gbr)
  have narb : ar ≠ br := Nat.ne_of_lt (Nat.lt_of_lt_of_le (AA.ext En).lt gbr)
  have Ii : CI2 Z hi n0 a ar n xs := ⟨⟨(EX.ext En).keep Ki, na, nr, nar⟩, ⟨(FW.ext En).keep Ki (ninS nan nin0), (FA.ext En).keep Ki (ninS nan nin0)⟩, ⟨(AA.ext En).keep Ki (ninS narn nin0), HF, LN, r1, r7⟩, ⟨_, _, _, _, (F1.ext En).keep Ki (ninS nan nin0), (F2.ext En).keep Ki (ninS nan nin0), (F4.ext En).keep Ki (ninS nan nin0), (F8.ext En).keep Ki (ninS nan nin0)⟩⟩
  have J15 : ∀ (k : Nat) (i : Int32) (TL : State) (hL : Heap) (ys : List Int64), Wk Z l p e ({ frames := 2, cells := 2, slots := 13, locals := 32 } : Room) s m #[(.ref a), (.int (4 : Int32))] below meth c "com/example/millrace/millrace/examples/CompactIntegers" "widen" prog_16_method_8_code 4 none n0 TL hL 2 13 → CI2 Z hL n0 a ar n xs → CI4 Z hL n0 an br n ys → (0 ≤ i.toInt ∧ n.toInt - i.toInt = k) → (∀ j, j < i.toNatClampNeg → ys[j]? = xs[j]?) → Fld Z hL an "com/example/millrace/millrace/examples/CompactIntegers" "bytes" "[B" (.null) → Fld Z hL an "com/example/millrace/millrace/examples/CompactIntegers" "shorts" "[S" (.null) → Fld Z hL an "com/example/millrace/millrace/examples/CompactIntegers" "ints" "[I" (.ref br) → Fld Z hL an "com/example/millrace/millrace/examples/CompactIntegers" "longs" "[J" (.null) → Go p e below s ({ frames := 2, cells := 2, slots := 13, locals := 32 } : Room) n0 (fun v h => v = none ∧ ∃ ar', CI4 Z h n0 a ar' n xs) (TL.setTop (mkF m 15 #[.val (.ref a), .val (.int (4 : Int32)), .val (.ref an), .val (.int i)] [])) := by
    intro k
    induction k with
    | zero =>
      intro i TL hL ys XL IL JL hik hys N1 N2 N4 N8
      have n_i := own_nat hik.1
      refine XL.blk hK (L := [(.iload_n 3, 1, 0, 0), (.aload_n 2, 1, 0, 0)]) (pc' := 17) (ls' := #[.val (.ref a), .val (.int (4 : Int32)), .val (.ref an), .val (.int i)]) (st' := [(.ref an), (.int i)]) (by decide +kernel) rfl ?_
      refine XL.callV 20 1 (argsL := []) (rest := [(.int i)]) JL.1.1 (rm_len4 l Z a0 hw an br n ys hL n0 XL.size JL) (hw _ (List.mem_of_getElem? (i := 54) rfl)) (hw _ (List.mem_of_getElem? (i := 18) rfl)) (hw _ (List.mem_of_getElem? (i := 20) rfl)) (hw _ (List.mem_of_getElem? (i := 19) rfl)) (hw _ (List.mem_of_getElem? (i := 2) rfl)) (hw _ (List.mem_of_getElem? (i := 21) rfl)) (by decide) (ps := []) (r := some .int) (by decide +kernel) rfl rfl rfl rfl (by decide +kernel) (by decide) ?_
      rintro Tm hm vm Xm ⟨rfl, rfl⟩
      show Go p e below s _ n0 _ (Tm.setTop (mkF m 20 #[.val (.ref a), .val (.int (4 : Int32)), .val (.ref an), .val (.int i)] [(.int n), (.int i)]))
      refine Xm.icmp .ge (19) 39 23 (by decide +kernel) (fun (c20 : ¬ i < n) => ?_) (fun (c20 : i < n) => absurd c20 (by rw [Int32.lt_iff_toInt_lt]; omega : ¬ i < n))
      have eys : ys = xs := by
        refine List.ext_getElem? fun j => ?_
        by_cases q : j < n.toNatClampNeg
        · exact hys j (by omega)
        · rw [List.getElem?_eq_none (by have := JL.2.2.1.2.2.1; omega), List.getElem?_eq_none (by omega)]
      subst eys
      obtain ⟨⟨EXL, naL, nrL, narL⟩, ⟨FWL, FAL⟩, ⟨AAL, HFL, LNL, r1L, r7L⟩, ⟨v1L, v2L, v4L, v8L, F1L, F2L, F4L, F8L⟩⟩ := IL
      obtain ⟨⟨EXR, naR, nrR, narR⟩, ⟨FWR, FAR⟩, ⟨AAR, HFR, LNR, r1R, r7R⟩, ⟨v1R, v2R, v4R, v8R, F1R, F2R, F4R, F8R⟩⟩ := JL
      refine Xm.blk hK (L := [(.aload_n 0, 1, 0, 0), (.iload_n 1, 1, 0, 0)]) (pc' := 41) (ls' := #[.val (.ref a), .val (.int (4 : Int32)), .val (.ref an), .val (.int i)]) (st' := [(.int (4 : Int32)), (.ref a)]) (by decide +kernel) rfl ?_
      refine Xm.putf 44 (hw _ (List.mem_of_getElem? (i := 12) rfl)) FWL EXL (Or.inl (hw _ (List.mem_of_getElem? (i := 13) rfl))) (hw _ (List.mem_of_getElem? (i := 1) rfl)) (ty := .int) (by decide) rfl (rfl) (naL) (by decide +kernel) ?_
      intro Tp0 hp0 Xp0 Wp0
      have Wp0_bytes := F1L.other Wp0 (Or.inr (slot_ne (t := .array .byte) (t' := .int) (Or.inl (hw _ (List.mem_of_getElem? (i := 16) rfl))) (Or.inl (hw _ (List.mem_of_getElem? (i := 13) rfl))) (by decide) (by decide) (by decide)))
      have Wp0_shorts := F2L.other Wp0 (Or.inr (slot_ne (t := .array .short) (t' := .int) (Or.inl (hw _ (List.mem_of_getElem? (i := 65) rfl))) (Or.inl (hw _ (List.mem_of_getElem? (i := 13) rfl))) (by decide) (by decide) (by decide)))
      have Wp0_ints := F4L.other Wp0 (Or.inr (slot_ne (t := .array .int) (t' := .int) (Or.inl (hw _ (List.mem_of_getElem? (i := 67) rfl))) (Or.inl (hw _ (List.mem_of_getElem? (i := 13) rfl))) (by decide) (by decide) (by decide)))
      have Wp0_longs := F8L.other Wp0 (Or.inr (slot_ne (t := .array .long) (t' := .int) (Or.inl (hw _ (List.mem_of_getElem? (i := 57) rfl))) (Or.inl (hw _ (List.mem_of_getElem? (i := 13) rfl))) (by decide) (by decide) (by decide)))
      have Wp0_width := FWL.same Wp0
      have Wp0_o1 := N1.other Wp0 (Or.inl nan.symm)
      have Wp0_o2 := N2.other Wp0 (Or.inl nan.symm)
      have Wp0_o4 := N4.other Wp0 (Or.inl nan.symm)
      have Wp0_o8 := N8.other Wp0 (Or.inl nan.symm)
      have Wp0_A := AAR.other Wp0 nbr.symm
      
      refine Xp0.blk hK (L := [(.aload_n 0, 1, 0, 0), (.aload_n 2, 1, 0, 0)]) (pc' := 46) (ls' := #[.val (.ref a), .val (.int (4 : Int32)), .val (.ref an), .val (.int i)]) (st' := [(.ref an), (.ref a)]) (by decide +kernel) rfl ?_
      refine Xp0.getf 49 (hw _ (List.mem_of_getElem? (i := 15) rfl)) Wp0_o1 (by decide +kernel) ?_
      intro Tg1 Xg1
      refine Xg1.putf 52 (hw _ (List.mem_of_getElem? (i := 15) rfl)) Wp0_bytes (EXL.wr Wp0) (Or.inl (hw _ (List.mem_of_getElem? (i := 16) rfl))) (hw _ (List.mem_of_getElem? (i := 1) rfl)) (ty := (.array .byte)) (by decide) rfl (rfl) (naL) (by decide +kernel) ?_
      intro Tp1 hp1 Xp1 Wp1
      have Wp1_width := Wp0_width.other Wp1 (Or.inr (slot_ne (t := .int) (t' := .array .byte) (Or.inl (hw _ (List.mem_of_getElem? (i := 13) rfl))) (Or.inl (hw _ (List.mem_of_getElem? (i := 16) rfl))) (by decide) (by decide) (by decide)))
      have Wp1_shorts := Wp0_shorts.other Wp1 (Or.inr (slot_ne (t := .array .short) (t' := .array .byte) (Or.inl (hw _ (List.mem_of_getElem? (i := 65) rfl))) (Or.inl (hw _ (List.mem_of_getElem? (i := 16) rfl))) (by decide) (by decide) (by decide)))
      have Wp1_ints := Wp0_ints.other Wp1 (Or.inr (slot_ne (t := .array .int) (t' := .array .byte) (Or.inl (hw _ (List.mem_of_getElem? (i := 67) rfl))) (Or.inl (hw _ (List.mem_of_getElem? (i := 16) rfl))) (by decide) (by decide) (by decide)))
      have Wp1_longs := Wp0_longs.other Wp1 (Or.inr (slot_ne (t := .array .long) (t' := .array .byte) (Or.inl (hw _ (List.mem_of_getElem? (i := 57) rfl))) (Or.inl (hw _ (List.mem_of_getElem? (i := 16) rfl))) (by decide) (by decide) (by decide)))
      have Wp1_bytes := Wp0_bytes.same Wp1
      have Wp1_o1 := Wp0_o1.other Wp1 (Or.inl nan.symm)
      have Wp1_o2 := Wp0_o2.other Wp1 (Or.inl nan.symm)
      have Wp1_o4 := Wp0_o4.other Wp1 (Or.inl nan.symm)
      have Wp1_o8 := Wp0_o8.other Wp1 (Or.inl nan.symm)
      have Wp1_A := Wp0_A.other Wp1 nbr.symm
      refine Xp1.blk hK (L := [(.aload_n 0, 1, 0, 0), (.aload_n 2, 1, 0, 0)]) (pc' := 54) (ls' := #[.val (.ref a), .val (.int (4 : Int32)), .val (.ref an), .val (.int i)]) (st' := [(.ref an), (.ref a)]) (by decide +kernel) rfl ?_
      refine Xp1.getf 57 (hw _ (List.mem_of_getElem? (i := 64) rfl)) Wp1_o2 (by decide +kernel) ?_
      intro Tg2 Xg2
      refine Xg2.putf 60 (hw _ (List.mem_of_getElem? (i := 64) rfl)) Wp1_shorts ((EXL.wr Wp0).wr Wp1) (Or.inl (hw _ (List.mem_of_getElem? (i := 65) rfl))) (hw _ (List.mem_of_getElem? (i := 1) rfl)) (ty := (.array .short)) (by decide) rfl (rfl) (naL) (by decide +kernel) ?_
      intro Tp2 hp2 Xp2 Wp2
      have Wp2_width := Wp1_width.other Wp2 (Or.inr (slot_ne (t := .int) (t' := .array .short) (Or.inl (hw _ (List.mem_of_getElem? (i := 13) rfl))) (Or.inl (hw _ (List.mem_of_getElem? (i := 65) rfl))) (by decide) (by decide) (by decide)))
      have Wp2_bytes := Wp1_bytes.other Wp2 (Or.inr (slot_ne (t := .array .byte) (t' := .array .short) (Or.inl (hw _ (List.mem_of_getElem? (i := 16) rfl))) (Or.inl (hw _ (List.mem_of_getElem? (i := 65) rfl))) (by decide) (by decide) (by decide)))
      have Wp2_ints := Wp1_ints.other Wp2 (Or.inr (slot_ne (t := .array .int) (t' := .array .short) (Or.inl (hw _ (List.mem_of_getElem? (i := 67) rfl))) (Or.inl (hw _ (List.mem_of_getElem? (i := 65) rfl))) (by decide) (by decide) (by decide)))
      have Wp2_longs := Wp1_longs.other Wp2 (Or.inr (slot_ne (t := .array .long) (t' := .array .short) (Or.inl (hw _ (List.mem_of_getElem? (i := 57) rfl))) (Or.inl (hw _ (List.mem_of_getElem? (i := 65) rfl))) (by decide) (by decide) (by decide)))
      have Wp2_shorts := Wp1_shorts.same Wp2
      have Wp2_o1 := Wp1_o1.other Wp2 (Or.inl nan.symm)
      have Wp2_o2 := Wp1_o2.other Wp2 (Or.inl nan.symm)
      have Wp2_o4 := Wp1_o4.other Wp2 (Or.inl nan.symm)
      have Wp2_o8 := Wp1_o8.other Wp2 (Or.inl nan.symm)
      have Wp2_A := Wp1_A.other Wp2 nbr.symm
      refine Xp2.blk hK (L := [(.aload_n 0, 1, 0, 0), (.aload_n 2, 1, 0, 0)]) (pc' := 62) (ls' := #[.val (.ref a), .val (.int (4 : Int32)), .val (.ref an), .val (.int i)]) (st' := [(.ref an), (.ref a)]) (by decide +kernel) rfl ?_
      refine Xp2.getf 65 (hw _ (List.mem_of_getElem? (i := 66) rfl)) Wp2_o4 (by decide +kernel) ?_
      intro Tg4 Xg4
      refine Xg4.putf 68 (hw _ (List.mem_of_getElem? (i := 66) rfl)) Wp2_ints (((EXL.wr Wp0).wr Wp1).wr Wp2) (Or.inl (hw _ (List.mem_of_getElem? (i := 67) rfl))) (hw _ (List.mem_of_getElem? (i := 1) rfl)) (ty := (.array .int)) (by decide) rfl (rfl) (naL) (by decide +kernel) ?_
      intro Tp4 hp4 Xp4 Wp4
      have Wp4_width := Wp2_width.other Wp4 (Or.inr (slot_ne (t := .int) (t' := .array .int) (Or.inl (hw _ (List.mem_of_getElem? (i := 13) rfl))) (Or.inl (hw _ (List.mem_of_getElem? (i := 67) rfl))) (by decide) (by decide) (by decide)))
      have Wp4_bytes := Wp2_bytes.other Wp4 (Or.inr (slot_ne (t := .array .byte) (t' := .array .int) (Or.inl (hw _ (List.mem_of_getElem? (i := 16) rfl))) (Or.inl (hw _ (List.mem_of_getElem? (i := 67) rfl))) (by decide) (by decide) (by decide)))
      have Wp4_shorts := Wp2_shorts.other Wp4 (Or.inr (slot_ne (t := .array .short) (t' := .array .int) (Or.inl (hw _ (List.mem_of_getElem? (i := 65) rfl))) (Or.inl (hw _ (List.mem_of_getElem? (i := 67) rfl))) (by decide) (by decide) (by decide)))
      have Wp4_longs := Wp2_longs.other Wp4 (Or.inr (slot_ne (t := .array .long) (t' := .array .int) (Or.inl (hw _ (List.mem_of_getElem? (i := 57) rfl))) (Or.inl (hw _ (List.mem_of_getElem? (i := 67) rfl))) (by decide) (by decide) (by decide)))
      have Wp4_ints := Wp2_ints.same Wp4
      have Wp4_o1 := Wp2_o1.other Wp4 (Or.inl nan.symm)
      have Wp4_o2 := Wp2_o2.other Wp4 (Or.inl nan.symm)
      have Wp4_o4 := Wp2_o4.other Wp4 (Or.inl nan.symm)
      have Wp4_o8 := Wp2_o8.other Wp4 (Or.inl nan.symm)
      have Wp4_A := Wp2_A.other Wp4 nbr.symm
      refine Xp4.blk hK (L := [(.aload_n 0, 1, 0, 0), (.aload_n 2, 1, 0, 0)]) (pc' := 70) (ls' := #[.val (.ref a), .val (.int (4 : Int32)), .val (.ref an), .val (.int i)]) (st' := [(.ref an), (.ref a)]) (by decide +kernel) rfl ?_
      refine Xp4.getf 73 (hw _ (List.mem_of_getElem? (i := 56) rfl)) Wp4_o8 (by decide +kernel) ?_
      intro Tg8 Xg8
      refine Xg8.putf 76 (hw _ (List.mem_of_getElem? (i := 56) rfl)) Wp4_longs ((((EXL.wr Wp0).wr Wp1).wr Wp2).wr Wp4) (Or.inl (hw _ (List.mem_of_getElem? (i := 57) rfl))) (hw _ (List.mem_of_getElem? (i := 1) rfl)) (ty := (.array .long)) (by decide) rfl (rfl) (naL) (by decide +kernel) ?_
      intro Tp8 hp8 Xp8 Wp8
      have Wp8_width := Wp4_width.other Wp8 (Or.inr (slot_ne (t := .int) (t' := .array .long) (Or.inl (hw _ (List.mem_of_getElem? (i := 13) rfl))) (Or.inl (hw _ (List.mem_of_getElem? (i := 57) rfl))) (by decide) (by decide) (by decide)))
      have Wp8_bytes := Wp4_bytes.other Wp8 (Or.inr (slot_ne (t := .array .byte) (t' := .array .long) (Or.inl (hw _ (List.mem_of_getElem? (i := 16) rfl))) (Or.inl (hw _ (List.mem_of_getElem? (i := 57) rfl))) (by decide) (by decide) (by decide)))
      have Wp8_shorts := Wp4_shorts.other Wp8 (Or.inr (slot_ne (t := .array .short) (t' := .array .long) (Or.inl (hw _ (List.mem_of_getElem? (i := 65) rfl))) (Or.inl (hw _ (List.mem_of_getElem? (i := 57) rfl))) (by decide) (by decide) (by decide)))
      have Wp8_ints := Wp4_ints.other Wp8 (Or.inr (slot_ne (t := .array .int) (t' := .array .long) (Or.inl (hw _ (List.mem_of_getElem? (i := 67) rfl))) (Or.inl (hw _ (List.mem_of_getElem? (i := 57) rfl))) (by decide) (by decide) (by decide)))
      have Wp8_longs := Wp4_longs.same Wp8
      have Wp8_o1 := Wp4_o1.other Wp8 (Or.inl nan.symm)
      have Wp8_o2 := Wp4_o2.other Wp8 (Or.inl nan.symm)
      have Wp8_o4 := Wp4_o4.other Wp8 (Or.inl nan.symm)
      have Wp8_o8 := Wp4_o8.other Wp8 (Or.inl nan.symm)
      have Wp8_A := Wp4_A.other Wp8 nbr.symm
      exact Xp8.retV (by decide +kernel) (by decide) (by decide) (⟨rfl, br, ⟨(((((EXL.wr Wp0).wr Wp1).wr Wp2).wr Wp4).wr Wp8), naL, nrR, nbr⟩, ⟨Wp8_width, Wp8_ints⟩, ⟨Wp8_A, HFR, LNR, r1, r7⟩, ⟨_, _, _, _, Wp8_bytes, Wp8_shorts, Wp8_ints, Wp8_longs⟩⟩)
    | succ k ih =>
      intro i TL hL ys XL IL JL hik hys N1 N2 N4 N8
      have n_i := own_nat hik.1
      refine XL.blk hK (L := [(.iload_n 3, 1, 0, 0), (.aload_n 2, 1, 0, 0)]) (pc' := 17) (ls' := #[.val (.ref a), .val (.int (4 : Int32)), .val (.ref an), .val (.int i)]) (st' := [(.ref an), (.int i)]) (by decide +kernel) rfl ?_
      refine XL.callV 20 1 (argsL := []) (rest := [(.int i)]) JL.1.1 (rm_len4 l Z a0 hw an br n ys hL n0 XL.size JL) (hw _ (List.mem_of_getElem? (i := 54) rfl)) (hw _ (List.mem_of_getElem? (i := 18) rfl)) (hw _ (List.mem_of_getElem? (i := 20) rfl)) (hw _ (List.mem_of_getElem? (i := 19) rfl)) (hw _ (List.mem_of_getElem? (i := 2) rfl)) (hw _ (List.mem_of_getElem? (i := 21) rfl)) (by decide) (ps := []) (r := some .int) (by decide +kernel) rfl rfl rfl rfl (by decide +kernel) (by decide) ?_
      rintro Tm hm vm Xm ⟨rfl, rfl⟩
      show Go p e below s _ n0 _ (Tm.setTop (mkF m 20 #[.val (.ref a), .val (.int (4 : Int32)), .val (.ref an), .val (.int i)] [(.int n), (.int i)]))
      refine Xm.icmp .ge (19) 39 23 (by decide +kernel) (fun (c20 : ¬ i < n) => absurd (by rw [Int32.lt_iff_toInt_lt]; omega : i < n) c20) (fun (c20 : i < n) => ?_)
      refine Xm.blk hK (L := [(.aload_n 2, 1, 0, 0), (.iload_n 3, 1, 0, 0), (.aload_n 0, 1, 0, 0), (.iload_n 3, 1, 0, 0)]) (pc' := 27) (ls' := #[.val (.ref a), .val (.int (4 : Int32)), .val (.ref an), .val (.int i)]) (st' := [(.int i), (.ref a), (.int i), (.ref an)]) (by decide +kernel) rfl ?_
      obtain ⟨z, hz⟩ : ∃ z, xs[i.toNatClampNeg]? = some z := ⟨_, List.getElem?_eq_getElem (by omega)⟩
      have fz := IL.2.2.1.2.1 z (List.mem_of_getElem? hz)
      have LY := JL.2.2.1.2.2.1
      refine Xm.callV 30 2 (argsL := [(.int i)]) (rest := [(.int i), (.ref an)]) IL.1.1 (rm_get2 l Z a0 hw a ar n i xs z hL n0 Xm.size IL (own_nn hik.1) hz) (hw _ (List.mem_of_getElem? (i := 58) rfl)) (hw _ (List.mem_of_getElem? (i := 59) rfl)) (hw _ (List.mem_of_getElem? (i := 61) rfl)) (hw _ (List.mem_of_getElem? (i := 60) rfl)) (hw _ (List.mem_of_getElem? (i := 2) rfl)) (hw _ (List.mem_of_getElem? (i := 62) rfl)) (by decide) (ps := [.int]) (r := some .long) (by decide +kernel) rfl rfl rfl rfl (by decide +kernel) (by decide) ?_
      rintro Tg hg vg Xg ⟨rfl, rfl⟩
      show Go p e below s _ n0 _ (Tg.setTop (mkF m 30 #[.val (.ref a), .val (.int (4 : Int32)), .val (.ref an), .val (.int i)] [(.long z), (.int i), (.ref an)]))
      refine Xg.callV 33 0 (argsL := [(.int i), (.long z)]) (rest := []) JL.1.1 (rm_setN4 l Z a0 hw an br n i ys z hL n0 Xg.size JL (own_nn hik.1) (by omega) (own_g2 fz) (own_n24 z fz)) (hw _ (List.mem_of_getElem? (i := 63) rfl)) (hw _ (List.mem_of_getElem? (i := 42) rfl)) (hw _ (List.mem_of_getElem? (i := 44) rfl)) (hw _ (List.mem_of_getElem? (i := 43) rfl)) (hw _ (List.mem_of_getElem? (i := 2) rfl)) (hw _ (List.mem_of_getElem? (i := 45) rfl)) (by decide) (ps := [.int, .long]) (r := none) (by decide +kernel) rfl rfl rfl rfl (by decide +kernel) (by decide) ?_
      rintro Ts hs vs Xs ⟨rfl, JS, KS⟩
      show Go p e below s _ n0 _ (Ts.setTop (mkF m 33 #[.val (.ref a), .val (.int (4 : Int32)), .val (.ref an), .val (.int i)] []))
      refine Xs.blk hK (L := [(.iinc 3 1, 3, 1, 0), (.goto (-21), 3, 0, 15)]) (pc' := 15) (ls' := #[.val (.ref a), .val (.int (4 : Int32)), .val (.ref an), .val (.int (i + (1 : Int32)))]) (st' := []) (by decide +kernel) rfl ?_
      obtain ⟨⟨EXL, naL, nrL, narL⟩, ⟨FWL, FAL⟩, ⟨AAL, HFL, LNL, r1L, r7L⟩, ⟨v1L, v2L, v4L, v8L, F1L, F2L, F4L, F8L⟩⟩ := IL
      have k1 : (1 : Int32).toInt = 1 := rfl
      have e1 : (i + 1).toInt = i.toInt + 1 := by have := c_iadd i 1; have := rng32 (i + 1); omega
      have n_1 := own_nat (j := i + 1) (by omega)
      exact ih (i + 1) _ _ _ Xs ⟨⟨EXL.keep KS, na, nr, nar⟩, ⟨FWL.keep KS (ninS nbr nin0), FAL.keep KS (ninS nbr nin0)⟩, ⟨AAL.keep KS (ninS narb nin0), HF, LN, r1, r7⟩, ⟨_, _, _, _, F1L.keep KS (ninS nbr nin0), F2L.keep KS (ninS nbr nin0), F4L.keep KS (ninS nbr nin0), F8L.keep KS (ninS nbr nin0)⟩⟩ JS ⟨by omega, by omega⟩ (fun j hj => by
        by_cases q : j = i.toNatClampNeg
        · subst q; rw [List.getElem?_set_self (by omega), hz]
        · rw [List.getElem?_set_ne (fun y => q y.symm)]; exact hys j (by omega)) (N1.keep KS (ninS JL.1.2.2.2 nin0)) (N2.keep KS (ninS JL.1.2.2.2 nin0)) (N4.keep KS (ninS JL.1.2.2.2 nin0)) (N8.keep KS (ninS JL.1.2.2.2 nin0))
  refine Xi.blk hK (L := [(.astore_n 2, 1, 0, 0), (.iconst 0, 1, 0, 0), (.istore_n 3, 1, 0, 0)]) (pc' := 15) (ls' := #[.val (.ref a), .val (.int (4 : Int32)), .val (.ref an), .val (.int (0 : Int32))]) (st' := []) (by decide +kernel) rfl ?_
  exact J15 n.toInt.toNat 0 _ _ _ Xi Ii Ji ⟨by decide, by show n.toInt - (0 : Int) = _; omega⟩ (fun j hj => absurd hj (by simp)) M1 M2 M4 M8
set_option maxRecDepth 65536 in
set_option maxHeartbeats 40000000 in
theorem rm_wd28 (l : Launch) (Z : State) (a0 : Array Value) (hw : ∀ d ∈ tables_1, d.before a0 Z = true) (a ar : Addr) (n : Int32) (xs : List Int64) (h0 : Heap) (n0 : Nat) (Z0 : n0 ≤ h0.size) (I : CI2 Z h0 n0 a ar n xs) :
    Cnt l Z (⟨"com/example/millrace/millrace/examples/CompactIntegers", "widen", "(I)V"⟩ : MethodName) prog_16_method_8_code 4 none ({ frames := 2, cells := 2, slots := 13, locals := 32 } : Room) n0 #[(.ref a), (.int (8 : Int32))] h0 (fun v h => v = none ∧ ∃ ar', CI8 Z h n0 a ar' n xs) := by
  refine Cnt.mk (by first | exact plainFor_of_name (by first | (simp [plainName, overriddenIn]; done) | decide +kernel) | decide +kernel) Z0 ?_
  intro p e s m below meth c T X
  refine Go.cast (g' := mkF m 0 #[.val (.ref a), .val (.int (8 : Int32)), .unset, .unset] []) (by first | (simp [entryFrame, mkF, argsToLocals, Value.category, maxLocals]; done) | rfl) ?_
  have hK : (∀ q ∈ ([] : List (Nat × Int32)), (Jvm.Cond.constant "com/example/millrace/millrace/examples/CompactIntegers" q.1 q.2).before a0 Z = true) ∧ (∀ q ∈ ([] : List (Nat × Int64)), (Jvm.Cond.constantLong "com/example/millrace/millrace/examples/CompactIntegers" q.1 q.2).before a0 Z = true) :=
    ⟨(fun q hq => nomatch hq), (fun q hq => nomatch hq)⟩
  obtain ⟨⟨EX, na, nr, nar⟩, ⟨FW, FA⟩, ⟨AA, HF, LN, r1, r7⟩, ⟨v1, v2, v4, v8, F1, F2, F4, F8⟩⟩ := I
  have rn := own_nat r1
  refine X.newobj 3 (hw _ (List.mem_of_getElem? (i := 53) rfl)) (hw _ (List.mem_of_getElem? (i := 1) rfl)) (hw _ (List.mem_of_getElem? (i := 2) rfl)) (by decide +kernel) (by decide) ?_
  intro Tn hn Xn En Bn Dn
  obtain ⟨an, gn⟩ : ∃ z, z = h0.size := ⟨_, rfl⟩
  rw [← gn] at Bn ⊢
  simp only [← gn] at Dn
  refine Xn.blk hK (L := [(.dup, 1, 0, 0), (.iload_n 1, 1, 0, 0), (.aload_n 0, 1, 0, 0)]) (pc' := 6) (ls' := #[.val (.ref a), .val (.int (8 : Int32)), .unset, .unset]) (st' := [(.ref a), (.int (8 : Int32)), (.ref an), (.ref an)]) (by decide +kernel) rfl ?_
  have In : CI2 Z hn n0 a ar n xs := ⟨⟨EX.ext En, na, nr, nar⟩, ⟨FW.ext En, FA.ext En⟩, ⟨AA.ext En, HF, LN, r1, r7⟩, ⟨_, _, _, _, F1.ext En, F2.ext En, F4.ext En, F8.ext En⟩⟩
  refine Xn.callV 9 3 (argsL := []) (rest := [(.int (8 : Int32)), (.ref an), (.ref an)]) (EX.ext En) (rm_len2 l Z a0 hw a ar n xs hn n0 Xn.size In) (hw _ (List.mem_of_getElem? (i := 54) rfl)) (hw _ (List.mem_of_getElem? (i := 18) rfl)) (hw _ (List.mem_of_getElem? (i := 20) rfl)) (hw _ (List.mem_of_getElem? (i := 19) rfl)) (hw _ (List.mem_of_getElem? (i := 2) rfl)) (hw _ (List.mem_of_getElem? (i := 21) rfl)) (by decide) (ps := []) (r := some .int) (by decide +kernel) rfl rfl rfl rfl (by decide +kernel) (by decide) ?_
  rintro Tl hl vl Xl ⟨rfl, rfl⟩
  show Go p e below s _ n0 _ (Tl.setTop (mkF m 9 #[.val (.ref a), .val (.int (8 : Int32)), .unset, .unset] [(.int n), (.int (8 : Int32)), (.ref an), (.ref an)]))
  refine Xl.callI 12 1 (argsL := [(.int (8 : Int32)), (.int n)]) (rest := [(.ref an)]) (rm_initW8 l Z a0 hw an n hn n0 Xl.size (Dn (Or.inl (hw _ (List.mem_of_getElem? (i := 13) rfl))) (ty := .int) (by decide)) (Dn (Or.inl (hw _ (List.mem_of_getElem? (i := 16) rfl))) (ty := .array .byte) (by decide)) (Dn (Or.inl (hw _ (List.mem_of_getElem? (i := 65) rfl))) (ty := .array .short) (by decide)) (Dn (Or.inl (hw _ (List.mem_of_getElem? (i := 67) rfl))) (ty := .array .int) (by decide)) (Dn (Or.inl (hw _ (List.mem_of_getElem? (i := 57) rfl))) (ty := .array .long) (by decide)) Bn (by rw [gn]; exact Z0) r1 r7) rfl (hw _ (List.mem_of_getElem? (i := 6) rfl)) (hw _ (List.mem_of_getElem? (i := 7) rfl)) (hw _ (List.mem_of_getElem? (i := 2) rfl)) (hw _ (List.mem_of_getElem? (i := 8) rfl)) (by decide) (ps := [.int, .int]) (r := none) (by decide +kernel) rfl rfl rfl rfl (by decide +kernel) (by decide) ?_
  rintro Ti hi vi Xi ⟨rfl, br, Ji, M1, M2, M4, M8, Ki, gbr⟩
  show Go p e below s _ n0 _ (Ti.setTop (mkF m 12 #[.val (.ref a), .val (.int (8 : Int32)), .unset, .unset] [(.ref an)]))
  have nan : a ≠ an := by rw [gn]; exact Nat.ne_of_lt FW.lt
  have narn : ar ≠ an := by rw [gn]; exact Nat.ne_of_lt AA.lt
  have nbr : a ≠ br := Nat.ne_of_lt (Nat.lt_of_lt_of_le (FW.ext En).lt gbr)
  have narb : ar ≠ br := Nat.ne_of_lt (Nat.lt_of_lt_of_le (AA.ext En).lt gbr)
  have Ii : CI2 Z hi n0 a ar n xs := ⟨⟨(EX.ext En).keep Ki, na, nr, nar⟩, ⟨(FW.ext En).keep Ki (ninS nan nin0), (FA.ext En).keep Ki (ninS nan nin0)⟩, ⟨(AA.ext En).keep Ki (ninS narn nin0), HF, LN, r1, r7⟩, ⟨_, _, _, _, (F1.ext En).keep Ki (ninS nan nin0), (F2.ext En).keep Ki (ninS nan nin0), (F4.ext En).keep Ki (ninS nan nin0), (F8.ext En).keep Ki (ninS nan nin0)⟩⟩
  have J15 : ∀ (k : Nat) (i : Int32) (TL : State) (hL : Heap) (ys : List Int64), Wk Z l p e ({ frames := 2, cells := 2, slots := 13, locals := 32 } : Room) s m #[(.ref a), (.int (8 : Int32))] below meth c "com/example/millrace/millrace/examples/CompactIntegers" "widen" prog_16_method_8_code 4 none n0 TL hL 2 13 → CI2 Z hL n0 a ar n xs → CI8 Z hL n0 an br n ys → (0 ≤ i.toInt ∧ n.toInt - i.toInt = k) → (∀ j, j < i.toNatClampNeg → ys[j]? = xs[j]?) → Fld Z hL an "com/example/millrace/millrace/examples/CompactIntegers" "bytes" "[B" (.null) → Fld Z hL an "com/example/millrace/millrace/examples/CompactIntegers" "shorts" "[S" (.null) → Fld Z hL an "com/example/millrace/millrace/examples/CompactIntegers" "ints" "[I" (.null) → Fld Z hL an "com/example/millrace/millrace/examples/CompactIntegers" "longs" "[J" (.ref br) → Go p e below s ({ frames := 2, cells := 2, slots := 13, locals := 32 } : Room) n0 (fun v h => v = none ∧ ∃ ar', CI8 Z h n0 a ar' n xs) (TL.setTop (mkF m 15 #[.val (.ref a), .val (.int (8 : Int32)), .val (.ref an), .val (.int i)] [])) := by
    intro k
    induction k with
    | zero =>
      intro i TL hL ys XL IL JL hik hys N1 N2 N4 N8
      have n_i := own_nat hik.1
      refine XL.blk hK (L := [(.iload_n 3, 1, 0, 0), (.aload_n 2, 1, 0, 0)]) (pc' := 17) (ls' := #[.val (.ref a), .val (.int (8 : Int32)), .val (.ref an), .val (.int i)]) (st' := [(.ref an), (.int i)]) (by decide +kernel) rfl ?_
      refine XL.callV 20 1 (argsL := []) (rest := [(.int i)]) JL.1.1 (rm_len8 l Z a0 hw an br n ys hL n0 XL.size JL) (hw _ (List.mem_of_getElem? (i := 54) rfl)) (hw _ (List.mem_of_getElem? (i := 18) rfl)) (hw _ (List.mem_of_getElem? (i := 20) rfl)) (hw _ (List.mem_of_getElem? (i := 19) rfl)) (hw _ (List.mem_of_getElem? (i := 2) rfl)) (hw _ (List.mem_of_getElem? (i := 21) rfl)) (by decide) (ps := []) (r := some .int) (by decide +kernel) rfl rfl rfl rfl (by decide +kernel) (by decide) ?_
      rintro Tm hm vm Xm ⟨rfl, rfl⟩
      show Go p e below s _ n0 _ (Tm.setTop (mkF m 20 #[.val (.ref a), .val (.int (8 : Int32)), .val (.ref an), .val (.int i)] [(.int n), (.int i)]))
      refine Xm.icmp .ge (19) 39 23 (by decide +kernel) (fun (c20 : ¬ i < n) => ?_) (fun (c20 : i < n) => absurd c20 (by rw [Int32.lt_iff_toInt_lt]; omega : ¬ i < n))
      have eys : ys = xs := by
        refine List.ext_getElem? fun j => ?_
        by_cases q : j < n.toNatClampNeg
        · exact hys j (by omega)
        · rw [List.getElem?_eq_none (by have := JL.2.2.1.2.2.1; omega), List.getElem?_eq_none (by omega)]
      subst eys
      obtain ⟨⟨EXL, naL, nrL, narL⟩, ⟨FWL, FAL⟩, ⟨AAL, HFL, LNL, r1L, r7L⟩, ⟨v1L, v2L, v4L, v8L, F1L, F2L, F4L, F8L⟩⟩ := IL
      obtain ⟨⟨EXR, naR, nrR, narR⟩, ⟨FWR, FAR⟩, ⟨AAR, HFR, LNR, r1R, r7R⟩, ⟨v1R, v2R, v4R, v8R, F1R, F2R, F4R, F8R⟩⟩ := JL
      refine Xm.blk hK (L := [(.aload_n 0, 1, 0, 0), (.iload_n 1, 1, 0, 0)]) (pc' := 41) (ls' := #[.val (.ref a), .val (.int (8 : Int32)), .val (.ref an), .val (.int i)]) (st' := [(.int (8 : Int32)), (.ref a)]) (by decide +kernel) rfl ?_
      refine Xm.putf 44 (hw _ (List.mem_of_getElem? (i := 12) rfl)) FWL EXL (Or.inl (hw _ (List.mem_of_getElem? (i := 13) rfl))) (hw _ (List.mem_of_getElem? (i := 1) rfl)) (ty := .int) (by decide) rfl (rfl) (naL) (by decide +kernel) ?_
      intro Tp0 hp0 Xp0 Wp0
      have Wp0_bytes := F1L.other Wp0 (Or.inr (slot_ne (t := .array .byte) (t' := .int) (Or.inl (hw _ (List.mem_of_getElem? (i := 16) rfl))) (Or.inl (hw _ (List.mem_of_getElem? (i := 13) rfl))) (by decide) (by decide) (by decide)))
      have Wp0_shorts := F2L.other Wp0 (Or.inr (slot_ne (t := .array .short) (t' := .int) (Or.inl (hw _ (List.mem_of_getElem? (i := 65) rfl))) (Or.inl (hw _ (List.mem_of_getElem? (i := 13) rfl))) (by decide) (by decide) (by decide)))
      have Wp0_ints := F4L.other Wp0 (Or.inr (slot_ne (t := .array .int) (t' := .int) (Or.inl (hw _ (List.mem_of_getElem? (i := 67) rfl))) (Or.inl (hw _ (List.mem_of_getElem? (i := 13) rfl))) (by decide) (by decide) (by decide)))
      have Wp0_longs := F8L.other Wp0 (Or.inr (slot_ne (t := .array .long) (t' := .int) (Or.inl (hw _ (List.mem_of_getElem? (i := 57) rfl))) (Or.inl (hw _ (List.mem_of_getElem? (i := 13) rfl))) (by decide) (by decide) (by decide)))
      have Wp0_width := FWL.same Wp0
      have Wp0_o1 := N1.other Wp0 (Or.inl nan.symm)
      have Wp0_o2 := N2.other Wp0 (Or.inl nan.symm)
      have Wp0_o4 := N4.other Wp0 (Or.inl nan.symm)
      have Wp0_o8 := N8.other Wp0 (Or.inl nan.symm)
      have Wp0_A := AAR.other Wp0 nbr.symm
      
      refine Xp0.blk hK (L := [(.aload_n 0, 1, 0, 0), (.aload_n 2, 1, 0, 0)]) (pc' := 46) (ls' := #[.val (.ref a), .val (.int (8 : Int32)), .val (.ref an), .val (.int i)]) (st' := [(.ref an), (.ref a)]) (by decide +kernel) rfl ?_
      refine Xp0.getf 49 (hw _ (List.mem_of_getElem? (i := 15) rfl)) Wp0_o1 (by decide +kernel) ?_
      intro Tg1 Xg1
      refine Xg1.putf 52 (hw _ (List.mem_of_getElem? (i := 15) rfl)) Wp0_bytes (EXL.wr Wp0) (Or.inl (hw _ (List.mem_of_getElem? (i := 16) rfl))) (hw _ (List.mem_of_getElem? (i := 1) rfl)) (ty := (.array .byte)) (by decide) rfl (rfl) (naL) (by decide +kernel) ?_
      intro Tp1 hp1 Xp1 Wp1
      have Wp1_width := Wp0_width.other Wp1 (Or.inr (slot_ne (t := .int) (t' := .array .byte) (Or.inl (hw _ (List.mem_of_getElem? (i := 13) rfl))) (Or.inl (hw _ (List.mem_of_getElem? (i := 16) rfl))) (by decide) (by decide) (by decide)))
      have Wp1_shorts := Wp0_shorts.other Wp1 (Or.inr (slot_ne (t := .array .short) (t' := .array .byte) (Or.inl (hw _ (List.mem_of_getElem? (i := 65) rfl))) (Or.inl (hw _ (List.mem_of_getElem? (i := 16) rfl))) (by decide) (by decide) (by decide)))
      have Wp1_ints := Wp0_ints.other Wp1 (Or.inr (slot_ne (t := .array .int) (t' := .array .byte) (Or.inl (hw _ (List.mem_of_getElem? (i := 67) rfl))) (Or.inl (hw _ (List.mem_of_getElem? (i := 16) rfl))) (by decide) (by decide) (by decide)))
      have Wp1_longs := Wp0_longs.other Wp1 (Or.inr (slot_ne (t := .array .long) (t' := .array .byte) (Or.inl (hw _ (List.mem_of_getElem? (i := 57) rfl))) (Or.inl (hw _ (List.mem_of_getElem? (i := 16) rfl))) (by decide) (by decide) (by decide)))
      have Wp1_bytes := Wp0_bytes.same Wp1
      have Wp1_o1 := Wp0_o1.other Wp1 (Or.inl nan.symm)
      have Wp1_o2 := Wp0_o2.other Wp1 (Or.inl nan.symm)
      have Wp1_o4 := Wp0_o4.other Wp1 (Or.inl nan.symm)
      have Wp1_o8 := Wp0_o8.other Wp1 (Or.inl nan.symm)
      have Wp1_A := Wp0_A.other Wp1 nbr.symm
      refine Xp1.blk hK (L := [(.aload_n 0, 1, 0, 0), (.aload_n 2, 1, 0, 0)]) (pc' := 54) (ls' := #[.val (.ref a), .val (.int (8 : Int32)), .val (.ref an), .val (.int i)]) (st' := [(.ref an), (.ref a)]) (by decide +kernel) rfl ?_
      refine Xp1.getf 57 (hw _ (List.mem_of_getElem? (i := 64) rfl)) Wp1_o2 (by decide +kernel) ?_
      intro Tg2 Xg2
      refine Xg2.putf 60 (hw _ (List.mem_of_getElem? (i := 64) rfl)) Wp1_shorts ((EXL.wr Wp0).wr Wp1) (Or.inl (hw _ (List.mem_of_getElem? (i := 65) rfl))) (hw _ (List.mem_of_getElem? (i := 1) rfl)) (ty := (.array .short)) (by decide) rfl (rfl) (naL) (by decide +kernel) ?_
      intro Tp2 hp2 Xp2 Wp2
      have Wp2_width := Wp1_width.other Wp2 (Or.inr (slot_ne (t := .int) (t' := .array .short) (Or.inl (hw _ (List.mem_of_getElem? (i := 13) rfl))) (Or.inl (hw _ (List.mem_of_getElem? (i := 65) rfl))) (by decide) (by decide) (by decide)))
      have Wp2_bytes := Wp1_bytes.other Wp2 (Or.inr (slot_ne (t := .array .byte) (t' := .array .short) (Or.inl (hw _ (List.mem_of_getElem? (i := 16) rfl))) (Or.inl (hw _ (List.mem_of_getElem? (i := 65) rfl))) (by decide) (by decide) (by decide)))
      have Wp2_ints := Wp1_ints.other Wp2 (Or.inr (slot_ne (t := .array .int) (t' := .array .short) (Or.inl (hw _ (List.mem_of_getElem? (i := 67) rfl))) (Or.inl (hw _ (List.mem_of_getElem? (i := 65) rfl))) (by decide) (by decide) (by decide)))
      have Wp2_longs := Wp1_longs.other Wp2 (Or.inr (slot_ne (t := .array .long) (t' := .array .short) (Or.inl (hw _ (List.mem_of_getElem? (i := 57) rfl))) (Or.inl (hw _ (List.mem_of_getElem? (i := 65) rfl))) (by decide) (by decide) (by decide)))
      have Wp2_shorts := Wp1_shorts.same Wp2
      have Wp2_o1 := Wp1_o1.other Wp2 (Or.inl nan.symm)
      have Wp2_o2 := Wp1_o2.other Wp2 (Or.inl nan.symm)
      have Wp2_o4 := Wp1_o4.other Wp2 (Or.inl nan.symm)
      have Wp2_o8 := Wp1_o8.other Wp2 (Or.inl nan.symm)
      have Wp2_A := Wp1_A.other Wp2 nbr.symm
      refine Xp2.blk hK (L := [(.aload_n 0, 1, 0, 0), (.aload_n 2, 1, 0, 0)]) (pc' := 62) (ls' := #[.val (.ref a), .val (.int (8 : Int32)), .val (.ref an), .val (.int i)]) (st' := [(.ref an), (.ref a)]) (by decide +kernel) rfl ?_
      refine Xp2.getf 65 (hw _ (List.mem_of_getElem? (i := 66) rfl)) Wp2_o4 (by decide +kernel) ?_
      intro Tg4 Xg4
      refine Xg4.putf 68 (hw _ (List.mem_of_getElem? (i := 66) rfl)) Wp2_ints (((EXL.wr Wp0).wr Wp1).wr Wp2) (Or.inl (hw _ (List.mem_of_getElem? (i := 67) rfl))) (hw _ (List.mem_of_getElem? (i := 1) rfl)) (ty := (.array .int)) (by decide) rfl (rfl) (naL) (by decide +kernel) ?_
      intro Tp4 hp4 Xp4 Wp4
      have Wp4_width := Wp2_width.other Wp4 (Or.inr (slot_ne (t := .int) (t' := .array .int) (Or.inl (hw _ (List.mem_of_getElem? (i := 13) rfl))) (Or.inl (hw _ (List.mem_of_getElem? (i := 67) rfl))) (by decide) (by decide) (by decide)))
      have Wp4_bytes := Wp2_bytes.other Wp4 (Or.inr (slot_ne (t := .array .byte) (t' := .array .int) (Or.inl (hw _ (List.mem_of_getElem? (i := 16) rfl))) (Or.inl (hw _ (List.mem_of_getElem? (i := 67) rfl))) (by decide) (by decide) (by decide)))
      have Wp4_shorts := Wp2_shorts.other Wp4 (Or.inr (slot_ne (t := .array .short) (t' := .array .int) (Or.inl (hw _ (List.mem_of_getElem? (i := 65) rfl))) (Or.inl (hw _ (List.mem_of_getElem? (i := 67) rfl))) (by decide) (by decide) (by decide)))
      have Wp4_longs := Wp2_longs.other Wp4 (Or.inr (slot_ne (t := .array .long) (t' := .array .int) (Or.inl (hw _ (List.mem_of_getElem? (i := 57) rfl))) (Or.inl (hw _ (List.mem_of_getElem? (i := 67) rfl))) (by decide) (by decide) (by decide)))
      have Wp4_ints := Wp2_ints.same Wp4
      have Wp4_o1 := Wp2_o1.other Wp4 (Or.inl nan.symm)
      have Wp4_o2 := Wp2_o2.other Wp4 (Or.inl nan.symm)
      have Wp4_o4 := Wp2_o4.other Wp4 (Or.inl nan.symm)
      have Wp4_o8 := Wp2_o8.other Wp4 (Or.inl nan.symm)
      have Wp4_A := Wp2_A.other Wp4 nbr.symm
      refine Xp4.blk hK (L := [(.aload_n 0, 1, 0, 0), (.aload_n 2, 1, 0, 0)]) (pc' := 70) (ls' := #[.val (.ref a), .val (.int (8 : Int32)), .val (.ref an), .val (.int i)]) (st' := [(.ref an), (.ref a)]) (by decide +kernel) rfl ?_
      refine Xp4.getf 73 (hw _ (List.mem_of_getElem? (i := 56) rfl)) Wp4_o8 (by decide +kernel) ?_
      intro Tg8 Xg8
      refine Xg8.putf 76 (hw _ (List.mem_of_getElem? (i := 56) rfl)) Wp4_longs ((((EXL.wr Wp0).wr Wp1).wr Wp2).wr Wp4) (Or.inl (hw _ (List.mem_of_getElem? (i := 57) rfl))) (hw _ (List.mem_of_getElem? (i := 1) rfl)) (ty := (.array .long)) (by decide) rfl (rfl) (naL) (by decide +kernel) ?_
      intro Tp8 hp8 Xp8 Wp8
      have Wp8_width := Wp4_width.other Wp8 (Or.inr (slot_ne (t := .int) (t' := .array .long) (Or.inl (hw _ (List.mem_of_getElem? (i := 13) rfl))) (Or.inl (hw _ (List.mem_of_getElem? (i := 57) rfl))) (by decide) (by decide) (by decide)))
      have Wp8_bytes := Wp4_bytes.other Wp8 (Or.inr (slot_ne (t := .array .byte) (t' := .array .long) (Or.inl (hw _ (List.mem_of_getElem? (i := 16) rfl))) (Or.inl (hw _ (List.mem_of_getElem? (i := 57) rfl))) (by decide) (by decide) (by decide)))
      have Wp8_shorts := Wp4_shorts.other Wp8 (Or.inr (slot_ne (t := .array .short) (t' := .array .long) (Or.inl (hw _ (List.mem_of_getElem? (i := 65) rfl))) (Or.inl (hw _ (List.mem_of_getElem? (i := 57) rfl))) (by decide) (by decide) (by decide)))
      have Wp8_ints := Wp4_ints.other Wp8 (Or.inr (slot_ne (t := .array .int) (t' := .array .long) (Or.inl (hw _ (List.mem_of_getElem? (i := 67) rfl))) (Or.inl (hw _ (List.mem_of_getElem? (i := 57) rfl))) (by decide) (by decide) (by decide)))
      have Wp8_longs := Wp4_longs.same Wp8
      have Wp8_o1 := Wp4_o1.other Wp8 (Or.inl nan.symm)
      have Wp8_o2 := Wp4_o2.other Wp8 (Or.inl nan.symm)
      have Wp8_o4 := Wp4_o4.other Wp8 (Or.inl nan.symm)
      have Wp8_o8 := Wp4_o8.other Wp8 (Or.inl nan.symm)
      have Wp8_A := Wp4_A.other Wp8 nbr.symm
      exact Xp8.retV (by decide +kernel) (by decide) (by decide) (⟨rfl, br, ⟨(((((EXL.wr Wp0).wr Wp1).wr Wp2).wr Wp4).wr Wp8), naL, nrR, nbr⟩, ⟨Wp8_width, Wp8_longs⟩, ⟨Wp8_A, HFR, LNR, r1, r7⟩, ⟨_, _, _, _, Wp8_bytes, Wp8_shorts, Wp8_ints, Wp8_longs⟩⟩)
    | succ k ih =>
      intro i TL hL ys XL IL JL hik hys N1 N2 N4 N8
      have n_i := own_nat hik.1
      refine XL.blk hK (L := [(.iload_n 3, 1, 0, 0), (.aload_n 2, 1, 0, 0)]) (pc' := 17) (ls' := #[.val (.ref a), .val (.int (8 : Int32)), .val (.ref an), .val (.int i)]) (st' := [(.ref an), (.int i)]) (by decide +kernel) rfl ?_
      refine XL.callV 20 1 (argsL := []) (rest := [(.int i)]) JL.1.1 (rm_len8 l Z a0 hw an br n ys hL n0 XL.size JL) (hw _ (List.mem_of_getElem? (i := 54) rfl)) (hw _ (List.mem_of_getElem? (i := 18) rfl)) (hw _ (List.mem_of_getElem? (i := 20) rfl)) (hw _ (List.mem_of_getElem? (i := 19) rfl)) (hw _ (List.mem_of_getElem? (i := 2) rfl)) (hw _ (List.mem_of_getElem? (i := 21) rfl)) (by decide) (ps := []) (r := some .int) (by decide +kernel) rfl rfl rfl rfl (by decide +kernel) (by decide) ?_
      rintro Tm hm vm Xm ⟨rfl, rfl⟩
      show Go p e below s _ n0 _ (Tm.setTop (mkF m 20 #[.val (.ref a), .val (.int (8 : Int32)), .val (.ref an), .val (.int i)] [(.int n), (.int i)]))
      refine Xm.icmp .ge (19) 39 23 (by decide +kernel) (fun (c20 : ¬ i < n) => absurd (by rw [Int32.lt_iff_toInt_lt]; omega : i < n) c20) (fun (c20 : i < n) => ?_)
      refine Xm.blk hK (L := [(.aload_n 2, 1, 0, 0), (.iload_n 3, 1, 0, 0), (.aload_n 0, 1, 0, 0), (.iload_n 3, 1, 0, 0)]) (pc' := 27) (ls' := #[.val (.ref a), .val (.int (8 : Int32)), .val (.ref an), .val (.int i)]) (st' := [(.int i), (.ref a), (.int i), (.ref an)]) (by decide +kernel) rfl ?_
      obtain ⟨z, hz⟩ : ∃ z, xs[i.toNatClampNeg]? = some z := ⟨_, List.getElem?_eq_getElem (by omega)⟩
      have fz := IL.2.2.1.2.1 z (List.mem_of_getElem? hz)
      have LY := JL.2.2.1.2.2.1
      refine Xm.callV 30 2 (argsL := [(.int i)]) (rest := [(.int i), (.ref an)]) IL.1.1 (rm_get2 l Z a0 hw a ar n i xs z hL n0 Xm.size IL (own_nn hik.1) hz) (hw _ (List.mem_of_getElem? (i := 58) rfl)) (hw _ (List.mem_of_getElem? (i := 59) rfl)) (hw _ (List.mem_of_getElem? (i := 61) rfl)) (hw _ (List.mem_of_getElem? (i := 60) rfl)) (hw _ (List.mem_of_getElem? (i := 2) rfl)) (hw _ (List.mem_of_getElem? (i := 62) rfl)) (by decide) (ps := [.int]) (r := some .long) (by decide +kernel) rfl rfl rfl rfl (by decide +kernel) (by decide) ?_
      rintro Tg hg vg Xg ⟨rfl, rfl⟩
      show Go p e below s _ n0 _ (Tg.setTop (mkF m 30 #[.val (.ref a), .val (.int (8 : Int32)), .val (.ref an), .val (.int i)] [(.long z), (.int i), (.ref an)]))
      refine Xg.callV 33 0 (argsL := [(.int i), (.long z)]) (rest := []) JL.1.1 (rm_setN8 l Z a0 hw an br n i ys z hL n0 Xg.size JL (own_nn hik.1) (by omega) (Or.inl trivial) (own_n28 z fz)) (hw _ (List.mem_of_getElem? (i := 63) rfl)) (hw _ (List.mem_of_getElem? (i := 42) rfl)) (hw _ (List.mem_of_getElem? (i := 44) rfl)) (hw _ (List.mem_of_getElem? (i := 43) rfl)) (hw _ (List.mem_of_getElem? (i := 2) rfl)) (hw _ (List.mem_of_getElem? (i := 45) rfl)) (by decide) (ps := [.int, .long]) (r := none) (by decide +kernel) rfl rfl rfl rfl (by decide +kernel) (by decide) ?_
      rintro Ts hs vs Xs ⟨rfl, JS, KS⟩
      show Go p e below s _ n0 _ (Ts.setTop (mkF m 33 #[.val (.ref a), .val (.int (8 : Int32)), .val (.ref an), .val (.int i)] []))
      refine Xs.blk hK (L := [(.iinc 3 1, 3, 1, 0), (.goto (-21), 3, 0, 15)]) (pc' := 15) (ls' := #[.val (.ref a), .val (.int (8 : Int32)), .val (.ref an), .val (.int (i + (1 : Int32)))]) (st' := []) (by decide +kernel) rfl ?_
      obtain ⟨⟨EXL, naL, nrL, narL⟩, ⟨FWL, FAL⟩, ⟨AAL, HFL, LNL, r1L, r7L⟩, ⟨v1L, v2L, v4L, v8L, F1L, F2L, F4L, F8L⟩⟩ := IL
      have k1 : (1 : Int32).toInt = 1 := rfl
      have e1 : (i + 1).toInt = i.toInt + 1 := by have := c_iadd i 1; have := rng32 (i + 1); omega
      have n_1 := own_nat (j := i + 1) (by omega)
      exact ih (i + 1) _ _ _ Xs ⟨⟨EXL.keep KS, na, nr, nar⟩, ⟨FWL.keep KS (ninS nbr nin0), FAL.keep KS (ninS nbr nin0)⟩, ⟨AAL.keep KS (ninS narb nin0), HF, LN, r1, r7⟩, ⟨_, _, _, _, F1L.keep KS (ninS nbr nin0), F2L.keep KS (ninS nbr nin0), F4L.keep KS (ninS nbr nin0), F8L.keep KS (ninS nbr nin0)⟩⟩ JS ⟨by omega, by omega⟩ (fun j hj => by
        by_cases q : j = i.toNatClampNeg
        · subst q; rw [List.getElem?_set_self (by omega), hz]
        · rw [List.getElem?_set_ne (fun y => q y.symm)]; exact hys j (by omega)) (N1.keep KS (ninS JL.1.2.2.2 nin0)) (N2.keep KS (ninS JL.1.2.2.2 nin0)) (N4.keep KS (ninS JL.1.2.2.2 nin0)) (N8.keep KS (ninS JL.1.2.2.2 nin0))
  refine Xi.blk hK (L := [(.astore_n 2, 1, 0, 0), (.iconst 0, 1, 0, 0), (.istore_n 3, 1, 0, 0)]) (pc' := 15) (ls' := #[.val (.ref a), .val (.int (8 : Int32)), .val (.ref an), .val (.int (0 : Int32))]) (st' := []) (by decide +kernel) rfl ?_
  exact J15 n.toInt.toNat 0 _ _ _ Xi Ii Ji ⟨by decide, by show n.toInt - (0 : Int) = _; omega⟩ (fun j hj => absurd hj (by simp)) M1 M2 M4 M8
set_option maxRecDepth 65536 in
set_option maxHeartbeats 40000000 in
theorem rm_wd48 (l : Launch) (Z : State) (a0 : Array Value) (hw : ∀ d ∈ tables_1, d.before a0 Z = true) (a ar : Addr) (n : Int32) (xs : List Int64) (h0 : Heap) (n0 : Nat) (Z0 : n0 ≤ h0.size) (I : CI4 Z h0 n0 a ar n xs) :
    Cnt l Z (⟨"com/example/millrace/millrace/examples/CompactIntegers", "widen", "(I)V"⟩ : MethodName) prog_16_method_8_code 4 none ({ frames := 2, cells := 2, slots := 13, locals := 32 } : Room) n0 #[(.ref a), (.int (8 : Int32))] h0 (fun v h => v = none ∧ ∃ ar', CI8 Z h n0 a ar' n xs) := by
  refine Cnt.mk (by first | exact plainFor_of_name (by first | (simp [plainName, overriddenIn]; done) | decide +kernel) | decide +kernel) Z0 ?_
  intro p e s m below meth c T X
  refine Go.cast (g' := mkF m 0 #[.val (.ref a), .val (.int (8 : Int32)), .unset, .unset] []) (by first | (simp [entryFrame, mkF, argsToLocals, Value.category, maxLocals]; done) | rfl) ?_
  have hK : (∀ q ∈ ([] : List (Nat × Int32)), (Jvm.Cond.constant "com/example/millrace/millrace/examples/CompactIntegers" q.1 q.2).before a0 Z = true) ∧ (∀ q ∈ ([] : List (Nat × Int64)), (Jvm.Cond.constantLong "com/example/millrace/millrace/examples/CompactIntegers" q.1 q.2).before a0 Z = true) :=
    ⟨(fun q hq => nomatch hq), (fun q hq => nomatch hq)⟩
  obtain ⟨⟨EX, na, nr, nar⟩, ⟨FW, FA⟩, ⟨AA, HF, LN, r1, r7⟩, ⟨v1, v2, v4, v8, F1, F2, F4, F8⟩⟩ := I
  have rn := own_nat r1
  refine X.newobj 3 (hw _ (List.mem_of_getElem? (i := 53) rfl)) (hw _ (List.mem_of_getElem? (i := 1) rfl)) (hw _ (List.mem_of_getElem? (i := 2) rfl)) (by decide +kernel) (by decide) ?_
  intro Tn hn Xn En Bn Dn
  obtain ⟨an, gn⟩ : ∃ z, z = h0.size := ⟨_, rfl⟩
  rw [← gn] at Bn ⊢
  simp only [← gn] at Dn
  refine Xn.blk hK (L := [(.dup, 1, 0, 0), (.iload_n 1, 1, 0, 0), (.aload_n 0, 1, 0, 0)]) (pc' := 6) (ls' := #[.val (.ref a), .val (.int (8 : Int32)), .unset, .unset]) (st' := [(.ref a), (.int (8 : Int32)), (.ref an), (.ref an)]) (by decide +kernel) rfl ?_
  have In : CI4 Z hn n0 a ar n xs := ⟨⟨EX.ext En, na, nr, nar⟩, ⟨FW.ext En, FA.ext En⟩, ⟨AA.ext En, HF, LN, r1, r7⟩, ⟨_, _, _, _, F1.ext En, F2.ext En, F4.ext En, F8.ext En⟩⟩
  refine Xn.callV 9 3 (argsL := []) (rest := [(.int (8 : Int32)), (.ref an), (.ref an)]) (EX.ext En) (rm_len4 l Z a0 hw a ar n xs hn n0 Xn.size In) (hw _ (List.mem_of_getElem? (i := 54) rfl)) (hw _ (List.mem_of_getElem? (i := 18) rfl)) (hw _ (List.mem_of_getElem? (i := 20) rfl)) (hw _ (List.mem_of_getElem? (i := 19) rfl)) (hw _ (List.mem_of_getElem? (i := 2) rfl)) (hw _ (List.mem_of_getElem? (i := 21) rfl)) (by decide) (ps := []) (r := some .int) (by decide +kernel) rfl rfl rfl rfl (by decide +kernel) (by decide) ?_
  rintro Tl hl vl Xl ⟨rfl, rfl⟩
  show Go p e below s _ n0 _ (Tl.setTop (mkF m 9 #[.val (.ref a), .val (.int (8 : Int32)), .unset, .unset] [(.int n), (.int (8 : Int32)), (.ref an), (.ref an)]))
  refine Xl.callI 12 1 (argsL := [(.int (8 : Int32)), (.int n)]) (rest := [(.ref an)]) (rm_initW8 l Z a0 hw an n hn n0 Xl.size (Dn (Or.inl (hw _ (List.mem_of_getElem? (i := 13) rfl))) (ty := .int) (by decide)) (Dn (Or.inl (hw _ (List.mem_of_getElem? (i := 16) rfl))) (ty := .array .byte) (by decide)) (Dn (Or.inl (hw _ (List.mem_of_getElem? (i := 65) rfl))) (ty := .array .short) (by decide)) (Dn (Or.inl (hw _ (List.mem_of_getElem? (i := 67) rfl))) (ty := .array .int) (by decide)) (Dn (Or.inl (hw _ (List.mem_of_getElem? (i := 57) rfl))) (ty := .array .long) (by decide)) Bn (by rw [gn]; exact Z0) r1 r7) rfl (hw _ (List.mem_of_getElem? (i := 6) rfl)) (hw _ (List.mem_of_getElem? (i := 7) rfl)) (hw _ (List.mem_of_getElem? (i := 2) rfl)) (hw _ (List.mem_of_getElem? (i := 8) rfl)) (by decide) (ps := [.int, .int]) (r := none) (by decide +kernel) rfl rfl rfl rfl (by decide +kernel) (by decide) ?_
  rintro Ti hi vi Xi ⟨rfl, br, Ji, M1, M2, M4, M8, Ki, gbr⟩
  show Go p e below s _ n0 _ (Ti.setTop (mkF m 12 #[.val (.ref a), .val (.int (8 : Int32)), .unset, .unset] [(.ref an)]))
  have nan : a ≠ an := by rw [gn]; exact Nat.ne_of_lt FW.lt
  have narn : ar ≠ an := by rw [gn]; exact Nat.ne_of_lt AA.lt
  have nbr : a ≠ br := Nat.ne_of_lt (Nat.lt_of_lt_of_le (FW.ext En).lt gbr)
  have narb : ar ≠ br := Nat.ne_of_lt (Nat.lt_of_lt_of_le (AA.ext En).lt gbr)
  have Ii : CI4 Z hi n0 a ar n xs := ⟨⟨(EX.ext En).keep Ki, na, nr, nar⟩, ⟨(FW.ext En).keep Ki (ninS nan nin0), (FA.ext En).keep Ki (ninS nan nin0)⟩, ⟨(AA.ext En).keep Ki (ninS narn nin0), HF, LN, r1, r7⟩, ⟨_, _, _, _, (F1.ext En).keep Ki (ninS nan nin0), (F2.ext En).keep Ki (ninS nan nin0), (F4.ext En).keep Ki (ninS nan nin0), (F8.ext En).keep Ki (ninS nan nin0)⟩⟩
  have J15 : ∀ (k : Nat) (i : Int32) (TL : State) (hL : Heap) (ys : List Int64), Wk Z l p e ({ frames := 2, cells := 2, slots := 13, locals := 32 } : Room) s m #[(.ref a), (.int (8 : Int32))] below meth c "com/example/millrace/millrace/examples/CompactIntegers" "widen" prog_16_method_8_code 4 none n0 TL hL 2 13 → CI4 Z hL n0 a ar n xs → CI8 Z hL n0 an br n ys → (0 ≤ i.toInt ∧ n.toInt - i.toInt = k) → (∀ j, j < i.toNatClampNeg → ys[j]? = xs[j]?) → Fld Z hL an "com/example/millrace/millrace/examples/CompactIntegers" "bytes" "[B" (.null) → Fld Z hL an "com/example/millrace/millrace/examples/CompactIntegers" "shorts" "[S" (.null) → Fld Z hL an "com/example/millrace/millrace/examples/CompactIntegers" "ints" "[I" (.null) → Fld Z hL an "com/example/millrace/millrace/examples/CompactIntegers" "longs" "[J" (.ref br) → Go p e below s ({ frames := 2, cells := 2, slots := 13, locals := 32 } : Room) n0 (fun v h => v = none ∧ ∃ ar', CI8 Z h n0 a ar' n xs) (TL.setTop (mkF m 15 #[.val (.ref a), .val (.int (8 : Int32)), .val (.ref an), .val (.int i)] [])) := by
    intro k
    induction k with
    | zero =>
      intro i TL hL ys XL IL JL hik hys N1 N2 N4 N8
      have n_i := own_nat hik.1
      refine XL.blk hK (L := [(.iload_n 3, 1, 0, 0), (.aload_n 2, 1, 0, 0)]) (pc' := 17) (ls' := #[.val (.ref a), .val (.int (8 : Int32)), .val (.ref an), .val (.int i)]) (st' := [(.ref an), (.int i)]) (by decide +kernel) rfl ?_
      refine XL.callV 20 1 (argsL := []) (rest := [(.int i)]) JL.1.1 (rm_len8 l Z a0 hw an br n ys hL n0 XL.size JL) (hw _ (List.mem_of_getElem? (i := 54) rfl)) (hw _ (List.mem_of_getElem? (i := 18) rfl)) (hw _ (List.mem_of_getElem? (i := 20) rfl)) (hw _ (List.mem_of_getElem? (i := 19) rfl)) (hw _ (List.mem_of_getElem? (i := 2) rfl)) (hw _ (List.mem_of_getElem? (i := 21) rfl)) (by decide) (ps := []) (r := some .int) (by decide +kernel) rfl rfl rfl rfl (by decide +kernel) (by decide) ?_
      rintro Tm hm vm Xm ⟨rfl, rfl⟩
      show Go p e below s _ n0 _ (Tm.setTop (mkF m 20 #[.val (.ref a), .val (.int (8 : Int32)), .val (.ref an), .val (.int i)] [(.int n), (.int i)]))
      refine Xm.icmp .ge (19) 39 23 (by decide +kernel) (fun (c20 : ¬ i < n) => ?_) (fun (c20 : i < n) => absurd c20 (by rw [Int32.lt_iff_toInt_lt]; omega : ¬ i < n))
      have eys : ys = xs := by
        refine List.ext_getElem? fun j => ?_
        by_cases q : j < n.toNatClampNeg
        · exact hys j (by omega)
        · rw [List.getElem?_eq_none (by have := JL.2.2.1.2.2.1; omega), List.getElem?_eq_none (by omega)]
      subst eys
      obtain ⟨⟨EXL, naL, nrL, narL⟩, ⟨FWL, FAL⟩, ⟨AAL, HFL, LNL, r1L, r7L⟩, ⟨v1L, v2L, v4L, v8L, F1L, F2L, F4L, F8L⟩⟩ := IL
      obtain ⟨⟨EXR, naR, nrR, narR⟩, ⟨FWR, FAR⟩, ⟨AAR, HFR, LNR, r1R, r7R⟩, ⟨v1R, v2R, v4R, v8R, F1R, F2R, F4R, F8R⟩⟩ := JL
      refine Xm.blk hK (L := [(.aload_n 0, 1, 0, 0), (.iload_n 1, 1, 0, 0)]) (pc' := 41) (ls' := #[.val (.ref a), .val (.int (8 : Int32)), .val (.ref an), .val (.int i)]) (st' := [(.int (8 : Int32)), (.ref a)]) (by decide +kernel) rfl ?_
      refine Xm.putf 44 (hw _ (List.mem_of_getElem? (i := 12) rfl)) FWL EXL (Or.inl (hw _ (List.mem_of_getElem? (i := 13) rfl))) (hw _ (List.mem_of_getElem? (i := 1) rfl)) (ty := .int) (by decide) rfl (rfl) (naL) (by decide +kernel) ?_
      intro Tp0 hp0 Xp0 Wp0
      have Wp0_bytes := F1L.other Wp0 (Or.inr (slot_ne (t := .array .byte) (t' := .int) (Or.inl (hw _ (List.mem_of_getElem? (i := 16) rfl))) (Or.inl (hw _ (List.mem_of_getElem? (i := 13) rfl))) (by decide) (by decide) (by decide)))
      have Wp0_shorts := F2L.other Wp0 (Or.inr (slot_ne (t := .array .short) (t' := .int) (Or.inl (hw _ (List.mem_of_getElem? (i := 65) rfl))) (Or.inl (hw _ (List.mem_of_getElem? (i := 13) rfl))) (by decide) (by decide) (by decide)))
      have Wp0_ints := F4L.other Wp0 (Or.inr (slot_ne (t := .array .int) (t' := .int) (Or.inl (hw _ (List.mem_of_getElem? (i := 67) rfl))) (Or.inl (hw _ (List.mem_of_getElem? (i := 13) rfl))) (by decide) (by decide) (by decide)))
      have Wp0_longs := F8L.other Wp0 (Or.inr (slot_ne (t := .array .long) (t' := .int) (Or.inl (hw _ (List.mem_of_getElem? (i := 57) rfl))) (Or.inl (hw _ (List.mem_of_getElem? (i := 13) rfl))) (by decide) (by decide) (by decide)))
      have Wp0_width := FWL.same Wp0
      have Wp0_o1 := N1.other Wp0 (Or.inl nan.symm)
      have Wp0_o2 := N2.other Wp0 (Or.inl nan.symm)
      have Wp0_o4 := N4.other Wp0 (Or.inl nan.symm)
      have Wp0_o8 := N8.other Wp0 (Or.inl nan.symm)
      have Wp0_A := AAR.other Wp0 nbr.symm
      
      refine Xp0.blk hK (L := [(.aload_n 0, 1, 0, 0), (.aload_n 2, 1, 0, 0)]) (pc' := 46) (ls' := #[.val (.ref a), .val (.int (8 : Int32)), .val (.ref an), .val (.int i)]) (st' := [(.ref an), (.ref a)]) (by decide +kernel) rfl ?_
      refine Xp0.getf 49 (hw _ (List.mem_of_getElem? (i := 15) rfl)) Wp0_o1 (by decide +kernel) ?_
      intro Tg1 Xg1
      refine Xg1.putf 52 (hw _ (List.mem_of_getElem? (i := 15) rfl)) Wp0_bytes (EXL.wr Wp0) (Or.inl (hw _ (List.mem_of_getElem? (i := 16) rfl))) (hw _ (List.mem_of_getElem? (i := 1) rfl)) (ty := (.array .byte)) (by decide) rfl (rfl) (naL) (by decide +kernel) ?_
      intro Tp1 hp1 Xp1 Wp1
      have Wp1_width := Wp0_width.other Wp1 (Or.inr (slot_ne (t := .int) (t' := .array .byte) (Or.inl (hw _ (List.mem_of_getElem? (i := 13) rfl))) (Or.inl (hw _ (List.mem_of_getElem? (i := 16) rfl))) (by decide) (by decide) (by decide)))
      have Wp1_shorts := Wp0_shorts.other Wp1 (Or.inr (slot_ne (t := .array .short) (t' := .array .byte) (Or.inl (hw _ (List.mem_of_getElem? (i := 65) rfl))) (Or.inl (hw _ (List.mem_of_getElem? (i := 16) rfl))) (by decide) (by decide) (by decide)))
      have Wp1_ints := Wp0_ints.other Wp1 (Or.inr (slot_ne (t := .array .int) (t' := .array .byte) (Or.inl (hw _ (List.mem_of_getElem? (i := 67) rfl))) (Or.inl (hw _ (List.mem_of_getElem? (i := 16) rfl))) (by decide) (by decide) (by decide)))
      have Wp1_longs := Wp0_longs.other Wp1 (Or.inr (slot_ne (t := .array .long) (t' := .array .byte) (Or.inl (hw _ (List.mem_of_getElem? (i := 57) rfl))) (Or.inl (hw _ (List.mem_of_getElem? (i := 16) rfl))) (by decide) (by decide) (by decide)))
      have Wp1_bytes := Wp0_bytes.same Wp1
      have Wp1_o1 := Wp0_o1.other Wp1 (Or.inl nan.symm)
      have Wp1_o2 := Wp0_o2.other Wp1 (Or.inl nan.symm)
      have Wp1_o4 := Wp0_o4.other Wp1 (Or.inl nan.symm)
      have Wp1_o8 := Wp0_o8.other Wp1 (Or.inl nan.symm)
      have Wp1_A := Wp0_A.other Wp1 nbr.symm
      refine Xp1.blk hK (L := [(.aload_n 0, 1, 0, 0), (.aload_n 2, 1, 0, 0)]) (pc' := 54) (ls' := #[.val (.ref a), .val (.int (8 : Int32)), .val (.ref an), .val (.int i)]) (st' := [(.ref an), (.ref a)]) (by decide +kernel) rfl ?_
      refine Xp1.getf 57 (hw _ (List.mem_of_getElem? (i := 64) rfl)) Wp1_o2 (by decide +kernel) ?_
      intro Tg2 Xg2
      refine Xg2.putf 60 (hw _ (List.mem_of_getElem? (i := 64) rfl)) Wp1_shorts ((EXL.wr Wp0).wr Wp1) (Or.inl (hw _ (List.mem_of_getElem? (i := 65) rfl))) (hw _ (List.mem_of_getElem? (i := 1) rfl)) (ty := (.array .short)) (by decide) rfl (rfl) (naL) (by decide +kernel) ?_
      intro Tp2 hp2 Xp2 Wp2
      have Wp2_width := Wp1_width.other Wp2 (Or.inr (slot_ne (t := .int) (t' := .array .short) (Or.inl (hw _ (List.mem_of_getElem? (i := 13) rfl))) (Or.inl (hw _ (List.mem_of_getElem? (i := 65) rfl))) (by decide) (by decide) (by decide)))
      have Wp2_bytes := Wp1_bytes.other Wp2 (Or.inr (slot_ne (t := .array .byte) (t' := .array .short) (Or.inl (hw _ (List.mem_of_getElem? (i := 16) rfl))) (Or.inl (hw _ (List.mem_of_getElem? (i := 65) rfl))) (by decide) (by decide) (by decide)))
      have Wp2_ints := Wp1_ints.other Wp2 (Or.inr (slot_ne (t := .array .int) (t' := .array .short) (Or.inl (hw _ (List.mem_of_getElem? (i := 67) rfl))) (Or.inl (hw _ (List.mem_of_getElem? (i := 65) rfl))) (by decide) (by decide) (by decide)))
      have Wp2_longs := Wp1_longs.other Wp2 (Or.inr (slot_ne (t := .array .long) (t' := .array .short) (Or.inl (hw _ (List.mem_of_getElem? (i := 57) rfl))) (Or.inl (hw _ (List.mem_of_getElem? (i := 65) rfl))) (by decide) (by decide) (by decide)))
      have Wp2_shorts := Wp1_shorts.same Wp2
      have Wp2_o1 := Wp1_o1.other Wp2 (Or.inl nan.symm)
      have Wp2_o2 := Wp1_o2.other Wp2 (Or.inl nan.symm)
      have Wp2_o4 := Wp1_o4.other Wp2 (Or.inl nan.symm)
      have Wp2_o8 := Wp1_o8.other Wp2 (Or.inl nan.symm)
      have Wp2_A := Wp1_A.other Wp2 nbr.symm
      refine Xp2.blk hK (L := [(.aload_n 0, 1, 0, 0), (.aload_n 2, 1, 0, 0)]) (pc' := 62) (ls' := #[.val (.ref a), .val (.int (8 : Int32)), .val (.ref an), .val (.int i)]) (st' := [(.ref an), (.ref a)]) (by decide +kernel) rfl ?_
      refine Xp2.getf 65 (hw _ (List.mem_of_getElem? (i := 66) rfl)) Wp2_o4 (by decide +kernel) ?_
      intro Tg4 Xg4
      refine Xg4.putf 68 (hw _ (List.mem_of_getElem? (i := 66) rfl)) Wp2_ints (((EXL.wr Wp0).wr Wp1).wr Wp2) (Or.inl (hw _ (List.mem_of_getElem? (i := 67) rfl))) (hw _ (List.mem_of_getElem? (i := 1) rfl)) (ty := (.array .int)) (by decide) rfl (rfl) (naL) (by decide +kernel) ?_
      intro Tp4 hp4 Xp4 Wp4
      have Wp4_width := Wp2_width.other Wp4 (Or.inr (slot_ne (t := .int) (t' := .array .int) (Or.inl (hw _ (List.mem_of_getElem? (i := 13) rfl))) (Or.inl (hw _ (List.mem_of_getElem? (i := 67) rfl))) (by decide) (by decide) (by decide)))
      have Wp4_bytes := Wp2_bytes.other Wp4 (Or.inr (slot_ne (t := .array .byte) (t' := .array .int) (Or.inl (hw _ (List.mem_of_getElem? (i := 16) rfl))) (Or.inl (hw _ (List.mem_of_getElem? (i := 67) rfl))) (by decide) (by decide) (by decide)))
      have Wp4_shorts := Wp2_shorts.other Wp4 (Or.inr (slot_ne (t := .array .short) (t' := .array .int) (Or.inl (hw _ (List.mem_of_getElem? (i := 65) rfl))) (Or.inl (hw _ (List.mem_of_getElem? (i := 67) rfl))) (by decide) (by decide) (by decide)))
      have Wp4_longs := Wp2_longs.other Wp4 (Or.inr (slot_ne (t := .array .long) (t' := .array .int) (Or.inl (hw _ (List.mem_of_getElem? (i := 57) rfl))) (Or.inl (hw _ (List.mem_of_getElem? (i := 67) rfl))) (by decide) (by decide) (by decide)))
      have Wp4_ints := Wp2_ints.same Wp4
      have Wp4_o1 := Wp2_o1.other Wp4 (Or.inl nan.symm)
      have Wp4_o2 := Wp2_o2.other Wp4 (Or.inl nan.symm)
      have Wp4_o4 := Wp2_o4.other Wp4 (Or.inl nan.symm)
      have Wp4_o8 := Wp2_o8.other Wp4 (Or.inl nan.symm)
      have Wp4_A := Wp2_A.other Wp4 nbr.symm
      refine Xp4.blk hK (L := [(.aload_n 0, 1, 0, 0), (.aload_n 2, 1, 0, 0)]) (pc' := 70) (ls' := #[.val (.ref a), .val (.int (8 : Int32)), .val (.ref an), .val (.int i)]) (st' := [(.ref an), (.ref a)]) (by decide +kernel) rfl ?_
      refine Xp4.getf 73 (hw _ (List.mem_of_getElem? (i := 56) rfl)) Wp4_o8 (by decide +kernel) ?_
      intro Tg8 Xg8
      refine Xg8.putf 76 (hw _ (List.mem_of_getElem? (i := 56) rfl)) Wp4_longs ((((EXL.wr Wp0).wr Wp1).wr Wp2).wr Wp4) (Or.inl (hw _ (List.mem_of_getElem? (i := 57) rfl))) (hw _ (List.mem_of_getElem? (i := 1) rfl)) (ty := (.array .long)) (by decide) rfl (rfl) (naL) (by decide +kernel) ?_
      intro Tp8 hp8 Xp8 Wp8
      have Wp8_width := Wp4_width.other Wp8 (Or.inr (slot_ne (t := .int) (t' := .array .long) (Or.inl (hw _ (List.mem_of_getElem? (i := 13) rfl))) (Or.inl (hw _ (List.mem_of_getElem? (i := 57) rfl))) (by decide) (by decide) (by decide)))
      have Wp8_bytes := Wp4_bytes.other Wp8 (Or.inr (slot_ne (t := .array .byte) (t' := .array .long) (Or.inl (hw _ (List.mem_of_getElem? (i := 16) rfl))) (Or.inl (hw _ (List.mem_of_getElem? (i := 57) rfl))) (by decide) (by decide) (by decide)))
      have Wp8_shorts := Wp4_shorts.other Wp8 (Or.inr (slot_ne (t := .array .short) (t' := .array .long) (Or.inl (hw _ (List.mem_of_getElem? (i := 65) rfl))) (Or.inl (hw _ (List.mem_of_getElem? (i := 57) rfl))) (by decide) (by decide) (by decide)))
      have Wp8_ints := Wp4_ints.other Wp8 (Or.inr (slot_ne (t := .array .int) (t' := .array .long) (Or.inl (hw _ (List.mem_of_getElem? (i := 67) rfl))) (Or.inl (hw _ (List.mem_of_getElem? (i := 57) rfl))) (by decide) (by decide) (by decide)))
      have Wp8_longs := Wp4_longs.same Wp8
      have Wp8_o1 := Wp4_o1.other Wp8 (Or.inl nan.symm)
      have Wp8_o2 := Wp4_o2.other Wp8 (Or.inl nan.symm)
      have Wp8_o4 := Wp4_o4.other Wp8 (Or.inl nan.symm)
      have Wp8_o8 := Wp4_o8.other Wp8 (Or.inl nan.symm)
      have Wp8_A := Wp4_A.other Wp8 nbr.symm
      exact Xp8.retV (by decide +kernel) (by decide) (by decide) (⟨rfl, br, ⟨(((((EXL.wr Wp0).wr Wp1).wr Wp2).wr Wp4).wr Wp8), naL, nrR, nbr⟩, ⟨Wp8_width, Wp8_longs⟩, ⟨Wp8_A, HFR, LNR, r1, r7⟩, ⟨_, _, _, _, Wp8_bytes, Wp8_shorts, Wp8_ints, Wp8_longs⟩⟩)
    | succ k ih =>
      intro i TL hL ys XL IL JL hik hys N1 N2 N4 N8
      have n_i := own_nat hik.1
      refine XL.blk hK (L := [(.iload_n 3, 1, 0, 0), (.aload_n 2, 1, 0, 0)]) (pc' := 17) (ls' := #[.val (.ref a), .val (.int (8 : Int32)), .val (.ref an), .val (.int i)]) (st' := [(.ref an), (.int i)]) (by decide +kernel) rfl ?_
      refine XL.callV 20 1 (argsL := []) (rest := [(.int i)]) JL.1.1 (rm_len8 l Z a0 hw an br n ys hL n0 XL.size JL) (hw _ (List.mem_of_getElem? (i := 54) rfl)) (hw _ (List.mem_of_getElem? (i := 18) rfl)) (hw _ (List.mem_of_getElem? (i := 20) rfl)) (hw _ (List.mem_of_getElem? (i := 19) rfl)) (hw _ (List.mem_of_getElem? (i := 2) rfl)) (hw _ (List.mem_of_getElem? (i := 21) rfl)) (by decide) (ps := []) (r := some .int) (by decide +kernel) rfl rfl rfl rfl (by decide +kernel) (by decide) ?_
      rintro Tm hm vm Xm ⟨rfl, rfl⟩
      show Go p e below s _ n0 _ (Tm.setTop (mkF m 20 #[.val (.ref a), .val (.int (8 : Int32)), .val (.ref an), .val (.int i)] [(.int n), (.int i)]))
      refine Xm.icmp .ge (19) 39 23 (by decide +kernel) (fun (c20 : ¬ i < n) => absurd (by rw [Int32.lt_iff_toInt_lt]; omega : i < n) c20) (fun (c20 : i < n) => ?_)
      refine Xm.blk hK (L := [(.aload_n 2, 1, 0, 0), (.iload_n 3, 1, 0, 0), (.aload_n 0, 1, 0, 0), (.iload_n 3, 1, 0, 0)]) (pc' := 27) (ls' := #[.val (.ref a), .val (.int (8 : Int32)), .val (.ref an), .val (.int i)]) (st' := [(.int i), (.ref a), (.int i), (.ref an)]) (by decide +kernel) rfl ?_
      obtain ⟨z, hz⟩ : ∃ z, xs[i.toNatClampNeg]? = some z := ⟨_, List.getElem?_eq_getElem (by omega)⟩
      have fz := IL.2.2.1.2.1 z (List.mem_of_getElem? hz)
      have LY := JL.2.2.1.2.2.1
      refine Xm.callV 30 2 (argsL := [(.int i)]) (rest := [(.int i), (.ref an)]) IL.1.1 (rm_get4 l Z a0 hw a ar n i xs z hL n0 Xm.size IL (own_nn hik.1) hz) (hw _ (List.mem_of_getElem? (i := 58) rfl)) (hw _ (List.mem_of_getElem? (i := 59) rfl)) (hw _ (List.mem_of_getElem? (i := 61) rfl)) (hw _ (List.mem_of_getElem? (i := 60) rfl)) (hw _ (List.mem_of_getElem? (i := 2) rfl)) (hw _ (List.mem_of_getElem? (i := 62) rfl)) (by decide) (ps := [.int]) (r := some .long) (by decide +kernel) rfl rfl rfl rfl (by decide +kernel) (by decide) ?_
      rintro Tg hg vg Xg ⟨rfl, rfl⟩
      show Go p e below s _ n0 _ (Tg.setTop (mkF m 30 #[.val (.ref a), .val (.int (8 : Int32)), .val (.ref an), .val (.int i)] [(.long z), (.int i), (.ref an)]))
      refine Xg.callV 33 0 (argsL := [(.int i), (.long z)]) (rest := []) JL.1.1 (rm_setN8 l Z a0 hw an br n i ys z hL n0 Xg.size JL (own_nn hik.1) (by omega) (Or.inl trivial) (own_n48 z fz)) (hw _ (List.mem_of_getElem? (i := 63) rfl)) (hw _ (List.mem_of_getElem? (i := 42) rfl)) (hw _ (List.mem_of_getElem? (i := 44) rfl)) (hw _ (List.mem_of_getElem? (i := 43) rfl)) (hw _ (List.mem_of_getElem? (i := 2) rfl)) (hw _ (List.mem_of_getElem? (i := 45) rfl)) (by decide) (ps := [.int, .long]) (r := none) (by decide +kernel) rfl rfl rfl rfl (by decide +kernel) (by decide) ?_
      rintro Ts hs vs Xs ⟨rfl, JS, KS⟩
      show Go p e below s _ n0 _ (Ts.setTop (mkF m 33 #[.val (.ref a), .val (.int (8 : Int32)), .val (.ref an), .val (.int i)] []))
      refine Xs.blk hK (L := [(.iinc 3 1, 3, 1, 0), (.goto (-21), 3, 0, 15)]) (pc' := 15) (ls' := #[.val (.ref a), .val (.int (8 : Int32)), .val (.ref an), .val (.int (i + (1 : Int32)))]) (st' := []) (by decide +kernel) rfl ?_
      obtain ⟨⟨EXL, naL, nrL, narL⟩, ⟨FWL, FAL⟩, ⟨AAL, HFL, LNL, r1L, r7L⟩, ⟨v1L, v2L, v4L, v8L, F1L, F2L, F4L, F8L⟩⟩ := IL
      have k1 : (1 : Int32).toInt = 1 := rfl
      have e1 : (i + 1).toInt = i.toInt + 1 := by have := c_iadd i 1; have := rng32 (i + 1); omega
      have n_1 := own_nat (j := i + 1) (by omega)
      exact ih (i + 1) _ _ _ Xs ⟨⟨EXL.keep KS, na, nr, nar⟩, ⟨FWL.keep KS (ninS nbr nin0), FAL.keep KS (ninS nbr nin0)⟩, ⟨AAL.keep KS (ninS narb nin0), HF, LN, r1, r7⟩, ⟨_, _, _, _, F1L.keep KS (ninS nbr nin0), F2L.keep KS (ninS nbr nin0), F4L.keep KS (ninS nbr nin0), F8L.keep KS (ninS nbr nin0)⟩⟩ JS ⟨by omega, by omega⟩ (fun j hj => by
        by_cases q : j = i.toNatClampNeg
        · subst q; rw [List.getElem?_set_self (by omega), hz]
        · rw [List.getElem?_set_ne (fun y => q y.symm)]; exact hys j (by omega)) (N1.keep KS (ninS JL.1.2.2.2 nin0)) (N2.keep KS (ninS JL.1.2.2.2 nin0)) (N4.keep KS (ninS JL.1.2.2.2 nin0)) (N8.keep KS (ninS JL.1.2.2.2 nin0))
  refine Xi.blk hK (L := [(.astore_n 2, 1, 0, 0), (.iconst 0, 1, 0, 0), (.istore_n 3, 1, 0, 0)]) (pc' := 15) (ls' := #[.val (.ref a), .val (.int (8 : Int32)), .val (.ref an), .val (.int (0 : Int32))]) (st' := []) (by decide +kernel) rfl ?_
  exact J15 n.toInt.toNat 0 _ _ _ Xi Ii Ji ⟨by decide, by show n.toInt - (0 : Int) = _; omega⟩ (fun j hj => absurd hj (by simp)) M1 M2 M4 M8
set_option maxRecDepth 65536 in
set_option maxHeartbeats 40000000 in
theorem rm_set1 (l : Launch) (Z : State) (a0 : Array Value) (hw : ∀ d ∈ tables_1, d.before a0 Z = true) (a ar : Addr) (n i : Int32) (xs : List Int64) (z : Int64) (h0 : Heap) (n0 : Nat) (Z0 : n0 ≤ h0.size) (I : CI1 Z h0 n0 a ar n xs) (hi : ¬ i < 0) (hl : i.toNatClampNeg < xs.length) :
    Cnt l Z (⟨"com/example/millrace/millrace/examples/CompactIntegers", "set", "(IJ)V"⟩ : MethodName) prog_16_method_5_code 5 none ({ frames := 3, cells := 2, slots := 13, locals := 47 } : Room) n0 #[(.ref a), (.int i), (.long z)] h0 (fun v h => v = none ∧ CIx Z h n0 a n (xs.set i.toNatClampNeg z)) := by
  refine Cnt.mk (by first | exact plainFor_of_name (by first | (simp [plainName, overriddenIn]; done) | decide +kernel) | decide +kernel) Z0 ?_
  intro p e s m below meth c T X
  refine Go.cast (g' := mkF m 0 #[.val (.ref a), .val (.int i), .val (.long z), .second, .unset] []) (by first | (simp [entryFrame, mkF, argsToLocals, Value.category, maxLocals]; done) | rfl) ?_
  have hK : (∀ q ∈ ([] : List (Nat × Int32)), (Jvm.Cond.constant "com/example/millrace/millrace/examples/CompactIntegers" q.1 q.2).before a0 Z = true) ∧ (∀ q ∈ ([] : List (Nat × Int64)), (Jvm.Cond.constantLong "com/example/millrace/millrace/examples/CompactIntegers" q.1 q.2).before a0 Z = true) :=
    ⟨(fun q hq => nomatch hq), (fun q hq => nomatch hq)⟩
  have I0 := I
  obtain ⟨⟨EX, na, nr, nar⟩, ⟨FW, FA⟩, ⟨AA, HF, LN, r1, r7⟩, ⟨v1, v2, v4, v8, F1, F2, F4, F8⟩⟩ := I
  refine X.blk hK (L := [(.lload_n 2, 1, 0, 0)]) (pc' := 1) (ls' := #[.val (.ref a), .val (.int i), .val (.long z), .second, .unset]) (st' := [(.long z)]) (by decide +kernel) rfl ?_
  refine X.callS 4 0 (argsL := [(.long z)]) (rest := []) (rm_wof l Z a0 hw z h0 n0 Z0) (hw _ (List.mem_of_getElem? (i := 46) rfl)) (hw _ (List.mem_of_getElem? (i := 47) rfl)) (hw _ (List.mem_of_getElem? (i := 2) rfl)) (hw _ (List.mem_of_getElem? (i := 48) rfl)) (by decide) (ps := [.long]) (r := some .int) (by decide +kernel) rfl rfl rfl rfl (by decide +kernel) (by decide) ?_
  rintro Tc hc vc Xc ⟨rfl, rfl⟩
  show Go p e below s _ n0 _ (Tc.setTop (mkF m 4 #[.val (.ref a), .val (.int i), .val (.long z), .second, .unset] [(.int (wof z))]))
  rcases own_wof z with q_w | q_w | q_w | q_w
  · rw [q_w]
    refine Xc.blk hK (L := [(.istore 4, 2, 0, 0), (.iload 4, 2, 0, 0), (.aload_n 0, 1, 0, 0)]) (pc' := 9) (ls' := #[.val (.ref a), .val (.int i), .val (.long z), .second, .val (.int (1 : Int32))]) (st' := [(.ref a), (.int (1 : Int32))]) (by decide +kernel) rfl ?_
    refine Xc.getf 12 (hw _ (List.mem_of_getElem? (i := 12) rfl)) FW (by decide +kernel) ?_
    intro T1 X1
    have fz : z.toInt32.toInt8.toInt32.toInt64 = z := own_w1 q_w
    refine X1.icmp .le (9) 21 15 (by decide +kernel) (fun (c12 : ¬ (1 : Int32) < (1 : Int32)) => ?_) (fun (c12 : (1 : Int32) < (1 : Int32)) => absurd c12 (by decide : ¬ (1 : Int32) < (1 : Int32)))
    refine X1.blk hK (L := [(.aload_n 0, 1, 0, 0)]) (pc' := 22) (ls' := #[.val (.ref a), .val (.int i), .val (.long z), .second, .val (.int (1 : Int32))]) (st' := [(.ref a)]) (by decide +kernel) rfl ?_
    refine X1.getf 25 (hw _ (List.mem_of_getElem? (i := 12) rfl)) FW (by decide +kernel) ?_
    intro Tw Xw
    refine Xw.tsw 56 (df := 66) (lo := 1) (hi := 4) (offs := #[31, 43, 66, 55]) (n := 31) (by decide +kernel) ?_
    refine Xw.blk hK (L := [(.aload_n 0, 1, 0, 0)]) (pc' := 57) (ls' := #[.val (.ref a), .val (.int i), .val (.long z), .second, .val (.int (1 : Int32))]) (st' := [(.ref a)]) (by decide +kernel) rfl ?_
    refine Xw.getf 60 (hw _ (List.mem_of_getElem? (i := 15) rfl)) FA (by decide +kernel) ?_
    intro Tx Xx
    refine Xx.blk hK (L := [(.iload_n 1, 1, 0, 0), (.lload_n 2, 1, 0, 0), (.l2i, 1, 0, 0), (.i2b, 1, 0, 0)]) (pc' := 64) (ls' := #[.val (.ref a), .val (.int i), .val (.long z), .second, .val (.int (1 : Int32))]) (st' := [(.int z.toInt32.toInt8.toInt32), (.int i), (.ref ar)]) (by decide +kernel) rfl ?_
    refine Xx.bastore 65 (hx' := by show z.toInt32.toInt8.toInt32.toInt8.toInt32 = z.toInt32; rw [own_v1 fz, own_v1 fz]) AA (by decide +kernel) (hi) (by rw [List.length_map]; exact hl) (nr) ?_
    intro Ts hs Xs Ws AS
    refine Xs.blk hK (L := [(.goto 33, 3, 0, 98)]) (pc' := 98) (ls' := #[.val (.ref a), .val (.int i), .val (.long z), .second, .val (.int (1 : Int32))]) (st' := []) (by decide +kernel) rfl ?_
    exact Xs.retV (by decide +kernel) (by decide) (by decide) (⟨rfl, _, Or.inl (⟨⟨EX.wr Ws, na, nr, nar⟩, ⟨FW.other Ws (Or.inl nar), FA.other Ws (Or.inl nar)⟩, ⟨by rw [List.map_set]; exact AS, own_set_mem HF fz, by rw [List.length_set]; exact LN, r1, r7⟩, ⟨v1, v2, v4, v8, F1.other Ws (Or.inl nar), F2.other Ws (Or.inl nar), F4.other Ws (Or.inl nar), F8.other Ws (Or.inl nar)⟩⟩)⟩)
  · rw [q_w]
    refine Xc.blk hK (L := [(.istore 4, 2, 0, 0), (.iload 4, 2, 0, 0), (.aload_n 0, 1, 0, 0)]) (pc' := 9) (ls' := #[.val (.ref a), .val (.int i), .val (.long z), .second, .val (.int (2 : Int32))]) (st' := [(.ref a), (.int (2 : Int32))]) (by decide +kernel) rfl ?_
    refine Xc.getf 12 (hw _ (List.mem_of_getElem? (i := 12) rfl)) FW (by decide +kernel) ?_
    intro T1 X1
    have fz : z.toInt32.toInt16.toInt32.toInt64 = z := own_w2 (Or.inr q_w)
    refine X1.icmp .le (9) 21 15 (by decide +kernel) (fun (c12 : ¬ (1 : Int32) < (2 : Int32)) => absurd (by decide : (1 : Int32) < (2 : Int32)) c12) (fun (c12 : (1 : Int32) < (2 : Int32)) => ?_)
    refine X1.blk hK (L := [(.aload_n 0, 1, 0, 0), (.iload 4, 2, 0, 0)]) (pc' := 18) (ls' := #[.val (.ref a), .val (.int i), .val (.long z), .second, .val (.int (2 : Int32))]) (st' := [(.int (2 : Int32)), (.ref a)]) (by decide +kernel) rfl ?_
    refine X1.callP 21 0 (argsL := [(.int (2 : Int32))]) (rest := []) EX (rm_wd12 l Z a0 hw a ar n xs h0 n0 Z0 I0) (hw _ (List.mem_of_getElem? (i := 49) rfl)) (hw _ (List.mem_of_getElem? (i := 20) rfl)) rfl (hw _ (List.mem_of_getElem? (i := 50) rfl)) (hw _ (List.mem_of_getElem? (i := 51) rfl)) (hw _ (List.mem_of_getElem? (i := 2) rfl)) (hw _ (List.mem_of_getElem? (i := 52) rfl)) (by decide) (ps := [.int]) (r := none) (by decide +kernel) rfl rfl rfl rfl (by decide +kernel) (by decide) ?_
    rintro Td hd vd Xd ⟨rfl, ar2, I2⟩
    show Go p e below s _ n0 _ (Td.setTop (mkF m 21 #[.val (.ref a), .val (.int i), .val (.long z), .second, .val (.int (2 : Int32))] []))
    have IQ := I2
    obtain ⟨arQ, e_ar⟩ : ∃ q, q = ar2 := ⟨_, rfl⟩
    rw [← e_ar] at IQ
    obtain ⟨⟨EXQ, naQ, nrQ, narQ⟩, ⟨FWQ, FAQ⟩, ⟨AAQ, HFQ, LNQ, r1Q, r7Q⟩, ⟨v1Q, v2Q, v4Q, v8Q, F1Q, F2Q, F4Q, F8Q⟩⟩ := IQ
    refine Xd.blk hK (L := [(.aload_n 0, 1, 0, 0)]) (pc' := 22) (ls' := #[.val (.ref a), .val (.int i), .val (.long z), .second, .val (.int (2 : Int32))]) (st' := [(.ref a)]) (by decide +kernel) rfl ?_
    refine Xd.getf 25 (hw _ (List.mem_of_getElem? (i := 12) rfl)) FWQ (by decide +kernel) ?_
    intro TwQ XwQ
    refine XwQ.tsw 68 (df := 66) (lo := 1) (hi := 4) (offs := #[31, 43, 66, 55]) (n := 31) (by decide +kernel) ?_
    refine XwQ.blk hK (L := [(.aload_n 0, 1, 0, 0)]) (pc' := 69) (ls' := #[.val (.ref a), .val (.int i), .val (.long z), .second, .val (.int (2 : Int32))]) (st' := [(.ref a)]) (by decide +kernel) rfl ?_
    refine XwQ.getf 72 (hw _ (List.mem_of_getElem? (i := 64) rfl)) FAQ (by decide +kernel) ?_
    intro TxQ XxQ
    refine XxQ.blk hK (L := [(.iload_n 1, 1, 0, 0), (.lload_n 2, 1, 0, 0), (.l2i, 1, 0, 0), (.i2s, 1, 0, 0)]) (pc' := 76) (ls' := #[.val (.ref a), .val (.int i), .val (.long z), .second, .val (.int (2 : Int32))]) (st' := [(.int z.toInt32.toInt16.toInt32), (.int i), (.ref arQ)]) (by decide +kernel) rfl ?_
    refine XxQ.sastore 77 (hx' := by show z.toInt32.toInt16.toInt32.toInt16.toInt32 = z.toInt32; rw [own_v2 fz, own_v2 fz]) AAQ (by decide +kernel) (hi) (by rw [List.length_map]; exact hl) (nrQ) ?_
    intro TsQ hsQ XsQ WsQ ASQ
    refine XsQ.blk hK (L := [(.goto 21, 3, 0, 98)]) (pc' := 98) (ls' := #[.val (.ref a), .val (.int i), .val (.long z), .second, .val (.int (2 : Int32))]) (st' := []) (by decide +kernel) rfl ?_
    exact XsQ.retV (by decide +kernel) (by decide) (by decide) (⟨rfl, _, Or.inr (Or.inl (⟨⟨EXQ.wr WsQ, naQ, nrQ, narQ⟩, ⟨FWQ.other WsQ (Or.inl narQ), FAQ.other WsQ (Or.inl narQ)⟩, ⟨by rw [List.map_set]; exact ASQ, own_set_mem HFQ fz, by rw [List.length_set]; exact LNQ, r1Q, r7Q⟩, ⟨v1Q, v2Q, v4Q, v8Q, F1Q.other WsQ (Or.inl narQ), F2Q.other WsQ (Or.inl narQ), F4Q.other WsQ (Or.inl narQ), F8Q.other WsQ (Or.inl narQ)⟩⟩))⟩)
  · rw [q_w]
    refine Xc.blk hK (L := [(.istore 4, 2, 0, 0), (.iload 4, 2, 0, 0), (.aload_n 0, 1, 0, 0)]) (pc' := 9) (ls' := #[.val (.ref a), .val (.int i), .val (.long z), .second, .val (.int (4 : Int32))]) (st' := [(.ref a), (.int (4 : Int32))]) (by decide +kernel) rfl ?_
    refine Xc.getf 12 (hw _ (List.mem_of_getElem? (i := 12) rfl)) FW (by decide +kernel) ?_
    intro T1 X1
    have fz : z.toInt32.toInt64 = z := own_w4 (Or.inr (Or.inr q_w))
    refine X1.icmp .le (9) 21 15 (by decide +kernel) (fun (c12 : ¬ (1 : Int32) < (4 : Int32)) => absurd (by decide : (1 : Int32) < (4 : Int32)) c12) (fun (c12 : (1 : Int32) < (4 : Int32)) => ?_)
    refine X1.blk hK (L := [(.aload_n 0, 1, 0, 0), (.iload 4, 2, 0, 0)]) (pc' := 18) (ls' := #[.val (.ref a), .val (.int i), .val (.long z), .second, .val (.int (4 : Int32))]) (st' := [(.int (4 : Int32)), (.ref a)]) (by decide +kernel) rfl ?_
    refine X1.callP 21 0 (argsL := [(.int (4 : Int32))]) (rest := []) EX (rm_wd14 l Z a0 hw a ar n xs h0 n0 Z0 I0) (hw _ (List.mem_of_getElem? (i := 49) rfl)) (hw _ (List.mem_of_getElem? (i := 20) rfl)) rfl (hw _ (List.mem_of_getElem? (i := 50) rfl)) (hw _ (List.mem_of_getElem? (i := 51) rfl)) (hw _ (List.mem_of_getElem? (i := 2) rfl)) (hw _ (List.mem_of_getElem? (i := 52) rfl)) (by decide) (ps := [.int]) (r := none) (by decide +kernel) rfl rfl rfl rfl (by decide +kernel) (by decide) ?_
    rintro Td hd vd Xd ⟨rfl, ar2, I2⟩
    show Go p e below s _ n0 _ (Td.setTop (mkF m 21 #[.val (.ref a), .val (.int i), .val (.long z), .second, .val (.int (4 : Int32))] []))
    have IQ := I2
    obtain ⟨arQ, e_ar⟩ : ∃ q, q = ar2 := ⟨_, rfl⟩
    rw [← e_ar] at IQ
    obtain ⟨⟨EXQ, naQ, nrQ, narQ⟩, ⟨FWQ, FAQ⟩, ⟨AAQ, HFQ, LNQ, r1Q, r7Q⟩, ⟨v1Q, v2Q, v4Q, v8Q, F1Q, F2Q, F4Q, F8Q⟩⟩ := IQ
    refine Xd.blk hK (L := [(.aload_n 0, 1, 0, 0)]) (pc' := 22) (ls' := #[.val (.ref a), .val (.int i), .val (.long z), .second, .val (.int (4 : Int32))]) (st' := [(.ref a)]) (by decide +kernel) rfl ?_
    refine Xd.getf 25 (hw _ (List.mem_of_getElem? (i := 12) rfl)) FWQ (by decide +kernel) ?_
    intro TwQ XwQ
    refine XwQ.tsw 80 (df := 66) (lo := 1) (hi := 4) (offs := #[31, 43, 66, 55]) (n := 31) (by decide +kernel) ?_
    refine XwQ.blk hK (L := [(.aload_n 0, 1, 0, 0)]) (pc' := 81) (ls' := #[.val (.ref a), .val (.int i), .val (.long z), .second, .val (.int (4 : Int32))]) (st' := [(.ref a)]) (by decide +kernel) rfl ?_
    refine XwQ.getf 84 (hw _ (List.mem_of_getElem? (i := 66) rfl)) FAQ (by decide +kernel) ?_
    intro TxQ XxQ
    refine XxQ.blk hK (L := [(.iload_n 1, 1, 0, 0), (.lload_n 2, 1, 0, 0), (.l2i, 1, 0, 0)]) (pc' := 87) (ls' := #[.val (.ref a), .val (.int i), .val (.long z), .second, .val (.int (4 : Int32))]) (st' := [(.int z.toInt32), (.int i), (.ref arQ)]) (by decide +kernel) rfl ?_
    refine XxQ.iastore 88 AAQ (by decide +kernel) (hi) (by rw [List.length_map]; exact hl) (nrQ) ?_
    intro TsQ hsQ XsQ WsQ ASQ
    refine XsQ.blk hK (L := [(.goto 10, 3, 0, 98)]) (pc' := 98) (ls' := #[.val (.ref a), .val (.int i), .val (.long z), .second, .val (.int (4 : Int32))]) (st' := []) (by decide +kernel) rfl ?_
    exact XsQ.retV (by decide +kernel) (by decide) (by decide) (⟨rfl, _, Or.inr (Or.inr (Or.inl (⟨⟨EXQ.wr WsQ, naQ, nrQ, narQ⟩, ⟨FWQ.other WsQ (Or.inl narQ), FAQ.other WsQ (Or.inl narQ)⟩, ⟨by rw [List.map_set]; exact ASQ, own_set_mem HFQ fz, by rw [List.length_set]; exact LNQ, r1Q, r7Q⟩, ⟨v1Q, v2Q, v4Q, v8Q, F1Q.other WsQ (Or.inl narQ), F2Q.other WsQ (Or.inl narQ), F4Q.other WsQ (Or.inl narQ), F8Q.other WsQ (Or.inl narQ)⟩⟩)))⟩)
  · rw [q_w]
    refine Xc.blk hK (L := [(.istore 4, 2, 0, 0), (.iload 4, 2, 0, 0), (.aload_n 0, 1, 0, 0)]) (pc' := 9) (ls' := #[.val (.ref a), .val (.int i), .val (.long z), .second, .val (.int (8 : Int32))]) (st' := [(.ref a), (.int (8 : Int32))]) (by decide +kernel) rfl ?_
    refine Xc.getf 12 (hw _ (List.mem_of_getElem? (i := 12) rfl)) FW (by decide +kernel) ?_
    intro T1 X1
    have fz : True ∨ z = z := Or.inl trivial
    refine X1.icmp .le (9) 21 15 (by decide +kernel) (fun (c12 : ¬ (1 : Int32) < (8 : Int32)) => absurd (by decide : (1 : Int32) < (8 : Int32)) c12) (fun (c12 : (1 : Int32) < (8 : Int32)) => ?_)
    refine X1.blk hK (L := [(.aload_n 0, 1, 0, 0), (.iload 4, 2, 0, 0)]) (pc' := 18) (ls' := #[.val (.ref a), .val (.int i), .val (.long z), .second, .val (.int (8 : Int32))]) (st' := [(.int (8 : Int32)), (.ref a)]) (by decide +kernel) rfl ?_
    refine X1.callP 21 0 (argsL := [(.int (8 : Int32))]) (rest := []) EX (rm_wd18 l Z a0 hw a ar n xs h0 n0 Z0 I0) (hw _ (List.mem_of_getElem? (i := 49) rfl)) (hw _ (List.mem_of_getElem? (i := 20) rfl)) rfl (hw _ (List.mem_of_getElem? (i := 50) rfl)) (hw _ (List.mem_of_getElem? (i := 51) rfl)) (hw _ (List.mem_of_getElem? (i := 2) rfl)) (hw _ (List.mem_of_getElem? (i := 52) rfl)) (by decide) (ps := [.int]) (r := none) (by decide +kernel) rfl rfl rfl rfl (by decide +kernel) (by decide) ?_
    rintro Td hd vd Xd ⟨rfl, ar2, I2⟩
    show Go p e below s _ n0 _ (Td.setTop (mkF m 21 #[.val (.ref a), .val (.int i), .val (.long z), .second, .val (.int (8 : Int32))] []))
    have IQ := I2
    obtain ⟨arQ, e_ar⟩ : ∃ q, q = ar2 := ⟨_, rfl⟩
    rw [← e_ar] at IQ
    obtain ⟨⟨EXQ, naQ, nrQ, narQ⟩, ⟨FWQ, FAQ⟩, ⟨AAQ, HFQ, LNQ, r1Q, r7Q⟩, ⟨v1Q, v2Q, v4Q, v8Q, F1Q, F2Q, F4Q, F8Q⟩⟩ := IQ
    refine Xd.blk hK (L := [(.aload_n 0, 1, 0, 0)]) (pc' := 22) (ls' := #[.val (.ref a), .val (.int i), .val (.long z), .second, .val (.int (8 : Int32))]) (st' := [(.ref a)]) (by decide +kernel) rfl ?_
    refine Xd.getf 25 (hw _ (List.mem_of_getElem? (i := 12) rfl)) FWQ (by decide +kernel) ?_
    intro TwQ XwQ
    refine XwQ.tsw 91 (df := 66) (lo := 1) (hi := 4) (offs := #[31, 43, 66, 55]) (n := 31) (by decide +kernel) ?_
    refine XwQ.blk hK (L := [(.aload_n 0, 1, 0, 0)]) (pc' := 92) (ls' := #[.val (.ref a), .val (.int i), .val (.long z), .second, .val (.int (8 : Int32))]) (st' := [(.ref a)]) (by decide +kernel) rfl ?_
    refine XwQ.getf 95 (hw _ (List.mem_of_getElem? (i := 56) rfl)) FAQ (by decide +kernel) ?_
    intro TxQ XxQ
    refine XxQ.blk hK (L := [(.iload_n 1, 1, 0, 0), (.lload_n 2, 1, 0, 0)]) (pc' := 97) (ls' := #[.val (.ref a), .val (.int i), .val (.long z), .second, .val (.int (8 : Int32))]) (st' := [(.long z), (.int i), (.ref arQ)]) (by decide +kernel) rfl ?_
    refine XxQ.lastore 98 AAQ (by decide +kernel) (hi) (by rw [List.length_map]; exact hl) (nrQ) ?_
    intro TsQ hsQ XsQ WsQ ASQ
    exact XsQ.retV (by decide +kernel) (by decide) (by decide) (⟨rfl, _, Or.inr (Or.inr (Or.inr (⟨⟨EXQ.wr WsQ, naQ, nrQ, narQ⟩, ⟨FWQ.other WsQ (Or.inl narQ), FAQ.other WsQ (Or.inl narQ)⟩, ⟨by rw [List.map_set]; exact ASQ, own_set_mem HFQ fz, by rw [List.length_set]; exact LNQ, r1Q, r7Q⟩, ⟨v1Q, v2Q, v4Q, v8Q, F1Q.other WsQ (Or.inl narQ), F2Q.other WsQ (Or.inl narQ), F4Q.other WsQ (Or.inl narQ), F8Q.other WsQ (Or.inl narQ)⟩⟩)))⟩)
set_option maxRecDepth 65536 in
set_option maxHeartbeats 40000000 in
theorem rm_set2 (l : Launch) (Z : State) (a0 : Array Value) (hw : ∀ d ∈ tables_1, d.before a0 Z = true) (a ar : Addr) (n i : Int32) (xs : List Int64) (z : Int64) (h0 : Heap) (n0 : Nat) (Z0 : n0 ≤ h0.size) (I : CI2 Z h0 n0 a ar n xs) (hi : ¬ i < 0) (hl : i.toNatClampNeg < xs.length) :
    Cnt l Z (⟨"com/example/millrace/millrace/examples/CompactIntegers", "set", "(IJ)V"⟩ : MethodName) prog_16_method_5_code 5 none ({ frames := 3, cells := 2, slots := 13, locals := 47 } : Room) n0 #[(.ref a), (.int i), (.long z)] h0 (fun v h => v = none ∧ CIx Z h n0 a n (xs.set i.toNatClampNeg z)) := by
  refine Cnt.mk (by first | exact plainFor_of_name (by first | (simp [plainName, overriddenIn]; done) | decide +kernel) | decide +kernel) Z0 ?_
  intro p e s m below meth c T X
  refine Go.cast (g' := mkF m 0 #[.val (.ref a), .val (.int i), .val (.long z), .second, .unset] []) (by first | (simp [entryFrame, mkF, argsToLocals, Value.category, maxLocals]; done) | rfl) ?_
  have hK : (∀ q ∈ ([] : List (Nat × Int32)), (Jvm.Cond.constant "com/example/millrace/millrace/examples/CompactIntegers" q.1 q.2).before a0 Z = true) ∧ (∀ q ∈ ([] : List (Nat × Int64)), (Jvm.Cond.constantLong "com/example/millrace/millrace/examples/CompactIntegers" q.1 q.2).before a0 Z = true) :=
    ⟨(fun q hq => nomatch hq), (fun q hq => nomatch hq)⟩
  have I0 := I
  obtain ⟨⟨EX, na, nr, nar⟩, ⟨FW, FA⟩, ⟨AA, HF, LN, r1, r7⟩, ⟨v1, v2, v4, v8, F1, F2, F4, F8⟩⟩ := I
  refine X.blk hK (L := [(.lload_n 2, 1, 0, 0)]) (pc' := 1) (ls' := #[.val (.ref a), .val (.int i), .val (.long z), .second, .unset]) (st' := [(.long z)]) (by decide +kernel) rfl ?_
  refine X.callS 4 0 (argsL := [(.long z)]) (rest := []) (rm_wof l Z a0 hw z h0 n0 Z0) (hw _ (List.mem_of_getElem? (i := 46) rfl)) (hw _ (List.mem_of_getElem? (i := 47) rfl)) (hw _ (List.mem_of_getElem? (i := 2) rfl)) (hw _ (List.mem_of_getElem? (i := 48) rfl)) (by decide) (ps := [.long]) (r := some .int) (by decide +kernel) rfl rfl rfl rfl (by decide +kernel) (by decide) ?_
  rintro Tc hc vc Xc ⟨rfl, rfl⟩
  show Go p e below s _ n0 _ (Tc.setTop (mkF m 4 #[.val (.ref a), .val (.int i), .val (.long z), .second, .unset] [(.int (wof z))]))
  rcases own_wof z with q_w | q_w | q_w | q_w
  · rw [q_w]
    refine Xc.blk hK (L := [(.istore 4, 2, 0, 0), (.iload 4, 2, 0, 0), (.aload_n 0, 1, 0, 0)]) (pc' := 9) (ls' := #[.val (.ref a), .val (.int i), .val (.long z), .second, .val (.int (1 : Int32))]) (st' := [(.ref a), (.int (1 : Int32))]) (by decide +kernel) rfl ?_
    refine Xc.getf 12 (hw _ (List.mem_of_getElem? (i := 12) rfl)) FW (by decide +kernel) ?_
    intro T1 X1
    have fz : z.toInt32.toInt16.toInt32.toInt64 = z := own_w2 (Or.inl q_w)
    refine X1.icmp .le (9) 21 15 (by decide +kernel) (fun (c12 : ¬ (2 : Int32) < (1 : Int32)) => ?_) (fun (c12 : (2 : Int32) < (1 : Int32)) => absurd c12 (by decide : ¬ (2 : Int32) < (1 : Int32)))
    refine X1.blk hK (L := [(.aload_n 0, 1, 0, 0)]) (pc' := 22) (ls' := #[.val (.ref a), .val (.int i), .val (.long z), .second, .val (.int (1 : Int32))]) (st' := [(.ref a)]) (by decide +kernel) rfl ?_
    refine X1.getf 25 (hw _ (List.mem_of_getElem? (i := 12) rfl)) FW (by decide +kernel) ?_
    intro Tw Xw
    refine Xw.tsw 68 (df := 66) (lo := 1) (hi := 4) (offs := #[31, 43, 66, 55]) (n := 31) (by decide +kernel) ?_
    refine Xw.blk hK (L := [(.aload_n 0, 1, 0, 0)]) (pc' := 69) (ls' := #[.val (.ref a), .val (.int i), .val (.long z), .second, .val (.int (1 : Int32))]) (st' := [(.ref a)]) (by decide +kernel) rfl ?_
    refine Xw.getf 72 (hw _ (List.mem_of_getElem? (i := 64) rfl)) FA (by decide +kernel) ?_
    intro Tx Xx
    refine Xx.blk hK (L := [(.iload_n 1, 1, 0, 0), (.lload_n 2, 1, 0, 0), (.l2i, 1, 0, 0), (.i2s, 1, 0, 0)]) (pc' := 76) (ls' := #[.val (.ref a), .val (.int i), .val (.long z), .second, .val (.int (1 : Int32))]) (st' := [(.int z.toInt32.toInt16.toInt32), (.int i), (.ref ar)]) (by decide +kernel) rfl ?_
    refine Xx.sastore 77 (hx' := by show z.toInt32.toInt16.toInt32.toInt16.toInt32 = z.toInt32; rw [own_v2 fz, own_v2 fz]) AA (by decide +kernel) (hi) (by rw [List.length_map]; exact hl) (nr) ?_
    intro Ts hs Xs Ws AS
    refine Xs.blk hK (L := [(.goto 21, 3, 0, 98)]) (pc' := 98) (ls' := #[.val (.ref a), .val (.int i), .val (.long z), .second, .val (.int (1 : Int32))]) (st' := []) (by decide +kernel) rfl ?_
    exact Xs.retV (by decide +kernel) (by decide) (by decide) (⟨rfl, _, Or.inr (Or.inl (⟨⟨EX.wr Ws, na, nr, nar⟩, ⟨FW.other Ws (Or.inl nar), FA.other Ws (Or.inl nar)⟩, ⟨by rw [List.map_set]; exact AS, own_set_mem HF fz, by rw [List.length_set]; exact LN, r1, r7⟩, ⟨v1, v2, v4, v8, F1.other Ws (Or.inl nar), F2.other Ws (Or.inl nar), F4.other Ws (Or.inl nar), F8.other Ws (Or.inl nar)⟩⟩))⟩)
  · rw [q_w]
    refine Xc.blk hK (L := [(.istore 4, 2, 0, 0), (.iload 4, 2, 0, 0), (.aload_n 0, 1, 0, 0)]) (pc' := 9) (ls' := #[.val (.ref a), .val (.int i), .val (.long z), .second, .val (.int (2 : Int32))]) (st' := [(.ref a), (.int (2 : Int32))]) (by decide +kernel) rfl ?_
    refine Xc.getf 12 (hw _ (List.mem_of_getElem? (i := 12) rfl)) FW (by decide +kernel) ?_
    intro T1 X1
    have fz : z.toInt32.toInt16.toInt32.toInt64 = z := own_w2 (Or.inr q_w)
    refine X1.icmp .le (9) 21 15 (by decide +kernel) (fun (c12 : ¬ (2 : Int32) < (2 : Int32)) => ?_) (fun (c12 : (2 : Int32) < (2 : Int32)) => absurd c12 (by decide : ¬ (2 : Int32) < (2 : Int32)))
    refine X1.blk hK (L := [(.aload_n 0, 1, 0, 0)]) (pc' := 22) (ls' := #[.val (.ref a), .val (.int i), .val (.long z), .second, .val (.int (2 : Int32))]) (st' := [(.ref a)]) (by decide +kernel) rfl ?_
    refine X1.getf 25 (hw _ (List.mem_of_getElem? (i := 12) rfl)) FW (by decide +kernel) ?_
    intro Tw Xw
    refine Xw.tsw 68 (df := 66) (lo := 1) (hi := 4) (offs := #[31, 43, 66, 55]) (n := 31) (by decide +kernel) ?_
    refine Xw.blk hK (L := [(.aload_n 0, 1, 0, 0)]) (pc' := 69) (ls' := #[.val (.ref a), .val (.int i), .val (.long z), .second, .val (.int (2 : Int32))]) (st' := [(.ref a)]) (by decide +kernel) rfl ?_
    refine Xw.getf 72 (hw _ (List.mem_of_getElem? (i := 64) rfl)) FA (by decide +kernel) ?_
    intro Tx Xx
    refine Xx.blk hK (L := [(.iload_n 1, 1, 0, 0), (.lload_n 2, 1, 0, 0), (.l2i, 1, 0, 0), (.i2s, 1, 0, 0)]) (pc' := 76) (ls' := #[.val (.ref a), .val (.int i), .val (.long z), .second, .val (.int (2 : Int32))]) (st' := [(.int z.toInt32.toInt16.toInt32), (.int i), (.ref ar)]) (by decide +kernel) rfl ?_
    refine Xx.sastore 77 (hx' := by show z.toInt32.toInt16.toInt32.toInt16.toInt32 = z.toInt32; rw [own_v2 fz, own_v2 fz]) AA (by decide +kernel) (hi) (by rw [List.length_map]; exact hl) (nr) ?_
    intro Ts hs Xs Ws AS
    refine Xs.blk hK (L := [(.goto 21, 3, 0, 98)]) (pc' := 98) (ls' := #[.val (.ref a), .val (.int i), .val (.long z), .second, .val (.int (2 : Int32))]) (st' := []) (by decide +kernel) rfl ?_
    exact Xs.retV (by decide +kernel) (by decide) (by decide) (⟨rfl, _, Or.inr (Or.inl (⟨⟨EX.wr Ws, na, nr, nar⟩, ⟨FW.other Ws (Or.inl nar), FA.other Ws (Or.inl nar)⟩, ⟨by rw [List.map_set]; exact AS, own_set_mem HF fz, by rw [List.length_set]; exact LN, r1, r7⟩, ⟨v1, v2, v4, v8, F1.other Ws (Or.inl nar), F2.other Ws (Or.inl nar), F4.other Ws (Or.inl nar), F8.other Ws (Or.inl nar)⟩⟩))⟩)
  · rw [q_w]
    refine Xc.blk hK (L := [(.istore 4, 2, 0, 0), (.iload 4, 2, 0, 0), (.aload_n 0, 1, 0, 0)]) (pc' := 9) (ls' := #[.val (.ref a), .val (.int i), .val (.long z), .second, .val (.int (4 : Int32))]) (st' := [(.ref a), (.int (4 : Int32))]) (by decide +kernel) rfl ?_
    refine Xc.getf 12 (hw _ (List.mem_of_getElem? (i := 12) rfl)) FW (by decide +kernel) ?_
    intro T1 X1
    have fz : z.toInt32.toInt64 = z := own_w4 (Or.inr (Or.inr q_w))
    refine X1.icmp .le (9) 21 15 (by decide +kernel) (fun (c12 : ¬ (2 : Int32) < (4 : Int32)) => absurd (by decide : (2 : Int32) < (4 : Int32)) c12) (fun (c12 : (2 : Int32) < (4 : Int32)) => ?_)
    refine X1.blk hK (L := [(.aload_n 0, 1, 0, 0), (.iload 4, 2, 0, 0)]) (pc' := 18) (ls' := #[.val (.ref a), .val (.int i), .val (.long z), .second, .val (.int (4 : Int32))]) (st' := [(.int (4 : Int32)), (.ref a)]) (by decide +kernel) rfl ?_
    refine X1.callP 21 0 (argsL := [(.int (4 : Int32))]) (rest := []) EX (rm_wd24 l Z a0 hw a ar n xs h0 n0 Z0 I0) (hw _ (List.mem_of_getElem? (i := 49) rfl)) (hw _ (List.mem_of_getElem? (i := 20) rfl)) rfl (hw _ (List.mem_of_getElem? (i := 50) rfl)) (hw _ (List.mem_of_getElem? (i := 51) rfl)) (hw _ (List.mem_of_getElem? (i := 2) rfl)) (hw _ (List.mem_of_getElem? (i := 52) rfl)) (by decide) (ps := [.int]) (r := none) (by decide +kernel) rfl rfl rfl rfl (by decide +kernel) (by decide) ?_
    rintro Td hd vd Xd ⟨rfl, ar2, I2⟩
    show Go p e below s _ n0 _ (Td.setTop (mkF m 21 #[.val (.ref a), .val (.int i), .val (.long z), .second, .val (.int (4 : Int32))] []))
    have IQ := I2
    obtain ⟨arQ, e_ar⟩ : ∃ q, q = ar2 := ⟨_, rfl⟩
    rw [← e_ar] at IQ
    obtain ⟨⟨EXQ, naQ, nrQ, narQ⟩, ⟨FWQ, FAQ⟩, ⟨AAQ, HFQ, LNQ, r1Q, r7Q⟩, ⟨v1Q, v2Q, v4Q, v8Q, F1Q, F2Q, F4Q, F8Q⟩⟩ := IQ
    refine Xd.blk hK (L := [(.aload_n 0, 1, 0, 0)]) (pc' := 22) (ls' := #[.val (.ref a), .val (.int i), .val (.long z), .second, .val (.int (4 : Int32))]) (st' := [(.ref a)]) (by decide +kernel) rfl ?_
    refine Xd.getf 25 (hw _ (List.mem_of_getElem? (i := 12) rfl)) FWQ (by decide +kernel) ?_
    intro TwQ XwQ
    refine XwQ.tsw 80 (df := 66) (lo := 1) (hi := 4) (offs := #[31, 43, 66, 55]) (n := 31) (by decide +kernel) ?_
    refine XwQ.blk hK (L := [(.aload_n 0, 1, 0, 0)]) (pc' := 81) (ls' := #[.val (.ref a), .val (.int i), .val (.long z), .second, .val (.int (4 : Int32))]) (st' := [(.ref a)]) (by decide +kernel) rfl ?_
    refine XwQ.getf 84 (hw _ (List.mem_of_getElem? (i := 66) rfl)) FAQ (by decide +kernel) ?_
    intro TxQ XxQ
    refine XxQ.blk hK (L := [(.iload_n 1, 1, 0, 0), (.lload_n 2, 1, 0, 0), (.l2i, 1, 0, 0)]) (pc' := 87) (ls' := #[.val (.ref a), .val (.int i), .val (.long z), .second, .val (.int (4 : Int32))]) (st' := [(.int z.toInt32), (.int i), (.ref arQ)]) (by decide +kernel) rfl ?_
    refine XxQ.iastore 88 AAQ (by decide +kernel) (hi) (by rw [List.length_map]; exact hl) (nrQ) ?_
    intro TsQ hsQ XsQ WsQ ASQ
    refine XsQ.blk hK (L := [(.goto 10, 3, 0, 98)]) (pc' := 98) (ls' := #[.val (.ref a), .val (.int i), .val (.long z), .second, .val (.int (4 : Int32))]) (st' := []) (by decide +kernel) rfl ?_
    exact XsQ.retV (by decide +kernel) (by decide) (by decide) (⟨rfl, _, Or.inr (Or.inr (Or.inl (⟨⟨EXQ.wr WsQ, naQ, nrQ, narQ⟩, ⟨FWQ.other WsQ (Or.inl narQ), FAQ.other WsQ (Or.inl narQ)⟩, ⟨by rw [List.map_set]; exact ASQ, own_set_mem HFQ fz, by rw [List.length_set]; exact LNQ, r1Q, r7Q⟩, ⟨v1Q, v2Q, v4Q, v8Q, F1Q.other WsQ (Or.inl narQ), F2Q.other WsQ (Or.inl narQ), F4Q.other WsQ (Or.inl narQ), F8Q.other WsQ (Or.inl narQ)⟩⟩)))⟩)
  · rw [q_w]
    refine Xc.blk hK (L := [(.istore 4, 2, 0, 0), (.iload 4, 2, 0, 0), (.aload_n 0, 1, 0, 0)]) (pc' := 9) (ls' := #[.val (.ref a), .val (.int i), .val (.long z), .second, .val (.int (8 : Int32))]) (st' := [(.ref a), (.int (8 : Int32))]) (by decide +kernel) rfl ?_
    refine Xc.getf 12 (hw _ (List.mem_of_getElem? (i := 12) rfl)) FW (by decide +kernel) ?_
    intro T1 X1
    have fz : True ∨ z = z := Or.inl trivial
    refine X1.icmp .le (9) 21 15 (by decide +kernel) (fun (c12 : ¬ (2 : Int32) < (8 : Int32)) => absurd (by decide : (2 : Int32) < (8 : Int32)) c12) (fun (c12 : (2 : Int32) < (8 : Int32)) => ?_)
    refine X1.blk hK (L := [(.aload_n 0, 1, 0, 0), (.iload 4, 2, 0, 0)]) (pc' := 18) (ls' := #[.val (.ref a), .val (.int i), .val (.long z), .second, .val (.int (8 : Int32))]) (st' := [(.int (8 : Int32)), (.ref a)]) (by decide +kernel) rfl ?_
    refine X1.callP 21 0 (argsL := [(.int (8 : Int32))]) (rest := []) EX (rm_wd28 l Z a0 hw a ar n xs h0 n0 Z0 I0) (hw _ (List.mem_of_getElem? (i := 49) rfl)) (hw _ (List.mem_of_getElem? (i := 20) rfl)) rfl (hw _ (List.mem_of_getElem? (i := 50) rfl)) (hw _ (List.mem_of_getElem? (i := 51) rfl)) (hw _ (List.mem_of_getElem? (i := 2) rfl)) (hw _ (List.mem_of_getElem? (i := 52) rfl)) (by decide) (ps := [.int]) (r := none) (by decide +kernel) rfl rfl rfl rfl (by decide +kernel) (by decide) ?_
    rintro Td hd vd Xd ⟨rfl, ar2, I2⟩
    show Go p e below s _ n0 _ (Td.setTop (mkF m 21 #[.val (.ref a), .val (.int i), .val (.long z), .second, .val (.int (8 : Int32))] []))
    have IQ := I2
    obtain ⟨arQ, e_ar⟩ : ∃ q, q = ar2 := ⟨_, rfl⟩
    rw [← e_ar] at IQ
    obtain ⟨⟨EXQ, naQ, nrQ, narQ⟩, ⟨FWQ, FAQ⟩, ⟨AAQ, HFQ, LNQ, r1Q, r7Q⟩, ⟨v1Q, v2Q, v4Q, v8Q, F1Q, F2Q, F4Q, F8Q⟩⟩ := IQ
    refine Xd.blk hK (L := [(.aload_n 0, 1, 0, 0)]) (pc' := 22) (ls' := #[.val (.ref a), .val (.int i), .val (.long z), .second, .val (.int (8 : Int32))]) (st' := [(.ref a)]) (by decide +kernel) rfl ?_
    refine Xd.getf 25 (hw _ (List.mem_of_getElem? (i := 12) rfl)) FWQ (by decide +kernel) ?_
    intro TwQ XwQ
    refine XwQ.tsw 91 (df := 66) (lo := 1) (hi := 4) (offs := #[31, 43, 66, 55]) (n := 31) (by decide +kernel) ?_
    refine XwQ.blk hK (L := [(.aload_n 0, 1, 0, 0)]) (pc' := 92) (ls' := #[.val (.ref a), .val (.int i), .val (.long z), .second, .val (.int (8 : Int32))]) (st' := [(.ref a)]) (by decide +kernel) rfl ?_
    refine XwQ.getf 95 (hw _ (List.mem_of_getElem? (i := 56) rfl)) FAQ (by decide +kernel) ?_
    intro TxQ XxQ
    refine XxQ.blk hK (L := [(.iload_n 1, 1, 0, 0), (.lload_n 2, 1, 0, 0)]) (pc' := 97) (ls' := #[.val (.ref a), .val (.int i), .val (.long z), .second, .val (.int (8 : Int32))]) (st' := [(.long z), (.int i), (.ref arQ)]) (by decide +kernel) rfl ?_
    refine XxQ.lastore 98 AAQ (by decide +kernel) (hi) (by rw [List.length_map]; exact hl) (nrQ) ?_
    intro TsQ hsQ XsQ WsQ ASQ
    exact XsQ.retV (by decide +kernel) (by decide) (by decide) (⟨rfl, _, Or.inr (Or.inr (Or.inr (⟨⟨EXQ.wr WsQ, naQ, nrQ, narQ⟩, ⟨FWQ.other WsQ (Or.inl narQ), FAQ.other WsQ (Or.inl narQ)⟩, ⟨by rw [List.map_set]; exact ASQ, own_set_mem HFQ fz, by rw [List.length_set]; exact LNQ, r1Q, r7Q⟩, ⟨v1Q, v2Q, v4Q, v8Q, F1Q.other WsQ (Or.inl narQ), F2Q.other WsQ (Or.inl narQ), F4Q.other WsQ (Or.inl narQ), F8Q.other WsQ (Or.inl narQ)⟩⟩)))⟩)
set_option maxRecDepth 65536 in
set_option maxHeartbeats 40000000 in
theorem rm_set4 (l : Launch) (Z : State) (a0 : Array Value) (hw : ∀ d ∈ tables_1, d.before a0 Z = true) (a ar : Addr) (n i : Int32) (xs : List Int64) (z : Int64) (h0 : Heap) (n0 : Nat) (Z0 : n0 ≤ h0.size) (I : CI4 Z h0 n0 a ar n xs) (hi : ¬ i < 0) (hl : i.toNatClampNeg < xs.length) :
    Cnt l Z (⟨"com/example/millrace/millrace/examples/CompactIntegers", "set", "(IJ)V"⟩ : MethodName) prog_16_method_5_code 5 none ({ frames := 3, cells := 2, slots := 13, locals := 47 } : Room) n0 #[(.ref a), (.int i), (.long z)] h0 (fun v h => v = none ∧ CIx Z h n0 a n (xs.set i.toNatClampNeg z)) := by
  refine Cnt.mk (by first | exact plainFor_of_name (by first | (simp [plainName, overriddenIn]; done) | decide +kernel) | decide +kernel) Z0 ?_
  intro p e s m below meth c T X
  refine Go.cast (g' := mkF m 0 #[.val (.ref a), .val (.int i), .val (.long z), .second, .unset] []) (by first | (simp [entryFrame, mkF, argsToLocals, Value.category, maxLocals]; done) | rfl) ?_
  have hK : (∀ q ∈ ([] : List (Nat × Int32)), (Jvm.Cond.constant "com/example/millrace/millrace/examples/CompactIntegers" q.1 q.2).before a0 Z = true) ∧ (∀ q ∈ ([] : List (Nat × Int64)), (Jvm.Cond.constantLong "com/example/millrace/millrace/examples/CompactIntegers" q.1 q.2).before a0 Z = true) :=
    ⟨(fun q hq => nomatch hq), (fun q hq => nomatch hq)⟩
  have I0 := I
  obtain ⟨⟨EX, na, nr, nar⟩, ⟨FW, FA⟩, ⟨AA, HF, LN, r1, r7⟩, ⟨v1, v2, v4, v8, F1, F2, F4, F8⟩⟩ := I
  refine X.blk hK (L := [(.lload_n 2, 1, 0, 0)]) (pc' := 1) (ls' := #[.val (.ref a), .val (.int i), .val (.long z), .second, .unset]) (st' := [(.long z)]) (by decide +kernel) rfl ?_
  refine X.callS 4 0 (argsL := [(.long z)]) (rest := []) (rm_wof l Z a0 hw z h0 n0 Z0) (hw _ (List.mem_of_getElem? (i := 46) rfl)) (hw _ (List.mem_of_getElem? (i := 47) rfl)) (hw _ (List.mem_of_getElem? (i := 2) rfl)) (hw _ (List.mem_of_getElem? (i := 48) rfl)) (by decide) (ps := [.long]) (r := some .int) (by decide +kernel) rfl rfl rfl rfl (by decide +kernel) (by decide) ?_
  rintro Tc hc vc Xc ⟨rfl, rfl⟩
  show Go p e below s _ n0 _ (Tc.setTop (mkF m 4 #[.val (.ref a), .val (.int i), .val (.long z), .second, .unset] [(.int (wof z))]))
  rcases own_wof z with q_w | q_w | q_w | q_w
  · rw [q_w]
    refine Xc.blk hK (L := [(.istore 4, 2, 0, 0), (.iload 4, 2, 0, 0), (.aload_n 0, 1, 0, 0)]) (pc' := 9) (ls' := #[.val (.ref a), .val (.int i), .val (.long z), .second, .val (.int (1 : Int32))]) (st' := [(.ref a), (.int (1 : Int32))]) (by decide +kernel) rfl ?_
    refine Xc.getf 12 (hw _ (List.mem_of_getElem? (i := 12) rfl)) FW (by decide +kernel) ?_
    intro T1 X1
    have fz : z.toInt32.toInt64 = z := own_w4 (Or.inl q_w)
    refine X1.icmp .le (9) 21 15 (by decide +kernel) (fun (c12 : ¬ (4 : Int32) < (1 : Int32)) => ?_) (fun (c12 : (4 : Int32) < (1 : Int32)) => absurd c12 (by decide : ¬ (4 : Int32) < (1 : Int32)))
    refine X1.blk hK (L := [(.aload_n 0, 1, 0, 0)]) (pc' := 22) (ls' := #[.val (.ref a), .val (.int i), .val (.long z), .second, .val (.int (1 : Int32))]) (st' := [(.ref a)]) (by decide +kernel) rfl ?_
    refine X1.getf 25 (hw _ (List.mem_of_getElem? (i := 12) rfl)) FW (by decide +kernel) ?_
    intro Tw Xw
    refine Xw.tsw 80 (df := 66) (lo := 1) (hi := 4) (offs := #[31, 43, 66, 55]) (n := 31) (by decide +kernel) ?_
    refine Xw.blk hK (L := [(.aload_n 0, 1, 0, 0)]) (pc' := 81) (ls' := #[.val (.ref a), .val (.int i), .val (.long z), .second, .val (.int (1 : Int32))]) (st' := [(.ref a)]) (by decide +kernel) rfl ?_
    refine Xw.getf 84 (hw _ (List.mem_of_getElem? (i := 66) rfl)) FA (by decide +kernel) ?_
    intro Tx Xx
    refine Xx.blk hK (L := [(.iload_n 1, 1, 0, 0), (.lload_n 2, 1, 0, 0), (.l2i, 1, 0, 0)]) (pc' := 87) (ls' := #[.val (.ref a), .val (.int i), .val (.long z), .second, .val (.int (1 : Int32))]) (st' := [(.int z.toInt32), (.int i), (.ref ar)]) (by decide +kernel) rfl ?_
    refine Xx.iastore 88 AA (by decide +kernel) (hi) (by rw [List.length_map]; exact hl) (nr) ?_
    intro Ts hs Xs Ws AS
    refine Xs.blk hK (L := [(.goto 10, 3, 0, 98)]) (pc' := 98) (ls' := #[.val (.ref a), .val (.int i), .val (.long z), .second, .val (.int (1 : Int32))]) (st' := []) (by decide +kernel) rfl ?_
    exact Xs.retV (by decide +kernel) (by decide) (by decide) (⟨rfl, _, Or.inr (Or.inr (Or.inl (⟨⟨EX.wr Ws, na, nr, nar⟩, ⟨FW.other Ws (Or.inl nar), FA.other Ws (Or.inl nar)⟩, ⟨by rw [List.map_set]; exact AS, own_set_mem HF fz, by rw [List.length_set]; exact LN, r1, r7⟩, ⟨v1, v2, v4, v8, F1.other Ws (Or.inl nar), F2.other Ws (Or.inl nar), F4.other Ws (Or.inl nar), F8.other Ws (Or.inl nar)⟩⟩)))⟩)
  · rw [q_w]
    refine Xc.blk hK (L := [(.istore 4, 2, 0, 0), (.iload 4, 2, 0, 0), (.aload_n 0, 1, 0, 0)]) (pc' := 9) (ls' := #[.val (.ref a), .val (.int i), .val (.long z), .second, .val (.int (2 : Int32))]) (st' := [(.ref a), (.int (2 : Int32))]) (by decide +kernel) rfl ?_
    refine Xc.getf 12 (hw _ (List.mem_of_getElem? (i := 12) rfl)) FW (by decide +kernel) ?_
    intro T1 X1
    have fz : z.toInt32.toInt64 = z := own_w4 (Or.inr (Or.inl q_w))
    refine X1.icmp .le (9) 21 15 (by decide +kernel) (fun (c12 : ¬ (4 : Int32) < (2 : Int32)) => ?_) (fun (c12 : (4 : Int32) < (2 : Int32)) => absurd c12 (by decide : ¬ (4 : Int32) < (2 : Int32)))
    refine X1.blk hK (L := [(.aload_n 0, 1, 0, 0)]) (pc' := 22) (ls' := #[.val (.ref a), .val (.int i), .val (.long z), .second, .val (.int (2 : Int32))]) (st' := [(.ref a)]) (by decide +kernel) rfl ?_
    refine X1.getf 25 (hw _ (List.mem_of_getElem? (i := 12) rfl)) FW (by decide +kernel) ?_
    intro Tw Xw
    refine Xw.tsw 80 (df := 66) (lo := 1) (hi := 4) (offs := #[31, 43, 66, 55]) (n := 31) (by decide +kernel) ?_
    refine Xw.blk hK (L := [(.aload_n 0, 1, 0, 0)]) (pc' := 81) (ls' := #[.val (.ref a), .val (.int i), .val (.long z), .second, .val (.int (2 : Int32))]) (st' := [(.ref a)]) (by decide +kernel) rfl ?_
    refine Xw.getf 84 (hw _ (List.mem_of_getElem? (i := 66) rfl)) FA (by decide +kernel) ?_
    intro Tx Xx
    refine Xx.blk hK (L := [(.iload_n 1, 1, 0, 0), (.lload_n 2, 1, 0, 0), (.l2i, 1, 0, 0)]) (pc' := 87) (ls' := #[.val (.ref a), .val (.int i), .val (.long z), .second, .val (.int (2 : Int32))]) (st' := [(.int z.toInt32), (.int i), (.ref ar)]) (by decide +kernel) rfl ?_
    refine Xx.iastore 88 AA (by decide +kernel) (hi) (by rw [List.length_map]; exact hl) (nr) ?_
    intro Ts hs Xs Ws AS
    refine Xs.blk hK (L := [(.goto 10, 3, 0, 98)]) (pc' := 98) (ls' := #[.val (.ref a), .val (.int i), .val (.long z), .second, .val (.int (2 : Int32))]) (st' := []) (by decide +kernel) rfl ?_
    exact Xs.retV (by decide +kernel) (by decide) (by decide) (⟨rfl, _, Or.inr (Or.inr (Or.inl (⟨⟨EX.wr Ws, na, nr, nar⟩, ⟨FW.other Ws (Or.inl nar), FA.other Ws (Or.inl nar)⟩, ⟨by rw [List.map_set]; exact AS, own_set_mem HF fz, by rw [List.length_set]; exact LN, r1, r7⟩, ⟨v1, v2, v4, v8, F1.other Ws (Or.inl nar), F2.other Ws (Or.inl nar), F4.other Ws (Or.inl nar), F8.other Ws (Or.inl nar)⟩⟩)))⟩)
  · rw [q_w]
    refine Xc.blk hK (L := [(.istore 4, 2, 0, 0), (.iload 4, 2, 0, 0), (.aload_n 0, 1, 0, 0)]) (pc' := 9) (ls' := #[.val (.ref a), .val (.int i), .val (.long z), .second, .val (.int (4 : Int32))]) (st' := [(.ref a), (.int (4 : Int32))]) (by decide +kernel) rfl ?_
    refine Xc.getf 12 (hw _ (List.mem_of_getElem? (i := 12) rfl)) FW (by decide +kernel) ?_
    intro T1 X1
    have fz : z.toInt32.toInt64 = z := own_w4 (Or.inr (Or.inr q_w))
    refine X1.icmp .le (9) 21 15 (by decide +kernel) (fun (c12 : ¬ (4 : Int32) < (4 : Int32)) => ?_) (fun (c12 : (4 : Int32) < (4 : Int32)) => absurd c12 (by decide : ¬ (4 : Int32) < (4 : Int32)))
    refine X1.blk hK (L := [(.aload_n 0, 1, 0, 0)]) (pc' := 22) (ls' := #[.val (.ref a), .val (.int i), .val (.long z), .second, .val (.int (4 : Int32))]) (st' := [(.ref a)]) (by decide +kernel) rfl ?_
    refine X1.getf 25 (hw _ (List.mem_of_getElem? (i := 12) rfl)) FW (by decide +kernel) ?_
    intro Tw Xw
    refine Xw.tsw 80 (df := 66) (lo := 1) (hi := 4) (offs := #[31, 43, 66, 55]) (n := 31) (by decide +kernel) ?_
    refine Xw.blk hK (L := [(.aload_n 0, 1, 0, 0)]) (pc' := 81) (ls' := #[.val (.ref a), .val (.int i), .val (.long z), .second, .val (.int (4 : Int32))]) (st' := [(.ref a)]) (by decide +kernel) rfl ?_
    refine Xw.getf 84 (hw _ (List.mem_of_getElem? (i := 66) rfl)) FA (by decide +kernel) ?_
    intro Tx Xx
    refine Xx.blk hK (L := [(.iload_n 1, 1, 0, 0), (.lload_n 2, 1, 0, 0), (.l2i, 1, 0, 0)]) (pc' := 87) (ls' := #[.val (.ref a), .val (.int i), .val (.long z), .second, .val (.int (4 : Int32))]) (st' := [(.int z.toInt32), (.int i), (.ref ar)]) (by decide +kernel) rfl ?_
    refine Xx.iastore 88 AA (by decide +kernel) (hi) (by rw [List.length_map]; exact hl) (nr) ?_
    intro Ts hs Xs Ws AS
    refine Xs.blk hK (L := [(.goto 10, 3, 0, 98)]) (pc' := 98) (ls' := #[.val (.ref a), .val (.int i), .val (.long z), .second, .val (.int (4 : Int32))]) (st' := []) (by decide +kernel) rfl ?_
    exact Xs.retV (by decide +kernel) (by decide) (by decide) (⟨rfl, _, Or.inr (Or.inr (Or.inl (⟨⟨EX.wr Ws, na, nr, nar⟩, ⟨FW.other Ws (Or.inl nar), FA.other Ws (Or.inl nar)⟩, ⟨by rw [List.map_set]; exact AS, own_set_mem HF fz, by rw [List.length_set]; exact LN, r1, r7⟩, ⟨v1, v2, v4, v8, F1.other Ws (Or.inl nar), F2.other Ws (Or.inl nar), F4.other Ws (Or.inl nar), F8.other Ws (Or.inl nar)⟩⟩)))⟩)
  · rw [q_w]
    refine Xc.blk hK (L := [(.istore 4, 2, 0, 0), (.iload 4, 2, 0, 0), (.aload_n 0, 1, 0, 0)]) (pc' := 9) (ls' := #[.val (.ref a), .val (.int i), .val (.long z), .second, .val (.int (8 : Int32))]) (st' := [(.ref a), (.int (8 : Int32))]) (by decide +kernel) rfl ?_
    refine Xc.getf 12 (hw _ (List.mem_of_getElem? (i := 12) rfl)) FW (by decide +kernel) ?_
    intro T1 X1
    have fz : True ∨ z = z := Or.inl trivial
    refine X1.icmp .le (9) 21 15 (by decide +kernel) (fun (c12 : ¬ (4 : Int32) < (8 : Int32)) => absurd (by decide : (4 : Int32) < (8 : Int32)) c12) (fun (c12 : (4 : Int32) < (8 : Int32)) => ?_)
    refine X1.blk hK (L := [(.aload_n 0, 1, 0, 0), (.iload 4, 2, 0, 0)]) (pc' := 18) (ls' := #[.val (.ref a), .val (.int i), .val (.long z), .second, .val (.int (8 : Int32))]) (st' := [(.int (8 : Int32)), (.ref a)]) (by decide +kernel) rfl ?_
    refine X1.callP 21 0 (argsL := [(.int (8 : Int32))]) (rest := []) EX (rm_wd48 l Z a0 hw a ar n xs h0 n0 Z0 I0) (hw _ (List.mem_of_getElem? (i := 49) rfl)) (hw _ (List.mem_of_getElem? (i := 20) rfl)) rfl (hw _ (List.mem_of_getElem? (i := 50) rfl)) (hw _ (List.mem_of_getElem? (i := 51) rfl)) (hw _ (List.mem_of_getElem? (i := 2) rfl)) (hw _ (List.mem_of_getElem? (i := 52) rfl)) (by decide) (ps := [.int]) (r := none) (by decide +kernel) rfl rfl rfl rfl (by decide +kernel) (by decide) ?_
    rintro Td hd vd Xd ⟨rfl, ar2, I2⟩
    show Go p e below s _ n0 _ (Td.setTop (mkF m 21 #[.val (.ref a), .val (.int i), .val (.long z), .second, .val (.int (8 : Int32))] []))
    have IQ := I2
    obtain ⟨arQ, e_ar⟩ : ∃ q, q = ar2 := ⟨_, rfl⟩
    rw [← e_ar] at IQ
    obtain ⟨⟨EXQ, naQ, nrQ, narQ⟩, ⟨FWQ, FAQ⟩, ⟨AAQ, HFQ, LNQ, r1Q, r7Q⟩, ⟨v1Q, v2Q, v4Q, v8Q, F1Q, F2Q, F4Q, F8Q⟩⟩ := IQ
    refine Xd.blk hK (L := [(.aload_n 0, 1, 0, 0)]) (pc' := 22) (ls' := #[.val (.ref a), .val (.int i), .val (.long z), .second, .val (.int (8 : Int32))]) (st' := [(.ref a)]) (by decide +kernel) rfl ?_
    refine Xd.getf 25 (hw _ (List.mem_of_getElem? (i := 12) rfl)) FWQ (by decide +kernel) ?_
    intro TwQ XwQ
    refine XwQ.tsw 91 (df := 66) (lo := 1) (hi := 4) (offs := #[31, 43, 66, 55]) (n := 31) (by decide +kernel) ?_
    refine XwQ.blk hK (L := [(.aload_n 0, 1, 0, 0)]) (pc' := 92) (ls' := #[.val (.ref a), .val (.int i), .val (.long z), .second, .val (.int (8 : Int32))]) (st' := [(.ref a)]) (by decide +kernel) rfl ?_
    refine XwQ.getf 95 (hw _ (List.mem_of_getElem? (i := 56) rfl)) FAQ (by decide +kernel) ?_
    intro TxQ XxQ
    refine XxQ.blk hK (L := [(.iload_n 1, 1, 0, 0), (.lload_n 2, 1, 0, 0)]) (pc' := 97) (ls' := #[.val (.ref a), .val (.int i), .val (.long z), .second, .val (.int (8 : Int32))]) (st' := [(.long z), (.int i), (.ref arQ)]) (by decide +kernel) rfl ?_
    refine XxQ.lastore 98 AAQ (by decide +kernel) (hi) (by rw [List.length_map]; exact hl) (nrQ) ?_
    intro TsQ hsQ XsQ WsQ ASQ
    exact XsQ.retV (by decide +kernel) (by decide) (by decide) (⟨rfl, _, Or.inr (Or.inr (Or.inr (⟨⟨EXQ.wr WsQ, naQ, nrQ, narQ⟩, ⟨FWQ.other WsQ (Or.inl narQ), FAQ.other WsQ (Or.inl narQ)⟩, ⟨by rw [List.map_set]; exact ASQ, own_set_mem HFQ fz, by rw [List.length_set]; exact LNQ, r1Q, r7Q⟩, ⟨v1Q, v2Q, v4Q, v8Q, F1Q.other WsQ (Or.inl narQ), F2Q.other WsQ (Or.inl narQ), F4Q.other WsQ (Or.inl narQ), F8Q.other WsQ (Or.inl narQ)⟩⟩)))⟩)
set_option maxRecDepth 65536 in
set_option maxHeartbeats 40000000 in
theorem rm_set8 (l : Launch) (Z : State) (a0 : Array Value) (hw : ∀ d ∈ tables_1, d.before a0 Z = true) (a ar : Addr) (n i : Int32) (xs : List Int64) (z : Int64) (h0 : Heap) (n0 : Nat) (Z0 : n0 ≤ h0.size) (I : CI8 Z h0 n0 a ar n xs) (hi : ¬ i < 0) (hl : i.toNatClampNeg < xs.length) :
    Cnt l Z (⟨"com/example/millrace/millrace/examples/CompactIntegers", "set", "(IJ)V"⟩ : MethodName) prog_16_method_5_code 5 none ({ frames := 3, cells := 2, slots := 13, locals := 47 } : Room) n0 #[(.ref a), (.int i), (.long z)] h0 (fun v h => v = none ∧ CIx Z h n0 a n (xs.set i.toNatClampNeg z)) := by
  refine Cnt.mk (by first | exact plainFor_of_name (by first | (simp [plainName, overriddenIn]; done) | decide +kernel) | decide +kernel) Z0 ?_
  intro p e s m below meth c T X
  refine Go.cast (g' := mkF m 0 #[.val (.ref a), .val (.int i), .val (.long z), .second, .unset] []) (by first | (simp [entryFrame, mkF, argsToLocals, Value.category, maxLocals]; done) | rfl) ?_
  have hK : (∀ q ∈ ([] : List (Nat × Int32)), (Jvm.Cond.constant "com/example/millrace/millrace/examples/CompactIntegers" q.1 q.2).before a0 Z = true) ∧ (∀ q ∈ ([] : List (Nat × Int64)), (Jvm.Cond.constantLong "com/example/millrace/millrace/examples/CompactIntegers" q.1 q.2).before a0 Z = true) :=
    ⟨(fun q hq => nomatch hq), (fun q hq => nomatch hq)⟩
  have I0 := I
  obtain ⟨⟨EX, na, nr, nar⟩, ⟨FW, FA⟩, ⟨AA, HF, LN, r1, r7⟩, ⟨v1, v2, v4, v8, F1, F2, F4, F8⟩⟩ := I
  refine X.blk hK (L := [(.lload_n 2, 1, 0, 0)]) (pc' := 1) (ls' := #[.val (.ref a), .val (.int i), .val (.long z), .second, .unset]) (st' := [(.long z)]) (by decide +kernel) rfl ?_
  refine X.callS 4 0 (argsL := [(.long z)]) (rest := []) (rm_wof l Z a0 hw z h0 n0 Z0) (hw _ (List.mem_of_getElem? (i := 46) rfl)) (hw _ (List.mem_of_getElem? (i := 47) rfl)) (hw _ (List.mem_of_getElem? (i := 2) rfl)) (hw _ (List.mem_of_getElem? (i := 48) rfl)) (by decide) (ps := [.long]) (r := some .int) (by decide +kernel) rfl rfl rfl rfl (by decide +kernel) (by decide) ?_
  rintro Tc hc vc Xc ⟨rfl, rfl⟩
  show Go p e below s _ n0 _ (Tc.setTop (mkF m 4 #[.val (.ref a), .val (.int i), .val (.long z), .second, .unset] [(.int (wof z))]))
  rcases own_wof z with q_w | q_w | q_w | q_w
  · rw [q_w]
    refine Xc.blk hK (L := [(.istore 4, 2, 0, 0), (.iload 4, 2, 0, 0), (.aload_n 0, 1, 0, 0)]) (pc' := 9) (ls' := #[.val (.ref a), .val (.int i), .val (.long z), .second, .val (.int (1 : Int32))]) (st' := [(.ref a), (.int (1 : Int32))]) (by decide +kernel) rfl ?_
    refine Xc.getf 12 (hw _ (List.mem_of_getElem? (i := 12) rfl)) FW (by decide +kernel) ?_
    intro T1 X1
    have fz : True ∨ z = z := Or.inl trivial
    refine X1.icmp .le (9) 21 15 (by decide +kernel) (fun (c12 : ¬ (8 : Int32) < (1 : Int32)) => ?_) (fun (c12 : (8 : Int32) < (1 : Int32)) => absurd c12 (by decide : ¬ (8 : Int32) < (1 : Int32)))
    refine X1.blk hK (L := [(.aload_n 0, 1, 0, 0)]) (pc' := 22) (ls' := #[.val (.ref a), .val (.int i), .val (.long z), .second, .val (.int (1 : Int32))]) (st' := [(.ref a)]) (by decide +kernel) rfl ?_
    refine X1.getf 25 (hw _ (List.mem_of_getElem? (i := 12) rfl)) FW (by decide +kernel) ?_
    intro Tw Xw
    refine Xw.tsw 91 (df := 66) (lo := 1) (hi := 4) (offs := #[31, 43, 66, 55]) (n := 31) (by decide +kernel) ?_
    refine Xw.blk hK (L := [(.aload_n 0, 1, 0, 0)]) (pc' := 92) (ls' := #[.val (.ref a), .val (.int i), .val (.long z), .second, .val (.int (1 : Int32))]) (st' := [(.ref a)]) (by decide +kernel) rfl ?_
    refine Xw.getf 95 (hw _ (List.mem_of_getElem? (i := 56) rfl)) FA (by decide +kernel) ?_
    intro Tx Xx
    refine Xx.blk hK (L := [(.iload_n 1, 1, 0, 0), (.lload_n 2, 1, 0, 0)]) (pc' := 97) (ls' := #[.val (.ref a), .val (.int i), .val (.long z), .second, .val (.int (1 : Int32))]) (st' := [(.long z), (.int i), (.ref ar)]) (by decide +kernel) rfl ?_
    refine Xx.lastore 98 AA (by decide +kernel) (hi) (by rw [List.length_map]; exact hl) (nr) ?_
    intro Ts hs Xs Ws AS
    exact Xs.retV (by decide +kernel) (by decide) (by decide) (⟨rfl, _, Or.inr (Or.inr (Or.inr (⟨⟨EX.wr Ws, na, nr, nar⟩, ⟨FW.other Ws (Or.inl nar), FA.other Ws (Or.inl nar)⟩, ⟨by rw [List.map_set]; exact AS, own_set_mem HF fz, by rw [List.length_set]; exact LN, r1, r7⟩, ⟨v1, v2, v4, v8, F1.other Ws (Or.inl nar), F2.other Ws (Or.inl nar), F4.other Ws (Or.inl nar), F8.other Ws (Or.inl nar)⟩⟩)))⟩)
  · rw [q_w]
    refine Xc.blk hK (L := [(.istore 4, 2, 0, 0), (.iload 4, 2, 0, 0), (.aload_n 0, 1, 0, 0)]) (pc' := 9) (ls' := #[.val (.ref a), .val (.int i), .val (.long z), .second, .val (.int (2 : Int32))]) (st' := [(.ref a), (.int (2 : Int32))]) (by decide +kernel) rfl ?_
    refine Xc.getf 12 (hw _ (List.mem_of_getElem? (i := 12) rfl)) FW (by decide +kernel) ?_
    intro T1 X1
    have fz : True ∨ z = z := Or.inl trivial
    refine X1.icmp .le (9) 21 15 (by decide +kernel) (fun (c12 : ¬ (8 : Int32) < (2 : Int32)) => ?_) (fun (c12 : (8 : Int32) < (2 : Int32)) => absurd c12 (by decide : ¬ (8 : Int32) < (2 : Int32)))
    refine X1.blk hK (L := [(.aload_n 0, 1, 0, 0)]) (pc' := 22) (ls' := #[.val (.ref a), .val (.int i), .val (.long z), .second, .val (.int (2 : Int32))]) (st' := [(.ref a)]) (by decide +kernel) rfl ?_
    refine X1.getf 25 (hw _ (List.mem_of_getElem? (i := 12) rfl)) FW (by decide +kernel) ?_
    intro Tw Xw
    refine Xw.tsw 91 (df := 66) (lo := 1) (hi := 4) (offs := #[31, 43, 66, 55]) (n := 31) (by decide +kernel) ?_
    refine Xw.blk hK (L := [(.aload_n 0, 1, 0, 0)]) (pc' := 92) (ls' := #[.val (.ref a), .val (.int i), .val (.long z), .second, .val (.int (2 : Int32))]) (st' := [(.ref a)]) (by decide +kernel) rfl ?_
    refine Xw.getf 95 (hw _ (List.mem_of_getElem? (i := 56) rfl)) FA (by decide +kernel) ?_
    intro Tx Xx
    refine Xx.blk hK (L := [(.iload_n 1, 1, 0, 0), (.lload_n 2, 1, 0, 0)]) (pc' := 97) (ls' := #[.val (.ref a), .val (.int i), .val (.long z), .second, .val (.int (2 : Int32))]) (st' := [(.long z), (.int i), (.ref ar)]) (by decide +kernel) rfl ?_
    refine Xx.lastore 98 AA (by decide +kernel) (hi) (by rw [List.length_map]; exact hl) (nr) ?_
    intro Ts hs Xs Ws AS
    exact Xs.retV (by decide +kernel) (by decide) (by decide) (⟨rfl, _, Or.inr (Or.inr (Or.inr (⟨⟨EX.wr Ws, na, nr, nar⟩, ⟨FW.other Ws (Or.inl nar), FA.other Ws (Or.inl nar)⟩, ⟨by rw [List.map_set]; exact AS, own_set_mem HF fz, by rw [List.length_set]; exact LN, r1, r7⟩, ⟨v1, v2, v4, v8, F1.other Ws (Or.inl nar), F2.other Ws (Or.inl nar), F4.other Ws (Or.inl nar), F8.other Ws (Or.inl nar)⟩⟩)))⟩)
  · rw [q_w]
    refine Xc.blk hK (L := [(.istore 4, 2, 0, 0), (.iload 4, 2, 0, 0), (.aload_n 0, 1, 0, 0)]) (pc' := 9) (ls' := #[.val (.ref a), .val (.int i), .val (.long z), .second, .val (.int (4 : Int32))]) (st' := [(.ref a), (.int (4 : Int32))]) (by decide +kernel) rfl ?_
    refine Xc.getf 12 (hw _ (List.mem_of_getElem? (i := 12) rfl)) FW (by decide +kernel) ?_
    intro T1 X1
    have fz : True ∨ z = z := Or.inl trivial
    refine X1.icmp .le (9) 21 15 (by decide +kernel) (fun (c12 : ¬ (8 : Int32) < (4 : Int32)) => ?_) (fun (c12 : (8 : Int32) < (4 : Int32)) => absurd c12 (by decide : ¬ (8 : Int32) < (4 : Int32)))
    refine X1.blk hK (L := [(.aload_n 0, 1, 0, 0)]) (pc' := 22) (ls' := #[.val (.ref a), .val (.int i), .val (.long z), .second, .val (.int (4 : Int32))]) (st' := [(.ref a)]) (by decide +kernel) rfl ?_
    refine X1.getf 25 (hw _ (List.mem_of_getElem? (i := 12) rfl)) FW (by decide +kernel) ?_
    intro Tw Xw
    refine Xw.tsw 91 (df := 66) (lo := 1) (hi := 4) (offs := #[31, 43, 66, 55]) (n := 31) (by decide +kernel) ?_
    refine Xw.blk hK (L := [(.aload_n 0, 1, 0, 0)]) (pc' := 92) (ls' := #[.val (.ref a), .val (.int i), .val (.long z), .second, .val (.int (4 : Int32))]) (st' := [(.ref a)]) (by decide +kernel) rfl ?_
    refine Xw.getf 95 (hw _ (List.mem_of_getElem? (i := 56) rfl)) FA (by decide +kernel) ?_
    intro Tx Xx
    refine Xx.blk hK (L := [(.iload_n 1, 1, 0, 0), (.lload_n 2, 1, 0, 0)]) (pc' := 97) (ls' := #[.val (.ref a), .val (.int i), .val (.long z), .second, .val (.int (4 : Int32))]) (st' := [(.long z), (.int i), (.ref ar)]) (by decide +kernel) rfl ?_
    refine Xx.lastore 98 AA (by decide +kernel) (hi) (by rw [List.length_map]; exact hl) (nr) ?_
    intro Ts hs Xs Ws AS
    exact Xs.retV (by decide +kernel) (by decide) (by decide) (⟨rfl, _, Or.inr (Or.inr (Or.inr (⟨⟨EX.wr Ws, na, nr, nar⟩, ⟨FW.other Ws (Or.inl nar), FA.other Ws (Or.inl nar)⟩, ⟨by rw [List.map_set]; exact AS, own_set_mem HF fz, by rw [List.length_set]; exact LN, r1, r7⟩, ⟨v1, v2, v4, v8, F1.other Ws (Or.inl nar), F2.other Ws (Or.inl nar), F4.other Ws (Or.inl nar), F8.other Ws (Or.inl nar)⟩⟩)))⟩)
  · rw [q_w]
    refine Xc.blk hK (L := [(.istore 4, 2, 0, 0), (.iload 4, 2, 0, 0), (.aload_n 0, 1, 0, 0)]) (pc' := 9) (ls' := #[.val (.ref a), .val (.int i), .val (.long z), .second, .val (.int (8 : Int32))]) (st' := [(.ref a), (.int (8 : Int32))]) (by decide +kernel) rfl ?_
    refine Xc.getf 12 (hw _ (List.mem_of_getElem? (i := 12) rfl)) FW (by decide +kernel) ?_
    intro T1 X1
    have fz : True ∨ z = z := Or.inl trivial
    refine X1.icmp .le (9) 21 15 (by decide +kernel) (fun (c12 : ¬ (8 : Int32) < (8 : Int32)) => ?_) (fun (c12 : (8 : Int32) < (8 : Int32)) => absurd c12 (by decide : ¬ (8 : Int32) < (8 : Int32)))
    refine X1.blk hK (L := [(.aload_n 0, 1, 0, 0)]) (pc' := 22) (ls' := #[.val (.ref a), .val (.int i), .val (.long z), .second, .val (.int (8 : Int32))]) (st' := [(.ref a)]) (by decide +kernel) rfl ?_
    refine X1.getf 25 (hw _ (List.mem_of_getElem? (i := 12) rfl)) FW (by decide +kernel) ?_
    intro Tw Xw
    refine Xw.tsw 91 (df := 66) (lo := 1) (hi := 4) (offs := #[31, 43, 66, 55]) (n := 31) (by decide +kernel) ?_
    refine Xw.blk hK (L := [(.aload_n 0, 1, 0, 0)]) (pc' := 92) (ls' := #[.val (.ref a), .val (.int i), .val (.long z), .second, .val (.int (8 : Int32))]) (st' := [(.ref a)]) (by decide +kernel) rfl ?_
    refine Xw.getf 95 (hw _ (List.mem_of_getElem? (i := 56) rfl)) FA (by decide +kernel) ?_
    intro Tx Xx
    refine Xx.blk hK (L := [(.iload_n 1, 1, 0, 0), (.lload_n 2, 1, 0, 0)]) (pc' := 97) (ls' := #[.val (.ref a), .val (.int i), .val (.long z), .second, .val (.int (8 : Int32))]) (st' := [(.long z), (.int i), (.ref ar)]) (by decide +kernel) rfl ?_
    refine Xx.lastore 98 AA (by decide +kernel) (hi) (by rw [List.length_map]; exact hl) (nr) ?_
    intro Ts hs Xs Ws AS
    exact Xs.retV (by decide +kernel) (by decide) (by decide) (⟨rfl, _, Or.inr (Or.inr (Or.inr (⟨⟨EX.wr Ws, na, nr, nar⟩, ⟨FW.other Ws (Or.inl nar), FA.other Ws (Or.inl nar)⟩, ⟨by rw [List.map_set]; exact AS, own_set_mem HF fz, by rw [List.length_set]; exact LN, r1, r7⟩, ⟨v1, v2, v4, v8, F1.other Ws (Or.inl nar), F2.other Ws (Or.inl nar), F4.other Ws (Or.inl nar), F8.other Ws (Or.inl nar)⟩⟩)))⟩)
theorem rm_get (l : Launch) (Z : State) (a0 : Array Value) (hw : ∀ d ∈ tables_1, d.before a0 Z = true) (a : Addr) (n i : Int32) (xs : List Int64) (z : Int64) (h0 : Heap) (n0 : Nat) (Z0 : n0 ≤ h0.size) (I : CIx Z h0 n0 a n xs) (hi : ¬ i < 0) (hz : xs[i.toNatClampNeg]? = some z) :
    Cnt l Z (⟨"com/example/millrace/millrace/examples/CompactIntegers", "get", "(I)J"⟩ : MethodName) prog_16_method_4_code 2 (some .long) ({ frames := 0, cells := 0, slots := 0, locals := 0 } : Room) n0 #[.ref a, .int i] h0 (fun v h => v = some (.long z) ∧ h0 = h) := by
  obtain ⟨ar, I | I | I | I⟩ := I
  · exact rm_get1 l Z a0 hw a ar n i xs z h0 n0 Z0 I hi hz
  · exact rm_get2 l Z a0 hw a ar n i xs z h0 n0 Z0 I hi hz
  · exact rm_get4 l Z a0 hw a ar n i xs z h0 n0 Z0 I hi hz
  · exact rm_get8 l Z a0 hw a ar n i xs z h0 n0 Z0 I hi hz
theorem rm_set (l : Launch) (Z : State) (a0 : Array Value) (hw : ∀ d ∈ tables_1, d.before a0 Z = true) (a : Addr) (n i : Int32) (xs : List Int64) (z : Int64) (h0 : Heap) (n0 : Nat) (Z0 : n0 ≤ h0.size) (I : CIx Z h0 n0 a n xs) (hi : ¬ i < 0) (hl : i.toNatClampNeg < xs.length) :
    Cnt l Z (⟨"com/example/millrace/millrace/examples/CompactIntegers", "set", "(IJ)V"⟩ : MethodName) prog_16_method_5_code 5 none ({ frames := 3, cells := 2, slots := 13, locals := 47 } : Room) n0 #[.ref a, .int i, .long z] h0 (fun v h => v = none ∧ CIx Z h n0 a n (xs.set i.toNatClampNeg z)) := by
  obtain ⟨ar, I | I | I | I⟩ := I
  · exact rm_set1 l Z a0 hw a ar n i xs z h0 n0 Z0 I hi hl
  · exact rm_set2 l Z a0 hw a ar n i xs z h0 n0 Z0 I hi hl
  · exact rm_set4 l Z a0 hw a ar n i xs z h0 n0 Z0 I hi hl
  · exact rm_set8 l Z a0 hw a ar n i xs z h0 n0 Z0 I hi hl

theorem own_rem (x d : Int32) (D : Int) (hd : d.toInt = D) (h0 : 0 < D) : 0 ≤ ((x &&& 2147483647) % d).toInt ∧ ((x &&& 2147483647) % d).toInt < D := by
  have h1 := (c_and x 2147483647 (by decide)).1
  have h2 := (c_irem (x &&& 2147483647) d D hd).1 h1
  have h3 := Int.emod_nonneg (x &&& 2147483647).toInt (b := D) (by omega)
  have h4 := Int.emod_lt_of_pos (x &&& 2147483647).toInt (b := D) (by omega)
  omega

def fMin (a b : Int32) : Int32 := if b < a then b else a
def rsz {α : Type} (vs : List α) (n : Nat) (d : α) : List α := vs.take n ++ List.replicate (n - vs.length) d
theorem own_rsz_eq {α : Type} (vs : List α) (d : α) : rsz vs vs.length d = vs := by simp [rsz]
theorem own_rsz_len {α : Type} (vs : List α) (n : Nat) (d : α) : (rsz vs n d).length = n := by simp [rsz]; omega
theorem own_rsz_map {α β : Type} (f : α → β) (vs : List α) (n : Nat) (d : α) : rsz (vs.map f) n (f d) = (rsz vs n d).map f := by simp [rsz, List.map_take]
theorem own_rsz_cp (vs : List Value) (n k : Nat) (d : Value) (hk : k = min vs.length n) : (List.replicate n d).take 0 ++ ((List.range k).map fun i => vs.getD (0 + i) d) ++ (List.replicate n d).drop (0 + k) = rsz vs n d := by
  have e1 : ((List.range k).map fun i => vs.getD (0 + i) d) = vs.take n := by
    refine List.ext_getElem? fun j => ?_
    rw [List.getElem?_map, List.getElem?_take]
    by_cases q : j < k
    · rw [List.getElem?_range q, if_pos (by omega)]
      simp [List.getD_eq_getElem?_getD, List.getElem?_eq_getElem (show j < vs.length by omega)]
    · rw [List.getElem?_eq_none (by simpa using q)]
      by_cases z : j < n
      · rw [if_pos z, List.getElem?_eq_none (by omega)]; rfl
      · rw [if_neg z]; rfl
  rw [e1]
  simp only [rsz, List.take_zero, List.nil_append, List.drop_replicate]
  congr 2
  omega
theorem own_rsz_mem {xs : List Int64} {n : Nat} {Pd : Int64 → Prop} (h : ∀ z ∈ xs, Pd z) (h0 : Pd 0) : ∀ z ∈ rsz xs n 0, Pd z := fun z hz => by
  rcases List.mem_append.mp hz with q | q
  · exact h z (List.mem_of_mem_take q)
  · rw [(List.mem_replicate.mp q).2]; exact h0
theorem own_min {a b : Int32} (ha : 0 ≤ a.toInt) (hb : 0 ≤ b.toInt) : 0 ≤ (fMin a b).toInt ∧ (fMin a b).toNatClampNeg = min a.toNatClampNeg b.toNatClampNeg := by
  have na := own_nat ha; have nb := own_nat hb
  unfold fMin
  by_cases q : b < a
  · rw [if_pos q]; rw [Int32.lt_iff_toInt_lt] at q; omega
  · rw [if_neg q]; rw [Int32.lt_iff_toInt_lt] at q; omega
set_option maxRecDepth 65536 in
set_option maxHeartbeats 40000000 in
theorem rm_min (l : Launch) (Z : State) (a0 : Array Value) (hw : ∀ d ∈ tables_1, d.before a0 Z = true) (p1 p2 : Int32) (h0 : Heap) (n0 : Nat) (Z0 : n0 ≤ h0.size)  :
    Cnt l Z (⟨"java/lang/Math", "min", "(II)I"⟩ : MethodName) jdk_29_method_69_code 2 (some .int) ({ frames := 0, cells := 0, slots := 0, locals := 0 } : Room) n0 #[(.int p1), (.int p2)] h0 (fun v h => v = some (.int (fMin p1 p2)) ∧ h0 = h) := by
  refine Cnt.mk (by first | exact plainFor_of_name (by first | (simp [plainName, overriddenIn]; done) | decide +kernel) | decide +kernel) Z0 ?_
  intro p e s m below meth c T X
  refine Go.cast (g' := mkF m 0 #[.val (.int p1), .val (.int p2)] []) (by first | (simp [entryFrame, mkF, argsToLocals, Value.category, maxLocals]; done) | rfl) ?_
  have hK : (∀ q ∈ ([] : List (Nat × Int32)), (Jvm.Cond.constant "java/lang/Math" q.1 q.2).before a0 Z = true) ∧ (∀ q ∈ ([] : List (Nat × Int64)), (Jvm.Cond.constantLong "java/lang/Math" q.1 q.2).before a0 Z = true) :=
    ⟨(fun q hq => nomatch hq), (fun q hq => nomatch hq)⟩
  refine X.blk hK (L := [(.iload_n 0, 1, 0, 0), (.iload_n 1, 1, 0, 0)]) (pc' := 2) (ls' := #[.val (.int p1), .val (.int p2)]) (st' := [(.int p2), (.int p1)]) (by decide +kernel) rfl ?_
  refine X.icmp .gt (7) 9 5 (by decide +kernel) (fun (c2 : p2 < p1) => ?_) (fun (c2 : ¬ p2 < p1) => ?_)
  · refine X.blk hK (L := [(.iload_n 1, 1, 0, 0)]) (pc' := 10) (ls' := #[.val (.int p1), .val (.int p2)]) (st' := [(.int p2)]) (by decide +kernel) rfl ?_
    exact X.retI (by decide +kernel) (by decide) (by decide) (by refine ⟨?_, rfl⟩; simp [fMin, c2])
  · refine X.blk hK (L := [(.iload_n 0, 1, 0, 0), (.goto 4, 3, 0, 10)]) (pc' := 10) (ls' := #[.val (.int p1), .val (.int p2)]) (st' := [(.int p1)]) (by decide +kernel) rfl ?_
    exact X.retI (by decide +kernel) (by decide) (by decide) (by refine ⟨?_, rfl⟩; simp [fMin, c2])
set_option maxRecDepth 65536 in
set_option maxHeartbeats 40000000 in
theorem rm_cp1 (l : Launch) (Z : State) (a0 : Array Value) (hw : ∀ d ∈ tables_1, d.before a0 Z = true) (a1 : Addr) (n lv : Int32) (vs : List Value) (h0 : Heap) (n0 : Nat) (Z0 : n0 ≤ h0.size) (A : AV Z h0 a1 .byte vs) (r1 : 0 ≤ n.toInt) (r7 : n.toInt ≤ 7) (hlv : vs.length = lv.toNatClampNeg) (s1 : 0 ≤ lv.toInt) (s7 : lv.toInt ≤ 7) :
    Cnt l Z (⟨"java/util/Arrays", "copyOf", "([BI)[B"⟩ : MethodName) jdk_65_method_121_code 3 (some (.array .byte)) ({ frames := 1, cells := 1, slots := 8, locals := 40 } : Room) n0 #[(.ref a1), (.int n)] h0 (fun v h => ∃ a', v = some (.ref a') ∧ AV Z h a' .byte (rsz vs n.toNatClampNeg (.int 0)) ∧ Keep h0 h [] ∧ h0.size ≤ a') := by
  refine Cnt.mk (by first | exact plainFor_of_name (by first | (simp [plainName, overriddenIn]; done) | decide +kernel) | decide +kernel) Z0 ?_
  intro p e s m below meth c T X
  refine Go.cast (g' := mkF m 0 #[.val (.ref a1), .val (.int n), .unset] []) (by first | (simp [entryFrame, mkF, argsToLocals, Value.category, maxLocals]; done) | rfl) ?_
  have hK : (∀ q ∈ ([] : List (Nat × Int32)), (Jvm.Cond.constant "java/util/Arrays" q.1 q.2).before a0 Z = true) ∧ (∀ q ∈ ([] : List (Nat × Int64)), (Jvm.Cond.constantLong "java/util/Arrays" q.1 q.2).before a0 Z = true) :=
    ⟨(fun q hq => nomatch hq), (fun q hq => nomatch hq)⟩
  have n_n := own_nat r1
  have n_l := own_nat s1
  have e_l : vs.length.toInt32 = lv := by rw [hlv]; exact (back32 (own_nn s1)).1
  refine X.blk hK (L := [(.iload_n 1, 1, 0, 0), (.aload_n 0, 1, 0, 0)]) (pc' := 2) (ls' := #[.val (.ref a1), .val (.int n), .unset]) (st' := [(.ref a1), (.int n)]) (by decide +kernel) rfl ?_
  refine X.alen 3 (n := lv) A (by decide +kernel) (e_l) ?_
  refine X.icmp .ne (11) 14 6 (by decide +kernel) (fun (c3 : ¬ n = lv) => ?_) (fun (c3 : n = lv) => ?_)
  · refine X.blk hK (L := [(.iload_n 1, 1, 0, 0)]) (pc' := 15) (ls' := #[.val (.ref a1), .val (.int n), .unset]) (st' := [(.int n)]) (by decide +kernel) rfl ?_
    refine X.newarr 17 8 (aty := .byte) (hw _ (List.mem_of_getElem? (i := 14) rfl)) rfl (by decide +kernel) (own_nn r1) (by omega) (by decide) ?_
    intro Tn hn Xn En A1
    obtain ⟨an, gn⟩ : ∃ z, z = h0.size := ⟨_, rfl⟩
    rw [← gn] at A1 ⊢
    have A1 : AV Z hn an .byte (List.replicate n.toNatClampNeg (.int 0)) := A1
    have A0 := A.ext En
    refine Xn.blk hK (L := [(.astore_n 2, 1, 0, 0), (.aload_n 0, 1, 0, 0), (.iconst 0, 1, 0, 0), (.aload_n 2, 1, 0, 0), (.iconst 0, 1, 0, 0), (.aload_n 0, 1, 0, 0)]) (pc' := 23) (ls' := #[.val (.ref a1), .val (.int n), .val (.ref an)]) (st' := [(.ref a1), (.int (0 : Int32)), (.ref an), (.int (0 : Int32)), (.ref a1)]) (by decide +kernel) rfl ?_
    refine Xn.alen 24 (n := lv) A0 (by decide +kernel) (e_l) ?_
    refine Xn.blk hK (L := [(.iload_n 1, 1, 0, 0)]) (pc' := 25) (ls' := #[.val (.ref a1), .val (.int n), .val (.ref an)]) (st' := [(.int n), (.int lv), (.int (0 : Int32)), (.ref an), (.int (0 : Int32)), (.ref a1)]) (by decide +kernel) rfl ?_
    refine Xn.callS 28 4 (argsL := [(.int lv), (.int n)]) (rest := [(.int (0 : Int32)), (.ref an), (.int (0 : Int32)), (.ref a1)]) (rm_min l Z a0 hw lv n hn n0 Xn.size) (hw _ (List.mem_of_getElem? (i := 72) rfl)) (hw _ (List.mem_of_getElem? (i := 73) rfl)) (hw _ (List.mem_of_getElem? (i := 74) rfl)) (hw _ (List.mem_of_getElem? (i := 75) rfl)) (by decide) (ps := [.int, .int]) (r := some .int) (by decide +kernel) rfl rfl rfl rfl (by decide +kernel) (by decide) ?_
    rintro Tm hm vm Xm ⟨rfl, rfl⟩
    show Go p e below s _ n0 _ (Tm.setTop (mkF m 28 #[.val (.ref a1), .val (.int n), .val (.ref an)] [(.int (fMin lv n)), (.int (0 : Int32)), (.ref an), (.int (0 : Int32)), (.ref a1)]))
    obtain ⟨m1, m2⟩ := own_min s1 r1
    have z0 : (0 : Int32).toNatClampNeg = 0 := rfl
    refine Xm.acopy 31 0 (.int 0) A0 A1 rfl (hw _ (List.mem_of_getElem? (i := 76) rfl)) (hw _ (List.mem_of_getElem? (i := 79) rfl)) (hw _ (List.mem_of_getElem? (i := 77) rfl)) (hw _ (List.mem_of_getElem? (i := 78) rfl)) (by decide) (by decide) (own_nn m1) (by rw [z0]; omega) (by rw [z0, List.length_replicate]; omega) (by rw [gn]; exact Z0) rfl rfl (by decide +kernel) (by decide) ?_
    intro Tc hc Xc Kc AC
    have AC2 : AV Z hc an .byte (rsz vs n.toNatClampNeg (.int 0)) := by
      have q := own_rsz_cp vs n.toNatClampNeg (fMin lv n).toNatClampNeg (.int 0) (by rw [m2]; omega)
      rw [← q]; exact AC
    refine Xc.blk hK (L := [(.aload_n 2, 1, 0, 0)]) (pc' := 32) (ls' := #[.val (.ref a1), .val (.int n), .val (.ref an)]) (st' := [(.ref an)]) (by decide +kernel) rfl ?_
    exact Xc.retA (by decide +kernel) rfl rfl rfl (by decide) (by decide) (⟨_, rfl, AC2, ((Keep.refl h0 []).ext En).trans Kc (fun y hy => Or.inr (by cases List.mem_singleton.mp hy; rw [gn]; exact Nat.le_refl _)), by rw [gn]; exact Nat.le_refl _⟩)
  · refine X.blk hK (L := [(.aload_n 0, 1, 0, 0)]) (pc' := 7) (ls' := #[.val (.ref a1), .val (.int n), .unset]) (st' := [(.ref a1)]) (by decide +kernel) rfl ?_
    refine X.clone 10 0 8 A (by decide) (hw _ (List.mem_of_getElem? (i := 31) rfl)) (hw _ (List.mem_of_getElem? (i := 32) rfl)) (hw _ (List.mem_of_getElem? (i := 36) rfl)) (hw _ (List.mem_of_getElem? (i := 34) rfl)) (hw _ (List.mem_of_getElem? (i := 35) rfl)) (hw _ (List.mem_of_getElem? (i := 37) rfl)) rfl rfl (by decide +kernel) (by omega) (by decide) ?_
    intro Tk hk Xk Ek AK
    obtain ⟨ak, gk⟩ : ∃ z, z = h0.size := ⟨_, rfl⟩
    rw [← gk] at AK ⊢
    refine Xk.cast 13 (hw _ (List.mem_of_getElem? (i := 38) rfl)) (AK.exa) (by decide +kernel) ?_
    intro Tk2 Xk2
    exact Xk2.retA (by decide +kernel) rfl rfl rfl (by decide) (by decide) (⟨_, rfl, by rw [show n.toNatClampNeg = vs.length by rw [c3, hlv], own_rsz_eq]; exact AK, (Keep.refl h0 []).ext Ek, by rw [gk]; exact Nat.le_refl _⟩)
set_option maxRecDepth 65536 in
set_option maxHeartbeats 40000000 in
theorem rm_cp2 (l : Launch) (Z : State) (a0 : Array Value) (hw : ∀ d ∈ tables_1, d.before a0 Z = true) (a1 : Addr) (n lv : Int32) (vs : List Value) (h0 : Heap) (n0 : Nat) (Z0 : n0 ≤ h0.size) (A : AV Z h0 a1 .short vs) (r1 : 0 ≤ n.toInt) (r7 : n.toInt ≤ 7) (hlv : vs.length = lv.toNatClampNeg) (s1 : 0 ≤ lv.toInt) (s7 : lv.toInt ≤ 7) :
    Cnt l Z (⟨"java/util/Arrays", "copyOf", "([SI)[S"⟩ : MethodName) jdk_65_method_122_code 3 (some (.array .short)) ({ frames := 1, cells := 1, slots := 8, locals := 40 } : Room) n0 #[(.ref a1), (.int n)] h0 (fun v h => ∃ a', v = some (.ref a') ∧ AV Z h a' .short (rsz vs n.toNatClampNeg (.int 0)) ∧ Keep h0 h [] ∧ h0.size ≤ a') := by
  refine Cnt.mk (by first | exact plainFor_of_name (by first | (simp [plainName, overriddenIn]; done) | decide +kernel) | decide +kernel) Z0 ?_
  intro p e s m below meth c T X
  refine Go.cast (g' := mkF m 0 #[.val (.ref a1), .val (.int n), .unset] []) (by first | (simp [entryFrame, mkF, argsToLocals, Value.category, maxLocals]; done) | rfl) ?_
  have hK : (∀ q ∈ ([] : List (Nat × Int32)), (Jvm.Cond.constant "java/util/Arrays" q.1 q.2).before a0 Z = true) ∧ (∀ q ∈ ([] : List (Nat × Int64)), (Jvm.Cond.constantLong "java/util/Arrays" q.1 q.2).before a0 Z = true) :=
    ⟨(fun q hq => nomatch hq), (fun q hq => nomatch hq)⟩
  have n_n := own_nat r1
  have n_l := own_nat s1
  have e_l : vs.length.toInt32 = lv := by rw [hlv]; exact (back32 (own_nn s1)).1
  refine X.blk hK (L := [(.iload_n 1, 1, 0, 0), (.aload_n 0, 1, 0, 0)]) (pc' := 2) (ls' := #[.val (.ref a1), .val (.int n), .unset]) (st' := [(.ref a1), (.int n)]) (by decide +kernel) rfl ?_
  refine X.alen 3 (n := lv) A (by decide +kernel) (e_l) ?_
  refine X.icmp .ne (11) 14 6 (by decide +kernel) (fun (c3 : ¬ n = lv) => ?_) (fun (c3 : n = lv) => ?_)
  · refine X.blk hK (L := [(.iload_n 1, 1, 0, 0)]) (pc' := 15) (ls' := #[.val (.ref a1), .val (.int n), .unset]) (st' := [(.int n)]) (by decide +kernel) rfl ?_
    refine X.newarr 17 8 (aty := .short) (hw _ (List.mem_of_getElem? (i := 84) rfl)) rfl (by decide +kernel) (own_nn r1) (by omega) (by decide) ?_
    intro Tn hn Xn En A1
    obtain ⟨an, gn⟩ : ∃ z, z = h0.size := ⟨_, rfl⟩
    rw [← gn] at A1 ⊢
    have A1 : AV Z hn an .short (List.replicate n.toNatClampNeg (.int 0)) := A1
    have A0 := A.ext En
    refine Xn.blk hK (L := [(.astore_n 2, 1, 0, 0), (.aload_n 0, 1, 0, 0), (.iconst 0, 1, 0, 0), (.aload_n 2, 1, 0, 0), (.iconst 0, 1, 0, 0), (.aload_n 0, 1, 0, 0)]) (pc' := 23) (ls' := #[.val (.ref a1), .val (.int n), .val (.ref an)]) (st' := [(.ref a1), (.int (0 : Int32)), (.ref an), (.int (0 : Int32)), (.ref a1)]) (by decide +kernel) rfl ?_
    refine Xn.alen 24 (n := lv) A0 (by decide +kernel) (e_l) ?_
    refine Xn.blk hK (L := [(.iload_n 1, 1, 0, 0)]) (pc' := 25) (ls' := #[.val (.ref a1), .val (.int n), .val (.ref an)]) (st' := [(.int n), (.int lv), (.int (0 : Int32)), (.ref an), (.int (0 : Int32)), (.ref a1)]) (by decide +kernel) rfl ?_
    refine Xn.callS 28 4 (argsL := [(.int lv), (.int n)]) (rest := [(.int (0 : Int32)), (.ref an), (.int (0 : Int32)), (.ref a1)]) (rm_min l Z a0 hw lv n hn n0 Xn.size) (hw _ (List.mem_of_getElem? (i := 72) rfl)) (hw _ (List.mem_of_getElem? (i := 73) rfl)) (hw _ (List.mem_of_getElem? (i := 74) rfl)) (hw _ (List.mem_of_getElem? (i := 75) rfl)) (by decide) (ps := [.int, .int]) (r := some .int) (by decide +kernel) rfl rfl rfl rfl (by decide +kernel) (by decide) ?_
    rintro Tm hm vm Xm ⟨rfl, rfl⟩
    show Go p e below s _ n0 _ (Tm.setTop (mkF m 28 #[.val (.ref a1), .val (.int n), .val (.ref an)] [(.int (fMin lv n)), (.int (0 : Int32)), (.ref an), (.int (0 : Int32)), (.ref a1)]))
    obtain ⟨m1, m2⟩ := own_min s1 r1
    have z0 : (0 : Int32).toNatClampNeg = 0 := rfl
    refine Xm.acopy 31 0 (.int 0) A0 A1 rfl (hw _ (List.mem_of_getElem? (i := 76) rfl)) (hw _ (List.mem_of_getElem? (i := 79) rfl)) (hw _ (List.mem_of_getElem? (i := 77) rfl)) (hw _ (List.mem_of_getElem? (i := 78) rfl)) (by decide) (by decide) (own_nn m1) (by rw [z0]; omega) (by rw [z0, List.length_replicate]; omega) (by rw [gn]; exact Z0) rfl rfl (by decide +kernel) (by decide) ?_
    intro Tc hc Xc Kc AC
    have AC2 : AV Z hc an .short (rsz vs n.toNatClampNeg (.int 0)) := by
      have q := own_rsz_cp vs n.toNatClampNeg (fMin lv n).toNatClampNeg (.int 0) (by rw [m2]; omega)
      rw [← q]; exact AC
    refine Xc.blk hK (L := [(.aload_n 2, 1, 0, 0)]) (pc' := 32) (ls' := #[.val (.ref a1), .val (.int n), .val (.ref an)]) (st' := [(.ref an)]) (by decide +kernel) rfl ?_
    exact Xc.retA (by decide +kernel) rfl rfl rfl (by decide) (by decide) (⟨_, rfl, AC2, ((Keep.refl h0 []).ext En).trans Kc (fun y hy => Or.inr (by cases List.mem_singleton.mp hy; rw [gn]; exact Nat.le_refl _)), by rw [gn]; exact Nat.le_refl _⟩)
  · refine X.blk hK (L := [(.aload_n 0, 1, 0, 0)]) (pc' := 7) (ls' := #[.val (.ref a1), .val (.int n), .unset]) (st' := [(.ref a1)]) (by decide +kernel) rfl ?_
    refine X.clone 10 0 8 A (by decide) (hw _ (List.mem_of_getElem? (i := 100) rfl)) (hw _ (List.mem_of_getElem? (i := 101) rfl)) (hw _ (List.mem_of_getElem? (i := 36) rfl)) (hw _ (List.mem_of_getElem? (i := 34) rfl)) (hw _ (List.mem_of_getElem? (i := 102) rfl)) (hw _ (List.mem_of_getElem? (i := 103) rfl)) rfl rfl (by decide +kernel) (by omega) (by decide) ?_
    intro Tk hk Xk Ek AK
    obtain ⟨ak, gk⟩ : ∃ z, z = h0.size := ⟨_, rfl⟩
    rw [← gk] at AK ⊢
    refine Xk.cast 13 (hw _ (List.mem_of_getElem? (i := 104) rfl)) (AK.exa) (by decide +kernel) ?_
    intro Tk2 Xk2
    exact Xk2.retA (by decide +kernel) rfl rfl rfl (by decide) (by decide) (⟨_, rfl, by rw [show n.toNatClampNeg = vs.length by rw [c3, hlv], own_rsz_eq]; exact AK, (Keep.refl h0 []).ext Ek, by rw [gk]; exact Nat.le_refl _⟩)
set_option maxRecDepth 65536 in
set_option maxHeartbeats 40000000 in
theorem rm_cp4 (l : Launch) (Z : State) (a0 : Array Value) (hw : ∀ d ∈ tables_1, d.before a0 Z = true) (a1 : Addr) (n lv : Int32) (vs : List Value) (h0 : Heap) (n0 : Nat) (Z0 : n0 ≤ h0.size) (A : AV Z h0 a1 .int vs) (r1 : 0 ≤ n.toInt) (r7 : n.toInt ≤ 7) (hlv : vs.length = lv.toNatClampNeg) (s1 : 0 ≤ lv.toInt) (s7 : lv.toInt ≤ 7) :
    Cnt l Z (⟨"java/util/Arrays", "copyOf", "([II)[I"⟩ : MethodName) jdk_65_method_123_code 3 (some (.array .int)) ({ frames := 1, cells := 1, slots := 8, locals := 40 } : Room) n0 #[(.ref a1), (.int n)] h0 (fun v h => ∃ a', v = some (.ref a') ∧ AV Z h a' .int (rsz vs n.toNatClampNeg (.int 0)) ∧ Keep h0 h [] ∧ h0.size ≤ a') := by
  refine Cnt.mk (by first | exact plainFor_of_name (by first | (simp [plainName, overriddenIn]; done) | decide +kernel) | decide +kernel) Z0 ?_
  intro p e s m below meth c T X
  refine Go.cast (g' := mkF m 0 #[.val (.ref a1), .val (.int n), .unset] []) (by first | (simp [entryFrame, mkF, argsToLocals, Value.category, maxLocals]; done) | rfl) ?_
  have hK : (∀ q ∈ ([] : List (Nat × Int32)), (Jvm.Cond.constant "java/util/Arrays" q.1 q.2).before a0 Z = true) ∧ (∀ q ∈ ([] : List (Nat × Int64)), (Jvm.Cond.constantLong "java/util/Arrays" q.1 q.2).before a0 Z = true) :=
    ⟨(fun q hq => nomatch hq), (fun q hq => nomatch hq)⟩
  have n_n := own_nat r1
  have n_l := own_nat s1
  have e_l : vs.length.toInt32 = lv := by rw [hlv]; exact (back32 (own_nn s1)).1
  refine X.blk hK (L := [(.iload_n 1, 1, 0, 0), (.aload_n 0, 1, 0, 0)]) (pc' := 2) (ls' := #[.val (.ref a1), .val (.int n), .unset]) (st' := [(.ref a1), (.int n)]) (by decide +kernel) rfl ?_
  refine X.alen 3 (n := lv) A (by decide +kernel) (e_l) ?_
  refine X.icmp .ne (11) 14 6 (by decide +kernel) (fun (c3 : ¬ n = lv) => ?_) (fun (c3 : n = lv) => ?_)
  · refine X.blk hK (L := [(.iload_n 1, 1, 0, 0)]) (pc' := 15) (ls' := #[.val (.ref a1), .val (.int n), .unset]) (st' := [(.int n)]) (by decide +kernel) rfl ?_
    refine X.newarr 17 8 (aty := .int) (hw _ (List.mem_of_getElem? (i := 80) rfl)) rfl (by decide +kernel) (own_nn r1) (by omega) (by decide) ?_
    intro Tn hn Xn En A1
    obtain ⟨an, gn⟩ : ∃ z, z = h0.size := ⟨_, rfl⟩
    rw [← gn] at A1 ⊢
    have A1 : AV Z hn an .int (List.replicate n.toNatClampNeg (.int 0)) := A1
    have A0 := A.ext En
    refine Xn.blk hK (L := [(.astore_n 2, 1, 0, 0), (.aload_n 0, 1, 0, 0), (.iconst 0, 1, 0, 0), (.aload_n 2, 1, 0, 0), (.iconst 0, 1, 0, 0), (.aload_n 0, 1, 0, 0)]) (pc' := 23) (ls' := #[.val (.ref a1), .val (.int n), .val (.ref an)]) (st' := [(.ref a1), (.int (0 : Int32)), (.ref an), (.int (0 : Int32)), (.ref a1)]) (by decide +kernel) rfl ?_
    refine Xn.alen 24 (n := lv) A0 (by decide +kernel) (e_l) ?_
    refine Xn.blk hK (L := [(.iload_n 1, 1, 0, 0)]) (pc' := 25) (ls' := #[.val (.ref a1), .val (.int n), .val (.ref an)]) (st' := [(.int n), (.int lv), (.int (0 : Int32)), (.ref an), (.int (0 : Int32)), (.ref a1)]) (by decide +kernel) rfl ?_
    refine Xn.callS 28 4 (argsL := [(.int lv), (.int n)]) (rest := [(.int (0 : Int32)), (.ref an), (.int (0 : Int32)), (.ref a1)]) (rm_min l Z a0 hw lv n hn n0 Xn.size) (hw _ (List.mem_of_getElem? (i := 72) rfl)) (hw _ (List.mem_of_getElem? (i := 73) rfl)) (hw _ (List.mem_of_getElem? (i := 74) rfl)) (hw _ (List.mem_of_getElem? (i := 75) rfl)) (by decide) (ps := [.int, .int]) (r := some .int) (by decide +kernel) rfl rfl rfl rfl (by decide +kernel) (by decide) ?_
    rintro Tm hm vm Xm ⟨rfl, rfl⟩
    show Go p e below s _ n0 _ (Tm.setTop (mkF m 28 #[.val (.ref a1), .val (.int n), .val (.ref an)] [(.int (fMin lv n)), (.int (0 : Int32)), (.ref an), (.int (0 : Int32)), (.ref a1)]))
    obtain ⟨m1, m2⟩ := own_min s1 r1
    have z0 : (0 : Int32).toNatClampNeg = 0 := rfl
    refine Xm.acopy 31 0 (.int 0) A0 A1 rfl (hw _ (List.mem_of_getElem? (i := 76) rfl)) (hw _ (List.mem_of_getElem? (i := 79) rfl)) (hw _ (List.mem_of_getElem? (i := 77) rfl)) (hw _ (List.mem_of_getElem? (i := 78) rfl)) (by decide) (by decide) (own_nn m1) (by rw [z0]; omega) (by rw [z0, List.length_replicate]; omega) (by rw [gn]; exact Z0) rfl rfl (by decide +kernel) (by decide) ?_
    intro Tc hc Xc Kc AC
    have AC2 : AV Z hc an .int (rsz vs n.toNatClampNeg (.int 0)) := by
      have q := own_rsz_cp vs n.toNatClampNeg (fMin lv n).toNatClampNeg (.int 0) (by rw [m2]; omega)
      rw [← q]; exact AC
    refine Xc.blk hK (L := [(.aload_n 2, 1, 0, 0)]) (pc' := 32) (ls' := #[.val (.ref a1), .val (.int n), .val (.ref an)]) (st' := [(.ref an)]) (by decide +kernel) rfl ?_
    exact Xc.retA (by decide +kernel) rfl rfl rfl (by decide) (by decide) (⟨_, rfl, AC2, ((Keep.refl h0 []).ext En).trans Kc (fun y hy => Or.inr (by cases List.mem_singleton.mp hy; rw [gn]; exact Nat.le_refl _)), by rw [gn]; exact Nat.le_refl _⟩)
  · refine X.blk hK (L := [(.aload_n 0, 1, 0, 0)]) (pc' := 7) (ls' := #[.val (.ref a1), .val (.int n), .unset]) (st' := [(.ref a1)]) (by decide +kernel) rfl ?_
    refine X.clone 10 0 8 A (by decide) (hw _ (List.mem_of_getElem? (i := 94) rfl)) (hw _ (List.mem_of_getElem? (i := 95) rfl)) (hw _ (List.mem_of_getElem? (i := 36) rfl)) (hw _ (List.mem_of_getElem? (i := 34) rfl)) (hw _ (List.mem_of_getElem? (i := 96) rfl)) (hw _ (List.mem_of_getElem? (i := 97) rfl)) rfl rfl (by decide +kernel) (by omega) (by decide) ?_
    intro Tk hk Xk Ek AK
    obtain ⟨ak, gk⟩ : ∃ z, z = h0.size := ⟨_, rfl⟩
    rw [← gk] at AK ⊢
    refine Xk.cast 13 (hw _ (List.mem_of_getElem? (i := 98) rfl)) (AK.exa) (by decide +kernel) ?_
    intro Tk2 Xk2
    exact Xk2.retA (by decide +kernel) rfl rfl rfl (by decide) (by decide) (⟨_, rfl, by rw [show n.toNatClampNeg = vs.length by rw [c3, hlv], own_rsz_eq]; exact AK, (Keep.refl h0 []).ext Ek, by rw [gk]; exact Nat.le_refl _⟩)
set_option maxRecDepth 65536 in
set_option maxHeartbeats 40000000 in
theorem rm_cp8 (l : Launch) (Z : State) (a0 : Array Value) (hw : ∀ d ∈ tables_1, d.before a0 Z = true) (a1 : Addr) (n lv : Int32) (vs : List Value) (h0 : Heap) (n0 : Nat) (Z0 : n0 ≤ h0.size) (A : AV Z h0 a1 .long vs) (r1 : 0 ≤ n.toInt) (r7 : n.toInt ≤ 7) (hlv : vs.length = lv.toNatClampNeg) (s1 : 0 ≤ lv.toInt) (s7 : lv.toInt ≤ 7) :
    Cnt l Z (⟨"java/util/Arrays", "copyOf", "([JI)[J"⟩ : MethodName) jdk_65_method_124_code 3 (some (.array .long)) ({ frames := 1, cells := 1, slots := 8, locals := 40 } : Room) n0 #[(.ref a1), (.int n)] h0 (fun v h => ∃ a', v = some (.ref a') ∧ AV Z h a' .long (rsz vs n.toNatClampNeg (.long 0)) ∧ Keep h0 h [] ∧ h0.size ≤ a') := by
  refine Cnt.mk (by first | exact plainFor_of_name (by first | (simp [plainName, overriddenIn]; done) | decide +kernel) | decide +kernel) Z0 ?_
  intro p e s m below meth c T X
  refine Go.cast (g' := mkF m 0 #[.val (.ref a1), .val (.int n), .unset] []) (by first | (simp [entryFrame, mkF, argsToLocals, Value.category, maxLocals]; done) | rfl) ?_
  have hK : (∀ q ∈ ([] : List (Nat × Int32)), (Jvm.Cond.constant "java/util/Arrays" q.1 q.2).before a0 Z = true) ∧ (∀ q ∈ ([] : List (Nat × Int64)), (Jvm.Cond.constantLong "java/util/Arrays" q.1 q.2).before a0 Z = true) :=
    ⟨(fun q hq => nomatch hq), (fun q hq => nomatch hq)⟩
  have n_n := own_nat r1
  have n_l := own_nat s1
  have e_l : vs.length.toInt32 = lv := by rw [hlv]; exact (back32 (own_nn s1)).1
  refine X.blk hK (L := [(.iload_n 1, 1, 0, 0), (.aload_n 0, 1, 0, 0)]) (pc' := 2) (ls' := #[.val (.ref a1), .val (.int n), .unset]) (st' := [(.ref a1), (.int n)]) (by decide +kernel) rfl ?_
  refine X.alen 3 (n := lv) A (by decide +kernel) (e_l) ?_
  refine X.icmp .ne (11) 14 6 (by decide +kernel) (fun (c3 : ¬ n = lv) => ?_) (fun (c3 : n = lv) => ?_)
  · refine X.blk hK (L := [(.iload_n 1, 1, 0, 0)]) (pc' := 15) (ls' := #[.val (.ref a1), .val (.int n), .unset]) (st' := [(.int n)]) (by decide +kernel) rfl ?_
    refine X.newarr 17 8 (aty := .long) (hw _ (List.mem_of_getElem? (i := 55) rfl)) rfl (by decide +kernel) (own_nn r1) (by omega) (by decide) ?_
    intro Tn hn Xn En A1
    obtain ⟨an, gn⟩ : ∃ z, z = h0.size := ⟨_, rfl⟩
    rw [← gn] at A1 ⊢
    have A1 : AV Z hn an .long (List.replicate n.toNatClampNeg (.long 0)) := A1
    have A0 := A.ext En
    refine Xn.blk hK (L := [(.astore_n 2, 1, 0, 0), (.aload_n 0, 1, 0, 0), (.iconst 0, 1, 0, 0), (.aload_n 2, 1, 0, 0), (.iconst 0, 1, 0, 0), (.aload_n 0, 1, 0, 0)]) (pc' := 23) (ls' := #[.val (.ref a1), .val (.int n), .val (.ref an)]) (st' := [(.ref a1), (.int (0 : Int32)), (.ref an), (.int (0 : Int32)), (.ref a1)]) (by decide +kernel) rfl ?_
    refine Xn.alen 24 (n := lv) A0 (by decide +kernel) (e_l) ?_
    refine Xn.blk hK (L := [(.iload_n 1, 1, 0, 0)]) (pc' := 25) (ls' := #[.val (.ref a1), .val (.int n), .val (.ref an)]) (st' := [(.int n), (.int lv), (.int (0 : Int32)), (.ref an), (.int (0 : Int32)), (.ref a1)]) (by decide +kernel) rfl ?_
    refine Xn.callS 28 4 (argsL := [(.int lv), (.int n)]) (rest := [(.int (0 : Int32)), (.ref an), (.int (0 : Int32)), (.ref a1)]) (rm_min l Z a0 hw lv n hn n0 Xn.size) (hw _ (List.mem_of_getElem? (i := 72) rfl)) (hw _ (List.mem_of_getElem? (i := 73) rfl)) (hw _ (List.mem_of_getElem? (i := 74) rfl)) (hw _ (List.mem_of_getElem? (i := 75) rfl)) (by decide) (ps := [.int, .int]) (r := some .int) (by decide +kernel) rfl rfl rfl rfl (by decide +kernel) (by decide) ?_
    rintro Tm hm vm Xm ⟨rfl, rfl⟩
    show Go p e below s _ n0 _ (Tm.setTop (mkF m 28 #[.val (.ref a1), .val (.int n), .val (.ref an)] [(.int (fMin lv n)), (.int (0 : Int32)), (.ref an), (.int (0 : Int32)), (.ref a1)]))
    obtain ⟨m1, m2⟩ := own_min s1 r1
    have z0 : (0 : Int32).toNatClampNeg = 0 := rfl
    refine Xm.acopy 31 0 (.long 0) A0 A1 rfl (hw _ (List.mem_of_getElem? (i := 76) rfl)) (hw _ (List.mem_of_getElem? (i := 79) rfl)) (hw _ (List.mem_of_getElem? (i := 77) rfl)) (hw _ (List.mem_of_getElem? (i := 78) rfl)) (by decide) (by decide) (own_nn m1) (by rw [z0]; omega) (by rw [z0, List.length_replicate]; omega) (by rw [gn]; exact Z0) rfl rfl (by decide +kernel) (by decide) ?_
    intro Tc hc Xc Kc AC
    have AC2 : AV Z hc an .long (rsz vs n.toNatClampNeg (.long 0)) := by
      have q := own_rsz_cp vs n.toNatClampNeg (fMin lv n).toNatClampNeg (.long 0) (by rw [m2]; omega)
      rw [← q]; exact AC
    refine Xc.blk hK (L := [(.aload_n 2, 1, 0, 0)]) (pc' := 32) (ls' := #[.val (.ref a1), .val (.int n), .val (.ref an)]) (st' := [(.ref an)]) (by decide +kernel) rfl ?_
    exact Xc.retA (by decide +kernel) rfl rfl rfl (by decide) (by decide) (⟨_, rfl, AC2, ((Keep.refl h0 []).ext En).trans Kc (fun y hy => Or.inr (by cases List.mem_singleton.mp hy; rw [gn]; exact Nat.le_refl _)), by rw [gn]; exact Nat.le_refl _⟩)
  · refine X.blk hK (L := [(.aload_n 0, 1, 0, 0)]) (pc' := 7) (ls' := #[.val (.ref a1), .val (.int n), .unset]) (st' := [(.ref a1)]) (by decide +kernel) rfl ?_
    refine X.clone 10 0 8 A (by decide) (hw _ (List.mem_of_getElem? (i := 88) rfl)) (hw _ (List.mem_of_getElem? (i := 89) rfl)) (hw _ (List.mem_of_getElem? (i := 36) rfl)) (hw _ (List.mem_of_getElem? (i := 34) rfl)) (hw _ (List.mem_of_getElem? (i := 90) rfl)) (hw _ (List.mem_of_getElem? (i := 91) rfl)) rfl rfl (by decide +kernel) (by omega) (by decide) ?_
    intro Tk hk Xk Ek AK
    obtain ⟨ak, gk⟩ : ∃ z, z = h0.size := ⟨_, rfl⟩
    rw [← gk] at AK ⊢
    refine Xk.cast 13 (hw _ (List.mem_of_getElem? (i := 92) rfl)) (AK.exa) (by decide +kernel) ?_
    intro Tk2 Xk2
    exact Xk2.retA (by decide +kernel) rfl rfl rfl (by decide) (by decide) (⟨_, rfl, by rw [show n.toNatClampNeg = vs.length by rw [c3, hlv], own_rsz_eq]; exact AK, (Keep.refl h0 []).ext Ek, by rw [gk]; exact Nat.le_refl _⟩)
set_option maxRecDepth 65536 in
set_option maxHeartbeats 40000000 in
theorem rm_rs1 (l : Launch) (Z : State) (a0 : Array Value) (hw : ∀ d ∈ tables_1, d.before a0 Z = true) (a ar : Addr) (n k : Int32) (xs : List Int64) (h0 : Heap) (n0 : Nat) (Z0 : n0 ≤ h0.size) (I : CI1 Z h0 n0 a ar n xs) (k1 : 0 ≤ k.toInt) (k7 : k.toInt ≤ 7) :
    Cnt l Z (⟨"com/example/millrace/millrace/examples/CompactIntegers", "resize", "(I)V"⟩ : MethodName) prog_16_method_6_code 2 none ({ frames := 2, cells := 1, slots := 8, locals := 56 } : Room) n0 #[(.ref a), (.int k)] h0 (fun v h => v = none ∧ CIx Z h n0 a k (rsz xs k.toNatClampNeg 0)) := by
  refine Cnt.mk (by first | exact plainFor_of_name (by first | (simp [plainName, overriddenIn]; done) | decide +kernel) | decide +kernel) Z0 ?_
  intro p e s m below meth c T X
  refine Go.cast (g' := mkF m 0 #[.val (.ref a), .val (.int k)] []) (by first | (simp [entryFrame, mkF, argsToLocals, Value.category, maxLocals]; done) | rfl) ?_
  have hK : (∀ q ∈ ([] : List (Nat × Int32)), (Jvm.Cond.constant "com/example/millrace/millrace/examples/CompactIntegers" q.1 q.2).before a0 Z = true) ∧ (∀ q ∈ ([] : List (Nat × Int64)), (Jvm.Cond.constantLong "com/example/millrace/millrace/examples/CompactIntegers" q.1 q.2).before a0 Z = true) :=
    ⟨(fun q hq => nomatch hq), (fun q hq => nomatch hq)⟩
  obtain ⟨⟨EX, na, nr, nar⟩, ⟨FW, FA⟩, ⟨AA, HF, LN, r1, r7⟩, ⟨v1, v2, v4, v8, F1, F2, F4, F8⟩⟩ := I
  refine X.blk hK (L := [(.aload_n 0, 1, 0, 0)]) (pc' := 1) (ls' := #[.val (.ref a), .val (.int k)]) (st' := [(.ref a)]) (by decide +kernel) rfl ?_
  refine X.getf 4 (hw _ (List.mem_of_getElem? (i := 12) rfl)) FW (by decide +kernel) ?_
  intro T1 X1
  refine X1.tsw 36 (df := 77) (lo := 1) (hi := 4) (offs := #[32, 47, 77, 62]) (n := 32) (by decide +kernel) ?_
  refine X1.blk hK (L := [(.aload_n 0, 1, 0, 0), (.aload_n 0, 1, 0, 0)]) (pc' := 38) (ls' := #[.val (.ref a), .val (.int k)]) (st' := [(.ref a), (.ref a)]) (by decide +kernel) rfl ?_
  refine X1.getf 41 (hw _ (List.mem_of_getElem? (i := 15) rfl)) FA (by decide +kernel) ?_
  intro T2 X2
  refine X2.blk hK (L := [(.iload_n 1, 1, 0, 0)]) (pc' := 42) (ls' := #[.val (.ref a), .val (.int k)]) (st' := [(.int k), (.ref ar), (.ref a)]) (by decide +kernel) rfl ?_
  refine X2.callS 45 1 (argsL := [(.ref ar), (.int k)]) (rest := [(.ref a)]) (rm_cp1 l Z a0 hw ar k n _ h0 n0 Z0 AA k1 k7 (by rw [List.length_map]; exact LN) r1 r7) (hw _ (List.mem_of_getElem? (i := 27) rfl)) (hw _ (List.mem_of_getElem? (i := 28) rfl)) (hw _ (List.mem_of_getElem? (i := 29) rfl)) (hw _ (List.mem_of_getElem? (i := 30) rfl)) (by decide) (ps := [(.array .byte), .int]) (r := some (.array .byte)) (by decide +kernel) rfl rfl rfl rfl (by decide +kernel) (by decide) ?_
  rintro Tc hc vc Xc ⟨ac, rfl, AC, KC, gac⟩
  show Go p e below s _ n0 _ (Tc.setTop (mkF m 45 #[.val (.ref a), .val (.int k)] [(.ref ac), (.ref a)]))
  have nac : a ≠ ac := Nat.ne_of_lt (Nat.lt_of_lt_of_le FW.lt gac)
  refine Xc.putf 48 (hw _ (List.mem_of_getElem? (i := 15) rfl)) (FA.keep KC nin0) (EX.keep KC) (Or.inl (hw _ (List.mem_of_getElem? (i := 16) rfl))) (hw _ (List.mem_of_getElem? (i := 1) rfl)) (ty := (.array .byte)) (by decide) rfl (rfl) (na) (by decide +kernel) ?_
  intro T3 h3 X3 W3
  refine X3.blk hK (L := [(.goto 45, 3, 0, 93)]) (pc' := 93) (ls' := #[.val (.ref a), .val (.int k)]) (st' := []) (by decide +kernel) rfl ?_
  exact X3.retV (by decide +kernel) (by decide) (by decide) (⟨rfl, ac, Or.inl (⟨⟨(EX.keep KC).wr W3, na, Nat.le_trans Z0 gac, nac⟩, ⟨(FW.keep KC nin0).other W3 (Or.inr (slot_ne (t := .int) (t' := .array .byte) (Or.inl (hw _ (List.mem_of_getElem? (i := 13) rfl))) (Or.inl (hw _ (List.mem_of_getElem? (i := 16) rfl))) (by decide) (by decide) (by decide))), (FA.keep KC nin0).same W3⟩, ⟨by rw [← own_rsz_map]; exact AC.other W3 nac.symm, own_rsz_mem HF (by decide), own_rsz_len _ _ _, k1, k7⟩, ⟨_, _, _, _, (F1.keep KC nin0).same W3, (F2.keep KC nin0).other W3 (Or.inr (slot_ne (t := .array .short) (t' := .array .byte) (Or.inl (hw _ (List.mem_of_getElem? (i := 65) rfl))) (Or.inl (hw _ (List.mem_of_getElem? (i := 16) rfl))) (by decide) (by decide) (by decide))), (F4.keep KC nin0).other W3 (Or.inr (slot_ne (t := .array .int) (t' := .array .byte) (Or.inl (hw _ (List.mem_of_getElem? (i := 67) rfl))) (Or.inl (hw _ (List.mem_of_getElem? (i := 16) rfl))) (by decide) (by decide) (by decide))), (F8.keep KC nin0).other W3 (Or.inr (slot_ne (t := .array .long) (t' := .array .byte) (Or.inl (hw _ (List.mem_of_getElem? (i := 57) rfl))) (Or.inl (hw _ (List.mem_of_getElem? (i := 16) rfl))) (by decide) (by decide) (by decide)))⟩⟩)⟩)
set_option maxRecDepth 65536 in
set_option maxHeartbeats 40000000 in
theorem rm_rs2 (l : Launch) (Z : State) (a0 : Array Value) (hw : ∀ d ∈ tables_1, d.before a0 Z = true) (a ar : Addr) (n k : Int32) (xs : List Int64) (h0 : Heap) (n0 : Nat) (Z0 : n0 ≤ h0.size) (I : CI2 Z h0 n0 a ar n xs) (k1 : 0 ≤ k.toInt) (k7 : k.toInt ≤ 7) :
    Cnt l Z (⟨"com/example/millrace/millrace/examples/CompactIntegers", "resize", "(I)V"⟩ : MethodName) prog_16_method_6_code 2 none ({ frames := 2, cells := 1, slots := 8, locals := 56 } : Room) n0 #[(.ref a), (.int k)] h0 (fun v h => v = none ∧ CIx Z h n0 a k (rsz xs k.toNatClampNeg 0)) := by
  refine Cnt.mk (by first | exact plainFor_of_name (by first | (simp [plainName, overriddenIn]; done) | decide +kernel) | decide +kernel) Z0 ?_
  intro p e s m below meth c T X
  refine Go.cast (g' := mkF m 0 #[.val (.ref a), .val (.int k)] []) (by first | (simp [entryFrame, mkF, argsToLocals, Value.category, maxLocals]; done) | rfl) ?_
  have hK : (∀ q ∈ ([] : List (Nat × Int32)), (Jvm.Cond.constant "com/example/millrace/millrace/examples/CompactIntegers" q.1 q.2).before a0 Z = true) ∧ (∀ q ∈ ([] : List (Nat × Int64)), (Jvm.Cond.constantLong "com/example/millrace/millrace/examples/CompactIntegers" q.1 q.2).before a0 Z = true) :=
    ⟨(fun q hq => nomatch hq), (fun q hq => nomatch hq)⟩
  obtain ⟨⟨EX, na, nr, nar⟩, ⟨FW, FA⟩, ⟨AA, HF, LN, r1, r7⟩, ⟨v1, v2, v4, v8, F1, F2, F4, F8⟩⟩ := I
  refine X.blk hK (L := [(.aload_n 0, 1, 0, 0)]) (pc' := 1) (ls' := #[.val (.ref a), .val (.int k)]) (st' := [(.ref a)]) (by decide +kernel) rfl ?_
  refine X.getf 4 (hw _ (List.mem_of_getElem? (i := 12) rfl)) FW (by decide +kernel) ?_
  intro T1 X1
  refine X1.tsw 51 (df := 77) (lo := 1) (hi := 4) (offs := #[32, 47, 77, 62]) (n := 32) (by decide +kernel) ?_
  refine X1.blk hK (L := [(.aload_n 0, 1, 0, 0), (.aload_n 0, 1, 0, 0)]) (pc' := 53) (ls' := #[.val (.ref a), .val (.int k)]) (st' := [(.ref a), (.ref a)]) (by decide +kernel) rfl ?_
  refine X1.getf 56 (hw _ (List.mem_of_getElem? (i := 64) rfl)) FA (by decide +kernel) ?_
  intro T2 X2
  refine X2.blk hK (L := [(.iload_n 1, 1, 0, 0)]) (pc' := 57) (ls' := #[.val (.ref a), .val (.int k)]) (st' := [(.int k), (.ref ar), (.ref a)]) (by decide +kernel) rfl ?_
  refine X2.callS 60 1 (argsL := [(.ref ar), (.int k)]) (rest := [(.ref a)]) (rm_cp2 l Z a0 hw ar k n _ h0 n0 Z0 AA k1 k7 (by rw [List.length_map]; exact LN) r1 r7) (hw _ (List.mem_of_getElem? (i := 85) rfl)) (hw _ (List.mem_of_getElem? (i := 86) rfl)) (hw _ (List.mem_of_getElem? (i := 29) rfl)) (hw _ (List.mem_of_getElem? (i := 87) rfl)) (by decide) (ps := [(.array .short), .int]) (r := some (.array .short)) (by decide +kernel) rfl rfl rfl rfl (by decide +kernel) (by decide) ?_
  rintro Tc hc vc Xc ⟨ac, rfl, AC, KC, gac⟩
  show Go p e below s _ n0 _ (Tc.setTop (mkF m 60 #[.val (.ref a), .val (.int k)] [(.ref ac), (.ref a)]))
  have nac : a ≠ ac := Nat.ne_of_lt (Nat.lt_of_lt_of_le FW.lt gac)
  refine Xc.putf 63 (hw _ (List.mem_of_getElem? (i := 64) rfl)) (FA.keep KC nin0) (EX.keep KC) (Or.inl (hw _ (List.mem_of_getElem? (i := 65) rfl))) (hw _ (List.mem_of_getElem? (i := 1) rfl)) (ty := (.array .short)) (by decide) rfl (rfl) (na) (by decide +kernel) ?_
  intro T3 h3 X3 W3
  refine X3.blk hK (L := [(.goto 30, 3, 0, 93)]) (pc' := 93) (ls' := #[.val (.ref a), .val (.int k)]) (st' := []) (by decide +kernel) rfl ?_
  exact X3.retV (by decide +kernel) (by decide) (by decide) (⟨rfl, ac, Or.inr (Or.inl (⟨⟨(EX.keep KC).wr W3, na, Nat.le_trans Z0 gac, nac⟩, ⟨(FW.keep KC nin0).other W3 (Or.inr (slot_ne (t := .int) (t' := .array .short) (Or.inl (hw _ (List.mem_of_getElem? (i := 13) rfl))) (Or.inl (hw _ (List.mem_of_getElem? (i := 65) rfl))) (by decide) (by decide) (by decide))), (FA.keep KC nin0).same W3⟩, ⟨by rw [← own_rsz_map]; exact AC.other W3 nac.symm, own_rsz_mem HF (by decide), own_rsz_len _ _ _, k1, k7⟩, ⟨_, _, _, _, (F1.keep KC nin0).other W3 (Or.inr (slot_ne (t := .array .byte) (t' := .array .short) (Or.inl (hw _ (List.mem_of_getElem? (i := 16) rfl))) (Or.inl (hw _ (List.mem_of_getElem? (i := 65) rfl))) (by decide) (by decide) (by decide))), (F2.keep KC nin0).same W3, (F4.keep KC nin0).other W3 (Or.inr (slot_ne (t := .array .int) (t' := .array .short) (Or.inl (hw _ (List.mem_of_getElem? (i := 67) rfl))) (Or.inl (hw _ (List.mem_of_getElem? (i := 65) rfl))) (by decide) (by decide) (by decide))), (F8.keep KC nin0).other W3 (Or.inr (slot_ne (t := .array .long) (t' := .array .short) (Or.inl (hw _ (List.mem_of_getElem? (i := 57) rfl))) (Or.inl (hw _ (List.mem_of_getElem? (i := 65) rfl))) (by decide) (by decide) (by decide)))⟩⟩))⟩)
set_option maxRecDepth 65536 in
set_option maxHeartbeats 40000000 in
theorem rm_rs4 (l : Launch) (Z : State) (a0 : Array Value) (hw : ∀ d ∈ tables_1, d.before a0 Z = true) (a ar : Addr) (n k : Int32) (xs : List Int64) (h0 : Heap) (n0 : Nat) (Z0 : n0 ≤ h0.size) (I : CI4 Z h0 n0 a ar n xs) (k1 : 0 ≤ k.toInt) (k7 : k.toInt ≤ 7) :
    Cnt l Z (⟨"com/example/millrace/millrace/examples/CompactIntegers", "resize", "(I)V"⟩ : MethodName) prog_16_method_6_code 2 none ({ frames := 2, cells := 1, slots := 8, locals := 56 } : Room) n0 #[(.ref a), (.int k)] h0 (fun v h => v = none ∧ CIx Z h n0 a k (rsz xs k.toNatClampNeg 0)) := by
  refine Cnt.mk (by first | exact plainFor_of_name (by first | (simp [plainName, overriddenIn]; done) | decide +kernel) | decide +kernel) Z0 ?_
  intro p e s m below meth c T X
  refine Go.cast (g' := mkF m 0 #[.val (.ref a), .val (.int k)] []) (by first | (simp [entryFrame, mkF, argsToLocals, Value.category, maxLocals]; done) | rfl) ?_
  have hK : (∀ q ∈ ([] : List (Nat × Int32)), (Jvm.Cond.constant "com/example/millrace/millrace/examples/CompactIntegers" q.1 q.2).before a0 Z = true) ∧ (∀ q ∈ ([] : List (Nat × Int64)), (Jvm.Cond.constantLong "com/example/millrace/millrace/examples/CompactIntegers" q.1 q.2).before a0 Z = true) :=
    ⟨(fun q hq => nomatch hq), (fun q hq => nomatch hq)⟩
  obtain ⟨⟨EX, na, nr, nar⟩, ⟨FW, FA⟩, ⟨AA, HF, LN, r1, r7⟩, ⟨v1, v2, v4, v8, F1, F2, F4, F8⟩⟩ := I
  refine X.blk hK (L := [(.aload_n 0, 1, 0, 0)]) (pc' := 1) (ls' := #[.val (.ref a), .val (.int k)]) (st' := [(.ref a)]) (by decide +kernel) rfl ?_
  refine X.getf 4 (hw _ (List.mem_of_getElem? (i := 12) rfl)) FW (by decide +kernel) ?_
  intro T1 X1
  refine X1.tsw 66 (df := 77) (lo := 1) (hi := 4) (offs := #[32, 47, 77, 62]) (n := 32) (by decide +kernel) ?_
  refine X1.blk hK (L := [(.aload_n 0, 1, 0, 0), (.aload_n 0, 1, 0, 0)]) (pc' := 68) (ls' := #[.val (.ref a), .val (.int k)]) (st' := [(.ref a), (.ref a)]) (by decide +kernel) rfl ?_
  refine X1.getf 71 (hw _ (List.mem_of_getElem? (i := 66) rfl)) FA (by decide +kernel) ?_
  intro T2 X2
  refine X2.blk hK (L := [(.iload_n 1, 1, 0, 0)]) (pc' := 72) (ls' := #[.val (.ref a), .val (.int k)]) (st' := [(.int k), (.ref ar), (.ref a)]) (by decide +kernel) rfl ?_
  refine X2.callS 75 1 (argsL := [(.ref ar), (.int k)]) (rest := [(.ref a)]) (rm_cp4 l Z a0 hw ar k n _ h0 n0 Z0 AA k1 k7 (by rw [List.length_map]; exact LN) r1 r7) (hw _ (List.mem_of_getElem? (i := 81) rfl)) (hw _ (List.mem_of_getElem? (i := 82) rfl)) (hw _ (List.mem_of_getElem? (i := 29) rfl)) (hw _ (List.mem_of_getElem? (i := 83) rfl)) (by decide) (ps := [(.array .int), .int]) (r := some (.array .int)) (by decide +kernel) rfl rfl rfl rfl (by decide +kernel) (by decide) ?_
  rintro Tc hc vc Xc ⟨ac, rfl, AC, KC, gac⟩
  show Go p e below s _ n0 _ (Tc.setTop (mkF m 75 #[.val (.ref a), .val (.int k)] [(.ref ac), (.ref a)]))
  have nac : a ≠ ac := Nat.ne_of_lt (Nat.lt_of_lt_of_le FW.lt gac)
  refine Xc.putf 78 (hw _ (List.mem_of_getElem? (i := 66) rfl)) (FA.keep KC nin0) (EX.keep KC) (Or.inl (hw _ (List.mem_of_getElem? (i := 67) rfl))) (hw _ (List.mem_of_getElem? (i := 1) rfl)) (ty := (.array .int)) (by decide) rfl (rfl) (na) (by decide +kernel) ?_
  intro T3 h3 X3 W3
  refine X3.blk hK (L := [(.goto 15, 3, 0, 93)]) (pc' := 93) (ls' := #[.val (.ref a), .val (.int k)]) (st' := []) (by decide +kernel) rfl ?_
  exact X3.retV (by decide +kernel) (by decide) (by decide) (⟨rfl, ac, Or.inr (Or.inr (Or.inl (⟨⟨(EX.keep KC).wr W3, na, Nat.le_trans Z0 gac, nac⟩, ⟨(FW.keep KC nin0).other W3 (Or.inr (slot_ne (t := .int) (t' := .array .int) (Or.inl (hw _ (List.mem_of_getElem? (i := 13) rfl))) (Or.inl (hw _ (List.mem_of_getElem? (i := 67) rfl))) (by decide) (by decide) (by decide))), (FA.keep KC nin0).same W3⟩, ⟨by rw [← own_rsz_map]; exact AC.other W3 nac.symm, own_rsz_mem HF (by decide), own_rsz_len _ _ _, k1, k7⟩, ⟨_, _, _, _, (F1.keep KC nin0).other W3 (Or.inr (slot_ne (t := .array .byte) (t' := .array .int) (Or.inl (hw _ (List.mem_of_getElem? (i := 16) rfl))) (Or.inl (hw _ (List.mem_of_getElem? (i := 67) rfl))) (by decide) (by decide) (by decide))), (F2.keep KC nin0).other W3 (Or.inr (slot_ne (t := .array .short) (t' := .array .int) (Or.inl (hw _ (List.mem_of_getElem? (i := 65) rfl))) (Or.inl (hw _ (List.mem_of_getElem? (i := 67) rfl))) (by decide) (by decide) (by decide))), (F4.keep KC nin0).same W3, (F8.keep KC nin0).other W3 (Or.inr (slot_ne (t := .array .long) (t' := .array .int) (Or.inl (hw _ (List.mem_of_getElem? (i := 57) rfl))) (Or.inl (hw _ (List.mem_of_getElem? (i := 67) rfl))) (by decide) (by decide) (by decide)))⟩⟩)))⟩)
set_option maxRecDepth 65536 in
set_option maxHeartbeats 40000000 in
theorem rm_rs8 (l : Launch) (Z : State) (a0 : Array Value) (hw : ∀ d ∈ tables_1, d.before a0 Z = true) (a ar : Addr) (n k : Int32) (xs : List Int64) (h0 : Heap) (n0 : Nat) (Z0 : n0 ≤ h0.size) (I : CI8 Z h0 n0 a ar n xs) (k1 : 0 ≤ k.toInt) (k7 : k.toInt ≤ 7) :
    Cnt l Z (⟨"com/example/millrace/millrace/examples/CompactIntegers", "resize", "(I)V"⟩ : MethodName) prog_16_method_6_code 2 none ({ frames := 2, cells := 1, slots := 8, locals := 56 } : Room) n0 #[(.ref a), (.int k)] h0 (fun v h => v = none ∧ CIx Z h n0 a k (rsz xs k.toNatClampNeg 0)) := by
  refine Cnt.mk (by first | exact plainFor_of_name (by first | (simp [plainName, overriddenIn]; done) | decide +kernel) | decide +kernel) Z0 ?_
  intro p e s m below meth c T X
  refine Go.cast (g' := mkF m 0 #[.val (.ref a), .val (.int k)] []) (by first | (simp [entryFrame, mkF, argsToLocals, Value.category, maxLocals]; done) | rfl) ?_
  have hK : (∀ q ∈ ([] : List (Nat × Int32)), (Jvm.Cond.constant "com/example/millrace/millrace/examples/CompactIntegers" q.1 q.2).before a0 Z = true) ∧ (∀ q ∈ ([] : List (Nat × Int64)), (Jvm.Cond.constantLong "com/example/millrace/millrace/examples/CompactIntegers" q.1 q.2).before a0 Z = true) :=
    ⟨(fun q hq => nomatch hq), (fun q hq => nomatch hq)⟩
  obtain ⟨⟨EX, na, nr, nar⟩, ⟨FW, FA⟩, ⟨AA, HF, LN, r1, r7⟩, ⟨v1, v2, v4, v8, F1, F2, F4, F8⟩⟩ := I
  refine X.blk hK (L := [(.aload_n 0, 1, 0, 0)]) (pc' := 1) (ls' := #[.val (.ref a), .val (.int k)]) (st' := [(.ref a)]) (by decide +kernel) rfl ?_
  refine X.getf 4 (hw _ (List.mem_of_getElem? (i := 12) rfl)) FW (by decide +kernel) ?_
  intro T1 X1
  refine X1.tsw 81 (df := 77) (lo := 1) (hi := 4) (offs := #[32, 47, 77, 62]) (n := 32) (by decide +kernel) ?_
  refine X1.blk hK (L := [(.aload_n 0, 1, 0, 0), (.aload_n 0, 1, 0, 0)]) (pc' := 83) (ls' := #[.val (.ref a), .val (.int k)]) (st' := [(.ref a), (.ref a)]) (by decide +kernel) rfl ?_
  refine X1.getf 86 (hw _ (List.mem_of_getElem? (i := 56) rfl)) FA (by decide +kernel) ?_
  intro T2 X2
  refine X2.blk hK (L := [(.iload_n 1, 1, 0, 0)]) (pc' := 87) (ls' := #[.val (.ref a), .val (.int k)]) (st' := [(.int k), (.ref ar), (.ref a)]) (by decide +kernel) rfl ?_
  refine X2.callS 90 1 (argsL := [(.ref ar), (.int k)]) (rest := [(.ref a)]) (rm_cp8 l Z a0 hw ar k n _ h0 n0 Z0 AA k1 k7 (by rw [List.length_map]; exact LN) r1 r7) (hw _ (List.mem_of_getElem? (i := 69) rfl)) (hw _ (List.mem_of_getElem? (i := 70) rfl)) (hw _ (List.mem_of_getElem? (i := 29) rfl)) (hw _ (List.mem_of_getElem? (i := 71) rfl)) (by decide) (ps := [(.array .long), .int]) (r := some (.array .long)) (by decide +kernel) rfl rfl rfl rfl (by decide +kernel) (by decide) ?_
  rintro Tc hc vc Xc ⟨ac, rfl, AC, KC, gac⟩
  show Go p e below s _ n0 _ (Tc.setTop (mkF m 90 #[.val (.ref a), .val (.int k)] [(.ref ac), (.ref a)]))
  have nac : a ≠ ac := Nat.ne_of_lt (Nat.lt_of_lt_of_le FW.lt gac)
  refine Xc.putf 93 (hw _ (List.mem_of_getElem? (i := 56) rfl)) (FA.keep KC nin0) (EX.keep KC) (Or.inl (hw _ (List.mem_of_getElem? (i := 57) rfl))) (hw _ (List.mem_of_getElem? (i := 1) rfl)) (ty := (.array .long)) (by decide) rfl (rfl) (na) (by decide +kernel) ?_
  intro T3 h3 X3 W3
  exact X3.retV (by decide +kernel) (by decide) (by decide) (⟨rfl, ac, Or.inr (Or.inr (Or.inr (⟨⟨(EX.keep KC).wr W3, na, Nat.le_trans Z0 gac, nac⟩, ⟨(FW.keep KC nin0).other W3 (Or.inr (slot_ne (t := .int) (t' := .array .long) (Or.inl (hw _ (List.mem_of_getElem? (i := 13) rfl))) (Or.inl (hw _ (List.mem_of_getElem? (i := 57) rfl))) (by decide) (by decide) (by decide))), (FA.keep KC nin0).same W3⟩, ⟨by rw [← own_rsz_map]; exact AC.other W3 nac.symm, own_rsz_mem HF (Or.inl trivial), own_rsz_len _ _ _, k1, k7⟩, ⟨_, _, _, _, (F1.keep KC nin0).other W3 (Or.inr (slot_ne (t := .array .byte) (t' := .array .long) (Or.inl (hw _ (List.mem_of_getElem? (i := 16) rfl))) (Or.inl (hw _ (List.mem_of_getElem? (i := 57) rfl))) (by decide) (by decide) (by decide))), (F2.keep KC nin0).other W3 (Or.inr (slot_ne (t := .array .short) (t' := .array .long) (Or.inl (hw _ (List.mem_of_getElem? (i := 65) rfl))) (Or.inl (hw _ (List.mem_of_getElem? (i := 57) rfl))) (by decide) (by decide) (by decide))), (F4.keep KC nin0).other W3 (Or.inr (slot_ne (t := .array .int) (t' := .array .long) (Or.inl (hw _ (List.mem_of_getElem? (i := 67) rfl))) (Or.inl (hw _ (List.mem_of_getElem? (i := 57) rfl))) (by decide) (by decide) (by decide))), (F8.keep KC nin0).same W3⟩⟩)))⟩)
theorem rm_len (l : Launch) (Z : State) (a0 : Array Value) (hw : ∀ d ∈ tables_1, d.before a0 Z = true) (a : Addr) (n : Int32) (xs : List Int64) (h0 : Heap) (n0 : Nat) (Z0 : n0 ≤ h0.size) (I : CIx Z h0 n0 a n xs) :
    Cnt l Z (⟨"com/example/millrace/millrace/examples/CompactIntegers", "length", "()I"⟩ : MethodName) prog_16_method_3_code 1 (some .int) ({ frames := 0, cells := 0, slots := 0, locals := 0 } : Room) n0 #[.ref a] h0 (fun v h => v = some (.int n) ∧ h0 = h) := by
  obtain ⟨ar, I | I | I | I⟩ := I
  · exact rm_len1 l Z a0 hw a ar n xs h0 n0 Z0 I
  · exact rm_len2 l Z a0 hw a ar n xs h0 n0 Z0 I
  · exact rm_len4 l Z a0 hw a ar n xs h0 n0 Z0 I
  · exact rm_len8 l Z a0 hw a ar n xs h0 n0 Z0 I
theorem rm_rs (l : Launch) (Z : State) (a0 : Array Value) (hw : ∀ d ∈ tables_1, d.before a0 Z = true) (a : Addr) (n k : Int32) (xs : List Int64) (h0 : Heap) (n0 : Nat) (Z0 : n0 ≤ h0.size) (I : CIx Z h0 n0 a n xs) (k1 : 0 ≤ k.toInt) (k7 : k.toInt ≤ 7) :
    Cnt l Z (⟨"com/example/millrace/millrace/examples/CompactIntegers", "resize", "(I)V"⟩ : MethodName) prog_16_method_6_code 2 none ({ frames := 2, cells := 1, slots := 8, locals := 56 } : Room) n0 #[.ref a, .int k] h0 (fun v h => v = none ∧ CIx Z h n0 a k (rsz xs k.toNatClampNeg 0)) := by
  obtain ⟨ar, I | I | I | I⟩ := I
  · exact rm_rs1 l Z a0 hw a ar n k xs h0 n0 Z0 I k1 k7
  · exact rm_rs2 l Z a0 hw a ar n k xs h0 n0 Z0 I k1 k7
  · exact rm_rs4 l Z a0 hw a ar n k xs h0 n0 Z0 I k1 k7
  · exact rm_rs8 l Z a0 hw a ar n k xs h0 n0 Z0 I k1 k7
set_option maxRecDepth 65536 in
set_option maxHeartbeats 40000000 in
theorem rm_law (l : Launch) (Z : State) (a0 : Array Value) (hw : ∀ d ∈ tables_1, d.before a0 Z = true) (p1 p2 : Int32) (p3 : Int64) (p4 p5 : Int32) (p6 : Int64) (h0 : Heap) (n0 : Nat) (Z0 : n0 ≤ h0.size)  :
    Cnt l Z x code maxLocals ret room_1 n0 #[(.int p1), (.int p2), (.long p3), (.int p4), (.int p5), (.long p6)] h0 (fun v h => v = some (.int 1)) := by
  refine Cnt.mk (by first | exact plainFor_of_name (by first | (simp [plainName, overriddenIn]; done) | decide +kernel) | decide +kernel) Z0 ?_
  intro p e s m below meth c T X
  refine Go.cast (g' := mkF m 0 #[.val (.int p1), .val (.int p2), .val (.long p3), .second, .val (.int p4), .val (.int p5), .val (.long p6), .second, .unset, .unset, .unset, .unset] []) (by first | (simp [entryFrame, mkF, argsToLocals, Value.category, maxLocals]; done) | rfl) ?_
  have hK : (∀ q ∈ ([(16, (2147483647 : Int32))] : List (Nat × Int32)), (Jvm.Cond.constant "com/example/millrace/millrace/examples/CompactIntegersLengthPinLaw" q.1 q.2).before a0 Z = true) ∧ (∀ q ∈ ([] : List (Nat × Int64)), (Jvm.Cond.constantLong "com/example/millrace/millrace/examples/CompactIntegersLengthPinLaw" q.1 q.2).before a0 Z = true) :=
    ⟨(fun q hq => by
      rcases List.mem_cons.mp hq with rfl | hq
      · exact hw _ (List.mem_of_getElem? (i := 40) rfl)
      exact nomatch hq), (fun q hq => nomatch hq)⟩
  obtain ⟨qn, h_qn⟩ : ∃ z, z = p1 &&& (7 : Int32) := ⟨_, rfl⟩
  have r_n : 0 ≤ qn.toInt ∧ qn.toInt ≤ 7 := by rw [h_qn]; exact c_and _ 7 (by decide)
  obtain ⟨qm, h_qm⟩ : ∃ z, z = p4 &&& (7 : Int32) := ⟨_, rfl⟩
  have r_m : 0 ≤ qm.toInt ∧ qm.toInt ≤ 7 := by rw [h_qm]; exact c_and _ 7 (by decide)
  have k_0 : (0 : Int32).toInt = 0 := rfl
  have n_n := own_nat r_n.1
  have n_m := own_nat r_m.1
  refine X.blk hK (L := [(.iload_n 0, 1, 0, 0), (.bipush 7, 2, 7, 0), (.iand, 1, 0, 0), (.istore 8, 2, 0, 0)]) (pc' := 6) (ls' := #[.val (.int p1), .val (.int p2), .val (.long p3), .second, .val (.int p4), .val (.int p5), .val (.long p6), .second, .val (.int (p1 &&& (7 : Int32))), .unset, .unset, .unset]) (st' := []) (by decide +kernel) rfl ?_
  rw [← h_qn]
  refine X.newobj 9 (hw _ (List.mem_of_getElem? (i := 0) rfl)) (hw _ (List.mem_of_getElem? (i := 1) rfl)) (hw _ (List.mem_of_getElem? (i := 2) rfl)) (by decide +kernel) (by decide) ?_
  intro Tn hn Xn En Bn Dn
  obtain ⟨an, gn⟩ : ∃ z, z = h0.size := ⟨_, rfl⟩
  rw [← gn] at Bn ⊢
  simp only [← gn] at Dn
  refine Xn.blk hK (L := [(.dup, 1, 0, 0), (.iload 8, 2, 0, 0)]) (pc' := 12) (ls' := #[.val (.int p1), .val (.int p2), .val (.long p3), .second, .val (.int p4), .val (.int p5), .val (.long p6), .second, .val (.int qn), .unset, .unset, .unset]) (st' := [(.int qn), (.ref an), (.ref an)]) (by decide +kernel) rfl ?_
  refine Xn.callI 15 1 (argsL := [(.int qn)]) (rest := [(.ref an)]) (rm_init l Z a0 hw an qn hn n0 Xn.size (Dn (Or.inl (hw _ (List.mem_of_getElem? (i := 13) rfl))) (ty := .int) (by decide)) (Dn (Or.inl (hw _ (List.mem_of_getElem? (i := 16) rfl))) (ty := .array .byte) (by decide)) (Dn (Or.inl (hw _ (List.mem_of_getElem? (i := 65) rfl))) (ty := .array .short) (by decide)) (Dn (Or.inl (hw _ (List.mem_of_getElem? (i := 67) rfl))) (ty := .array .int) (by decide)) (Dn (Or.inl (hw _ (List.mem_of_getElem? (i := 57) rfl))) (ty := .array .long) (by decide)) Bn (by rw [gn]; exact Z0) r_n.1 r_n.2) rfl (hw _ (List.mem_of_getElem? (i := 3) rfl)) (hw _ (List.mem_of_getElem? (i := 4) rfl)) (hw _ (List.mem_of_getElem? (i := 2) rfl)) (hw _ (List.mem_of_getElem? (i := 5) rfl)) (by decide) (ps := [.int]) (r := none) (by decide +kernel) rfl rfl rfl rfl (by decide +kernel) (by decide) ?_
  rintro Ti hi vi Xi ⟨rfl, I0⟩
  show Go p e below s _ n0 _ (Ti.setTop (mkF m 15 #[.val (.int p1), .val (.int p2), .val (.long p3), .second, .val (.int p4), .val (.int p5), .val (.long p6), .second, .val (.int qn), .unset, .unset, .unset] [(.ref an)]))
  refine Xi.blk hK (L := [(.astore 9, 2, 0, 0), (.aload 9, 2, 0, 0)]) (pc' := 19) (ls' := #[.val (.int p1), .val (.int p2), .val (.long p3), .second, .val (.int p4), .val (.int p5), .val (.long p6), .second, .val (.int qn), .val (.ref an), .unset, .unset]) (st' := [(.ref an)]) (by decide +kernel) rfl ?_
  have J77a : ∀  (TJ : State) (hJ : Heap) (xs : List Int64), Wk Z l p e room_1 s m #[(.int p1), (.int p2), (.long p3), (.int p4), (.int p5), (.long p6)] below meth c "com/example/millrace/millrace/examples/CompactIntegersLengthPinLaw" "law" code maxLocals ret n0 TJ hJ 4 31 → CIx Z hJ n0 an qn xs → Go p e below s room_1 n0 (fun v h => v = some (.int 1)) (TJ.setTop (mkF m 77 #[.val (.int p1), .val (.int p2), .val (.long p3), .second, .val (.int p4), .val (.int p5), .val (.long p6), .second, .val (.int qn), .val (.ref an), .unset, .unset] [])) := by
    intro  TJ hJ xs XJ I
    refine XJ.blk hK (L := [(.iload 4, 2, 0, 0), (.bipush 7, 2, 7, 0), (.iand, 1, 0, 0), (.istore 10, 2, 0, 0), (.aload 9, 2, 0, 0), (.iload 10, 2, 0, 0)]) (pc' := 88) (ls' := #[.val (.int p1), .val (.int p2), .val (.long p3), .second, .val (.int p4), .val (.int p5), .val (.long p6), .second, .val (.int qn), .val (.ref an), .val (.int (p4 &&& (7 : Int32))), .unset]) (st' := [(.int (p4 &&& (7 : Int32))), (.ref an)]) (by decide +kernel) rfl ?_
    rw [← h_qm]
    refine XJ.callV 91 0 (argsL := [(.int qm)]) (rest := []) I.exa (rm_rs l Z a0 hw an qn qm xs hJ n0 XJ.size I r_m.1 r_m.2) (hw _ (List.mem_of_getElem? (i := 22) rfl)) (hw _ (List.mem_of_getElem? (i := 23) rfl)) (hw _ (List.mem_of_getElem? (i := 25) rfl)) (hw _ (List.mem_of_getElem? (i := 24) rfl)) (hw _ (List.mem_of_getElem? (i := 2) rfl)) (hw _ (List.mem_of_getElem? (i := 26) rfl)) (by decide) (ps := [.int]) (r := none) (by decide +kernel) rfl rfl rfl rfl (by decide +kernel) (by decide) ?_
    rintro Tr hr vr Xr ⟨rfl, I1⟩
    show Go p e below s _ n0 _ (Tr.setTop (mkF m 91 #[.val (.int p1), .val (.int p2), .val (.long p3), .second, .val (.int p4), .val (.int p5), .val (.long p6), .second, .val (.int qn), .val (.ref an), .val (.int qm), .unset] []))
    refine Xr.blk hK (L := [(.aload 9, 2, 0, 0)]) (pc' := 93) (ls' := #[.val (.int p1), .val (.int p2), .val (.long p3), .second, .val (.int p4), .val (.int p5), .val (.long p6), .second, .val (.int qn), .val (.ref an), .val (.int qm), .unset]) (st' := [(.ref an)]) (by decide +kernel) rfl ?_
    refine Xr.callV 96 0 (argsL := []) (rest := []) I1.exa (rm_len l Z a0 hw an qm _ hr n0 Xr.size I1) (hw _ (List.mem_of_getElem? (i := 17) rfl)) (hw _ (List.mem_of_getElem? (i := 18) rfl)) (hw _ (List.mem_of_getElem? (i := 20) rfl)) (hw _ (List.mem_of_getElem? (i := 19) rfl)) (hw _ (List.mem_of_getElem? (i := 2) rfl)) (hw _ (List.mem_of_getElem? (i := 21) rfl)) (by decide) (ps := []) (r := some .int) (by decide +kernel) rfl rfl rfl rfl (by decide +kernel) (by decide) ?_
    rintro Ta ha va Xa ⟨rfl, rfl⟩
    show Go p e below s _ n0 _ (Ta.setTop (mkF m 96 #[.val (.int p1), .val (.int p2), .val (.long p3), .second, .val (.int p4), .val (.int p5), .val (.long p6), .second, .val (.int qn), .val (.ref an), .val (.int qm), .unset] [(.int qm)]))
    refine Xa.blk hK (L := [(.iload 10, 2, 0, 0)]) (pc' := 98) (ls' := #[.val (.int p1), .val (.int p2), .val (.long p3), .second, .val (.int p4), .val (.int p5), .val (.long p6), .second, .val (.int qn), .val (.ref an), .val (.int qm), .unset]) (st' := [(.int qm), (.int qm)]) (by decide +kernel) rfl ?_
    refine Xa.icmp .eq (5) 103 101 (by decide +kernel) (fun (c98 : qm = qm) => ?_) (fun (c98 : ¬ qm = qm) => absurd (rfl : qm = qm) c98)
    refine Xa.blk hK (L := [(.iload 10, 2, 0, 0)]) (pc' := 105) (ls' := #[.val (.int p1), .val (.int p2), .val (.long p3), .second, .val (.int p4), .val (.int p5), .val (.long p6), .second, .val (.int qn), .val (.ref an), .val (.int qm), .unset]) (st' := [(.int qm)]) (by decide +kernel) rfl ?_
    refine Xa.ifc .le (49) 154 108 (by decide +kernel) (fun (c105 : ¬ (0 : Int32) < qm) => ?_) (fun (c105 : (0 : Int32) < qm) => ?_)
    · refine Xa.blk hK (L := [(.iconst 1, 1, 1, 0)]) (pc' := 155) (ls' := #[.val (.int p1), .val (.int p2), .val (.long p3), .second, .val (.int p4), .val (.int p5), .val (.long p6), .second, .val (.int qn), .val (.ref an), .val (.int qm), .unset]) (st' := [(.int (1 : Int32))]) (by decide +kernel) rfl ?_
      exact Xa.retZ (by decide +kernel) (by decide) (by decide) (Or.inr rfl) (rfl)
    · refine Xa.blk hK (L := [(.iload 5, 2, 0, 0), (.ldc 16, 2, 0, 0), (.iand, 1, 0, 0), (.iload 10, 2, 0, 0)]) (pc' := 115) (ls' := #[.val (.int p1), .val (.int p2), .val (.long p3), .second, .val (.int p4), .val (.int p5), .val (.long p6), .second, .val (.int qn), .val (.ref an), .val (.int qm), .unset]) (st' := [(.int qm), (.int (p5 &&& (2147483647 : Int32)))]) (by decide +kernel) rfl ?_
      have q105 := Int32.lt_iff_toInt_lt.mp c105
      refine Xa.irem 116 (by decide +kernel) (by rintro rfl; omega) ?_
      generalize h_qj : (p5 &&& (2147483647 : Int32)) % qm = qj
      have r_j : 0 ≤ qj.toInt ∧ qj.toInt < qm.toInt := h_qj ▸ own_rem p5 qm qm.toInt rfl (by omega)
      have n_j := own_nat r_j.1
      have L1 := I1.len
      refine Xa.blk hK (L := [(.istore 11, 2, 0, 0), (.aload 9, 2, 0, 0), (.iload 11, 2, 0, 0), (.lload 6, 2, 0, 0)]) (pc' := 124) (ls' := #[.val (.int p1), .val (.int p2), .val (.long p3), .second, .val (.int p4), .val (.int p5), .val (.long p6), .second, .val (.int qn), .val (.ref an), .val (.int qm), .val (.int qj)]) (st' := [(.long p6), (.int qj), (.ref an)]) (by decide +kernel) rfl ?_
      refine Xa.callV 127 0 (argsL := [(.int qj), (.long p6)]) (rest := []) I1.exa (rm_set l Z a0 hw an qm qj _ p6 hr n0 Xa.size I1 (own_nn r_j.1) (by omega)) (hw _ (List.mem_of_getElem? (i := 41) rfl)) (hw _ (List.mem_of_getElem? (i := 42) rfl)) (hw _ (List.mem_of_getElem? (i := 44) rfl)) (hw _ (List.mem_of_getElem? (i := 43) rfl)) (hw _ (List.mem_of_getElem? (i := 2) rfl)) (hw _ (List.mem_of_getElem? (i := 45) rfl)) (by decide) (ps := [.int, .long]) (r := none) (by decide +kernel) rfl rfl rfl rfl (by decide +kernel) (by decide) ?_
      rintro Ts hs vs Xs ⟨rfl, I2⟩
      show Go p e below s _ n0 _ (Ts.setTop (mkF m 127 #[.val (.int p1), .val (.int p2), .val (.long p3), .second, .val (.int p4), .val (.int p5), .val (.long p6), .second, .val (.int qn), .val (.ref an), .val (.int qm), .val (.int qj)] []))
      refine Xs.blk hK (L := [(.aload 9, 2, 0, 0)]) (pc' := 129) (ls' := #[.val (.int p1), .val (.int p2), .val (.long p3), .second, .val (.int p4), .val (.int p5), .val (.long p6), .second, .val (.int qn), .val (.ref an), .val (.int qm), .val (.int qj)]) (st' := [(.ref an)]) (by decide +kernel) rfl ?_
      refine Xs.callV 132 0 (argsL := []) (rest := []) I2.exa (rm_len l Z a0 hw an qm _ hs n0 Xs.size I2) (hw _ (List.mem_of_getElem? (i := 17) rfl)) (hw _ (List.mem_of_getElem? (i := 18) rfl)) (hw _ (List.mem_of_getElem? (i := 20) rfl)) (hw _ (List.mem_of_getElem? (i := 19) rfl)) (hw _ (List.mem_of_getElem? (i := 2) rfl)) (hw _ (List.mem_of_getElem? (i := 21) rfl)) (by decide) (ps := []) (r := some .int) (by decide +kernel) rfl rfl rfl rfl (by decide +kernel) (by decide) ?_
      rintro Tb hb vb Xb ⟨rfl, rfl⟩
      show Go p e below s _ n0 _ (Tb.setTop (mkF m 132 #[.val (.int p1), .val (.int p2), .val (.long p3), .second, .val (.int p4), .val (.int p5), .val (.long p6), .second, .val (.int qn), .val (.ref an), .val (.int qm), .val (.int qj)] [(.int qm)]))
      refine Xb.blk hK (L := [(.iload 10, 2, 0, 0)]) (pc' := 134) (ls' := #[.val (.int p1), .val (.int p2), .val (.long p3), .second, .val (.int p4), .val (.int p5), .val (.long p6), .second, .val (.int qn), .val (.ref an), .val (.int qm), .val (.int qj)]) (st' := [(.int qm), (.int qm)]) (by decide +kernel) rfl ?_
      refine Xb.icmp .eq (5) 139 137 (by decide +kernel) (fun (c134 : qm = qm) => ?_) (fun (c134 : ¬ qm = qm) => absurd (rfl : qm = qm) c134)
      refine Xb.blk hK (L := [(.aload 9, 2, 0, 0), (.iload 11, 2, 0, 0)]) (pc' := 143) (ls' := #[.val (.int p1), .val (.int p2), .val (.long p3), .second, .val (.int p4), .val (.int p5), .val (.long p6), .second, .val (.int qn), .val (.ref an), .val (.int qm), .val (.int qj)]) (st' := [(.int qj), (.ref an)]) (by decide +kernel) rfl ?_
      refine Xb.callV 146 0 (argsL := [(.int qj)]) (rest := []) I2.exa (rm_get l Z a0 hw an qm qj _ p6 hs n0 Xb.size I2 (own_nn r_j.1) (List.getElem?_set_self (by omega))) (hw _ (List.mem_of_getElem? (i := 68) rfl)) (hw _ (List.mem_of_getElem? (i := 59) rfl)) (hw _ (List.mem_of_getElem? (i := 61) rfl)) (hw _ (List.mem_of_getElem? (i := 60) rfl)) (hw _ (List.mem_of_getElem? (i := 2) rfl)) (hw _ (List.mem_of_getElem? (i := 62) rfl)) (by decide) (ps := [.int]) (r := some .long) (by decide +kernel) rfl rfl rfl rfl (by decide +kernel) (by decide) ?_
      rintro Tg hg vg Xg ⟨rfl, rfl⟩
      show Go p e below s _ n0 _ (Tg.setTop (mkF m 146 #[.val (.int p1), .val (.int p2), .val (.long p3), .second, .val (.int p4), .val (.int p5), .val (.long p6), .second, .val (.int qn), .val (.ref an), .val (.int qm), .val (.int qj)] [(.long p6)]))
      refine Xg.blk hK (L := [(.lload 6, 2, 0, 0)]) (pc' := 148) (ls' := #[.val (.int p1), .val (.int p2), .val (.long p3), .second, .val (.int p4), .val (.int p5), .val (.long p6), .second, .val (.int qn), .val (.ref an), .val (.int qm), .val (.int qj)]) (st' := [(.long p6), (.long p6)]) (by decide +kernel) rfl ?_
      refine Xg.lcmp .eq (5) 154 152 (by decide +kernel) (fun (c148 : p6 = p6) => ?_) (fun (c148 : ¬ p6 = p6) => absurd (rfl : p6 = p6) c148)
      refine Xg.blk hK (L := [(.iconst 1, 1, 1, 0)]) (pc' := 155) (ls' := #[.val (.int p1), .val (.int p2), .val (.long p3), .second, .val (.int p4), .val (.int p5), .val (.long p6), .second, .val (.int qn), .val (.ref an), .val (.int qm), .val (.int qj)]) (st' := [(.int (1 : Int32))]) (by decide +kernel) rfl ?_
      exact Xg.retZ (by decide +kernel) (by decide) (by decide) (Or.inr rfl) (rfl)
  have J77b : ∀ (qi : Int32) (TJ : State) (hJ : Heap) (xs : List Int64), Wk Z l p e room_1 s m #[(.int p1), (.int p2), (.long p3), (.int p4), (.int p5), (.long p6)] below meth c "com/example/millrace/millrace/examples/CompactIntegersLengthPinLaw" "law" code maxLocals ret n0 TJ hJ 4 31 → CIx Z hJ n0 an qn xs → Go p e below s room_1 n0 (fun v h => v = some (.int 1)) (TJ.setTop (mkF m 77 #[.val (.int p1), .val (.int p2), .val (.long p3), .second, .val (.int p4), .val (.int p5), .val (.long p6), .second, .val (.int qn), .val (.ref an), .val (.int qi), .unset] [])) := by
    intro qi TJ hJ xs XJ I
    refine XJ.blk hK (L := [(.iload 4, 2, 0, 0), (.bipush 7, 2, 7, 0), (.iand, 1, 0, 0), (.istore 10, 2, 0, 0), (.aload 9, 2, 0, 0), (.iload 10, 2, 0, 0)]) (pc' := 88) (ls' := #[.val (.int p1), .val (.int p2), .val (.long p3), .second, .val (.int p4), .val (.int p5), .val (.long p6), .second, .val (.int qn), .val (.ref an), .val (.int (p4 &&& (7 : Int32))), .unset]) (st' := [(.int (p4 &&& (7 : Int32))), (.ref an)]) (by decide +kernel) rfl ?_
    rw [← h_qm]
    refine XJ.callV 91 0 (argsL := [(.int qm)]) (rest := []) I.exa (rm_rs l Z a0 hw an qn qm xs hJ n0 XJ.size I r_m.1 r_m.2) (hw _ (List.mem_of_getElem? (i := 22) rfl)) (hw _ (List.mem_of_getElem? (i := 23) rfl)) (hw _ (List.mem_of_getElem? (i := 25) rfl)) (hw _ (List.mem_of_getElem? (i := 24) rfl)) (hw _ (List.mem_of_getElem? (i := 2) rfl)) (hw _ (List.mem_of_getElem? (i := 26) rfl)) (by decide) (ps := [.int]) (r := none) (by decide +kernel) rfl rfl rfl rfl (by decide +kernel) (by decide) ?_
    rintro Tr hr vr Xr ⟨rfl, I1⟩
    show Go p e below s _ n0 _ (Tr.setTop (mkF m 91 #[.val (.int p1), .val (.int p2), .val (.long p3), .second, .val (.int p4), .val (.int p5), .val (.long p6), .second, .val (.int qn), .val (.ref an), .val (.int qm), .unset] []))
    refine Xr.blk hK (L := [(.aload 9, 2, 0, 0)]) (pc' := 93) (ls' := #[.val (.int p1), .val (.int p2), .val (.long p3), .second, .val (.int p4), .val (.int p5), .val (.long p6), .second, .val (.int qn), .val (.ref an), .val (.int qm), .unset]) (st' := [(.ref an)]) (by decide +kernel) rfl ?_
    refine Xr.callV 96 0 (argsL := []) (rest := []) I1.exa (rm_len l Z a0 hw an qm _ hr n0 Xr.size I1) (hw _ (List.mem_of_getElem? (i := 17) rfl)) (hw _ (List.mem_of_getElem? (i := 18) rfl)) (hw _ (List.mem_of_getElem? (i := 20) rfl)) (hw _ (List.mem_of_getElem? (i := 19) rfl)) (hw _ (List.mem_of_getElem? (i := 2) rfl)) (hw _ (List.mem_of_getElem? (i := 21) rfl)) (by decide) (ps := []) (r := some .int) (by decide +kernel) rfl rfl rfl rfl (by decide +kernel) (by decide) ?_
    rintro Ta ha va Xa ⟨rfl, rfl⟩
    show Go p e below s _ n0 _ (Ta.setTop (mkF m 96 #[.val (.int p1), .val (.int p2), .val (.long p3), .second, .val (.int p4), .val (.int p5), .val (.long p6), .second, .val (.int qn), .val (.ref an), .val (.int qm), .unset] [(.int qm)]))
    refine Xa.blk hK (L := [(.iload 10, 2, 0, 0)]) (pc' := 98) (ls' := #[.val (.int p1), .val (.int p2), .val (.long p3), .second, .val (.int p4), .val (.int p5), .val (.long p6), .second, .val (.int qn), .val (.ref an), .val (.int qm), .unset]) (st' := [(.int qm), (.int qm)]) (by decide +kernel) rfl ?_
    refine Xa.icmp .eq (5) 103 101 (by decide +kernel) (fun (c98 : qm = qm) => ?_) (fun (c98 : ¬ qm = qm) => absurd (rfl : qm = qm) c98)
    refine Xa.blk hK (L := [(.iload 10, 2, 0, 0)]) (pc' := 105) (ls' := #[.val (.int p1), .val (.int p2), .val (.long p3), .second, .val (.int p4), .val (.int p5), .val (.long p6), .second, .val (.int qn), .val (.ref an), .val (.int qm), .unset]) (st' := [(.int qm)]) (by decide +kernel) rfl ?_
    refine Xa.ifc .le (49) 154 108 (by decide +kernel) (fun (c105 : ¬ (0 : Int32) < qm) => ?_) (fun (c105 : (0 : Int32) < qm) => ?_)
    · refine Xa.blk hK (L := [(.iconst 1, 1, 1, 0)]) (pc' := 155) (ls' := #[.val (.int p1), .val (.int p2), .val (.long p3), .second, .val (.int p4), .val (.int p5), .val (.long p6), .second, .val (.int qn), .val (.ref an), .val (.int qm), .unset]) (st' := [(.int (1 : Int32))]) (by decide +kernel) rfl ?_
      exact Xa.retZ (by decide +kernel) (by decide) (by decide) (Or.inr rfl) (rfl)
    · refine Xa.blk hK (L := [(.iload 5, 2, 0, 0), (.ldc 16, 2, 0, 0), (.iand, 1, 0, 0), (.iload 10, 2, 0, 0)]) (pc' := 115) (ls' := #[.val (.int p1), .val (.int p2), .val (.long p3), .second, .val (.int p4), .val (.int p5), .val (.long p6), .second, .val (.int qn), .val (.ref an), .val (.int qm), .unset]) (st' := [(.int qm), (.int (p5 &&& (2147483647 : Int32)))]) (by decide +kernel) rfl ?_
      have q105 := Int32.lt_iff_toInt_lt.mp c105
      refine Xa.irem 116 (by decide +kernel) (by rintro rfl; omega) ?_
      generalize h_qj : (p5 &&& (2147483647 : Int32)) % qm = qj
      have r_j : 0 ≤ qj.toInt ∧ qj.toInt < qm.toInt := h_qj ▸ own_rem p5 qm qm.toInt rfl (by omega)
      have n_j := own_nat r_j.1
      have L1 := I1.len
      refine Xa.blk hK (L := [(.istore 11, 2, 0, 0), (.aload 9, 2, 0, 0), (.iload 11, 2, 0, 0), (.lload 6, 2, 0, 0)]) (pc' := 124) (ls' := #[.val (.int p1), .val (.int p2), .val (.long p3), .second, .val (.int p4), .val (.int p5), .val (.long p6), .second, .val (.int qn), .val (.ref an), .val (.int qm), .val (.int qj)]) (st' := [(.long p6), (.int qj), (.ref an)]) (by decide +kernel) rfl ?_
      refine Xa.callV 127 0 (argsL := [(.int qj), (.long p6)]) (rest := []) I1.exa (rm_set l Z a0 hw an qm qj _ p6 hr n0 Xa.size I1 (own_nn r_j.1) (by omega)) (hw _ (List.mem_of_getElem? (i := 41) rfl)) (hw _ (List.mem_of_getElem? (i := 42) rfl)) (hw _ (List.mem_of_getElem? (i := 44) rfl)) (hw _ (List.mem_of_getElem? (i := 43) rfl)) (hw _ (List.mem_of_getElem? (i := 2) rfl)) (hw _ (List.mem_of_getElem? (i := 45) rfl)) (by decide) (ps := [.int, .long]) (r := none) (by decide +kernel) rfl rfl rfl rfl (by decide +kernel) (by decide) ?_
      rintro Ts hs vs Xs ⟨rfl, I2⟩
      show Go p e below s _ n0 _ (Ts.setTop (mkF m 127 #[.val (.int p1), .val (.int p2), .val (.long p3), .second, .val (.int p4), .val (.int p5), .val (.long p6), .second, .val (.int qn), .val (.ref an), .val (.int qm), .val (.int qj)] []))
      refine Xs.blk hK (L := [(.aload 9, 2, 0, 0)]) (pc' := 129) (ls' := #[.val (.int p1), .val (.int p2), .val (.long p3), .second, .val (.int p4), .val (.int p5), .val (.long p6), .second, .val (.int qn), .val (.ref an), .val (.int qm), .val (.int qj)]) (st' := [(.ref an)]) (by decide +kernel) rfl ?_
      refine Xs.callV 132 0 (argsL := []) (rest := []) I2.exa (rm_len l Z a0 hw an qm _ hs n0 Xs.size I2) (hw _ (List.mem_of_getElem? (i := 17) rfl)) (hw _ (List.mem_of_getElem? (i := 18) rfl)) (hw _ (List.mem_of_getElem? (i := 20) rfl)) (hw _ (List.mem_of_getElem? (i := 19) rfl)) (hw _ (List.mem_of_getElem? (i := 2) rfl)) (hw _ (List.mem_of_getElem? (i := 21) rfl)) (by decide) (ps := []) (r := some .int) (by decide +kernel) rfl rfl rfl rfl (by decide +kernel) (by decide) ?_
      rintro Tb hb vb Xb ⟨rfl, rfl⟩
      show Go p e below s _ n0 _ (Tb.setTop (mkF m 132 #[.val (.int p1), .val (.int p2), .val (.long p3), .second, .val (.int p4), .val (.int p5), .val (.long p6), .second, .val (.int qn), .val (.ref an), .val (.int qm), .val (.int qj)] [(.int qm)]))
      refine Xb.blk hK (L := [(.iload 10, 2, 0, 0)]) (pc' := 134) (ls' := #[.val (.int p1), .val (.int p2), .val (.long p3), .second, .val (.int p4), .val (.int p5), .val (.long p6), .second, .val (.int qn), .val (.ref an), .val (.int qm), .val (.int qj)]) (st' := [(.int qm), (.int qm)]) (by decide +kernel) rfl ?_
      refine Xb.icmp .eq (5) 139 137 (by decide +kernel) (fun (c134 : qm = qm) => ?_) (fun (c134 : ¬ qm = qm) => absurd (rfl : qm = qm) c134)
      refine Xb.blk hK (L := [(.aload 9, 2, 0, 0), (.iload 11, 2, 0, 0)]) (pc' := 143) (ls' := #[.val (.int p1), .val (.int p2), .val (.long p3), .second, .val (.int p4), .val (.int p5), .val (.long p6), .second, .val (.int qn), .val (.ref an), .val (.int qm), .val (.int qj)]) (st' := [(.int qj), (.ref an)]) (by decide +kernel) rfl ?_
      refine Xb.callV 146 0 (argsL := [(.int qj)]) (rest := []) I2.exa (rm_get l Z a0 hw an qm qj _ p6 hs n0 Xb.size I2 (own_nn r_j.1) (List.getElem?_set_self (by omega))) (hw _ (List.mem_of_getElem? (i := 68) rfl)) (hw _ (List.mem_of_getElem? (i := 59) rfl)) (hw _ (List.mem_of_getElem? (i := 61) rfl)) (hw _ (List.mem_of_getElem? (i := 60) rfl)) (hw _ (List.mem_of_getElem? (i := 2) rfl)) (hw _ (List.mem_of_getElem? (i := 62) rfl)) (by decide) (ps := [.int]) (r := some .long) (by decide +kernel) rfl rfl rfl rfl (by decide +kernel) (by decide) ?_
      rintro Tg hg vg Xg ⟨rfl, rfl⟩
      show Go p e below s _ n0 _ (Tg.setTop (mkF m 146 #[.val (.int p1), .val (.int p2), .val (.long p3), .second, .val (.int p4), .val (.int p5), .val (.long p6), .second, .val (.int qn), .val (.ref an), .val (.int qm), .val (.int qj)] [(.long p6)]))
      refine Xg.blk hK (L := [(.lload 6, 2, 0, 0)]) (pc' := 148) (ls' := #[.val (.int p1), .val (.int p2), .val (.long p3), .second, .val (.int p4), .val (.int p5), .val (.long p6), .second, .val (.int qn), .val (.ref an), .val (.int qm), .val (.int qj)]) (st' := [(.long p6), (.long p6)]) (by decide +kernel) rfl ?_
      refine Xg.lcmp .eq (5) 154 152 (by decide +kernel) (fun (c148 : p6 = p6) => ?_) (fun (c148 : ¬ p6 = p6) => absurd (rfl : p6 = p6) c148)
      refine Xg.blk hK (L := [(.iconst 1, 1, 1, 0)]) (pc' := 155) (ls' := #[.val (.int p1), .val (.int p2), .val (.long p3), .second, .val (.int p4), .val (.int p5), .val (.long p6), .second, .val (.int qn), .val (.ref an), .val (.int qm), .val (.int qj)]) (st' := [(.int (1 : Int32))]) (by decide +kernel) rfl ?_
      exact Xg.retZ (by decide +kernel) (by decide) (by decide) (Or.inr rfl) (rfl)
  refine Xi.callV 22 0 (argsL := []) (rest := []) I0.exa (rm_len l Z a0 hw an qn _ hi n0 Xi.size I0) (hw _ (List.mem_of_getElem? (i := 17) rfl)) (hw _ (List.mem_of_getElem? (i := 18) rfl)) (hw _ (List.mem_of_getElem? (i := 20) rfl)) (hw _ (List.mem_of_getElem? (i := 19) rfl)) (hw _ (List.mem_of_getElem? (i := 2) rfl)) (hw _ (List.mem_of_getElem? (i := 21) rfl)) (by decide) (ps := []) (r := some .int) (by decide +kernel) rfl rfl rfl rfl (by decide +kernel) (by decide) ?_
  rintro Ta ha va Xa ⟨rfl, rfl⟩
  show Go p e below s _ n0 _ (Ta.setTop (mkF m 22 #[.val (.int p1), .val (.int p2), .val (.long p3), .second, .val (.int p4), .val (.int p5), .val (.long p6), .second, .val (.int qn), .val (.ref an), .unset, .unset] [(.int qn)]))
  refine Xa.blk hK (L := [(.iload 8, 2, 0, 0)]) (pc' := 24) (ls' := #[.val (.int p1), .val (.int p2), .val (.long p3), .second, .val (.int p4), .val (.int p5), .val (.long p6), .second, .val (.int qn), .val (.ref an), .unset, .unset]) (st' := [(.int qn), (.int qn)]) (by decide +kernel) rfl ?_
  refine Xa.icmp .eq (5) 29 27 (by decide +kernel) (fun (c24 : qn = qn) => ?_) (fun (c24 : ¬ qn = qn) => absurd (rfl : qn = qn) c24)
  refine Xa.blk hK (L := [(.iload 8, 2, 0, 0)]) (pc' := 31) (ls' := #[.val (.int p1), .val (.int p2), .val (.long p3), .second, .val (.int p4), .val (.int p5), .val (.long p6), .second, .val (.int qn), .val (.ref an), .unset, .unset]) (st' := [(.int qn)]) (by decide +kernel) rfl ?_
  refine Xa.ifc .le (46) 77 34 (by decide +kernel) (fun (c31 : ¬ (0 : Int32) < qn) => ?_) (fun (c31 : (0 : Int32) < qn) => ?_)
  · exact J77a _ _ _ (Xa.more (by decide) (by decide)) I0
  · refine Xa.blk hK (L := [(.iload_n 1, 1, 0, 0), (.ldc 16, 2, 0, 0), (.iand, 1, 0, 0), (.iload 8, 2, 0, 0)]) (pc' := 40) (ls' := #[.val (.int p1), .val (.int p2), .val (.long p3), .second, .val (.int p4), .val (.int p5), .val (.long p6), .second, .val (.int qn), .val (.ref an), .unset, .unset]) (st' := [(.int qn), (.int (p2 &&& (2147483647 : Int32)))]) (by decide +kernel) rfl ?_
    have q31 := Int32.lt_iff_toInt_lt.mp c31
    refine Xa.irem 41 (by decide +kernel) (by rintro rfl; omega) ?_
    generalize h_qi : (p2 &&& (2147483647 : Int32)) % qn = qi
    have r_i : 0 ≤ qi.toInt ∧ qi.toInt < qn.toInt := h_qi ▸ own_rem p2 qn qn.toInt rfl (by omega)
    have n_i := own_nat r_i.1
    have L0 := I0.len
    refine Xa.blk hK (L := [(.istore 10, 2, 0, 0), (.aload 9, 2, 0, 0), (.iload 10, 2, 0, 0), (.lload_n 2, 1, 0, 0)]) (pc' := 48) (ls' := #[.val (.int p1), .val (.int p2), .val (.long p3), .second, .val (.int p4), .val (.int p5), .val (.long p6), .second, .val (.int qn), .val (.ref an), .val (.int qi), .unset]) (st' := [(.long p3), (.int qi), (.ref an)]) (by decide +kernel) rfl ?_
    refine Xa.callV 51 0 (argsL := [(.int qi), (.long p3)]) (rest := []) I0.exa (rm_set l Z a0 hw an qn qi _ p3 hi n0 Xa.size I0 (own_nn r_i.1) (by omega)) (hw _ (List.mem_of_getElem? (i := 41) rfl)) (hw _ (List.mem_of_getElem? (i := 42) rfl)) (hw _ (List.mem_of_getElem? (i := 44) rfl)) (hw _ (List.mem_of_getElem? (i := 43) rfl)) (hw _ (List.mem_of_getElem? (i := 2) rfl)) (hw _ (List.mem_of_getElem? (i := 45) rfl)) (by decide) (ps := [.int, .long]) (r := none) (by decide +kernel) rfl rfl rfl rfl (by decide +kernel) (by decide) ?_
    rintro Ts hs vs Xs ⟨rfl, I2⟩
    show Go p e below s _ n0 _ (Ts.setTop (mkF m 51 #[.val (.int p1), .val (.int p2), .val (.long p3), .second, .val (.int p4), .val (.int p5), .val (.long p6), .second, .val (.int qn), .val (.ref an), .val (.int qi), .unset] []))
    refine Xs.blk hK (L := [(.aload 9, 2, 0, 0)]) (pc' := 53) (ls' := #[.val (.int p1), .val (.int p2), .val (.long p3), .second, .val (.int p4), .val (.int p5), .val (.long p6), .second, .val (.int qn), .val (.ref an), .val (.int qi), .unset]) (st' := [(.ref an)]) (by decide +kernel) rfl ?_
    refine Xs.callV 56 0 (argsL := []) (rest := []) I2.exa (rm_len l Z a0 hw an qn _ hs n0 Xs.size I2) (hw _ (List.mem_of_getElem? (i := 17) rfl)) (hw _ (List.mem_of_getElem? (i := 18) rfl)) (hw _ (List.mem_of_getElem? (i := 20) rfl)) (hw _ (List.mem_of_getElem? (i := 19) rfl)) (hw _ (List.mem_of_getElem? (i := 2) rfl)) (hw _ (List.mem_of_getElem? (i := 21) rfl)) (by decide) (ps := []) (r := some .int) (by decide +kernel) rfl rfl rfl rfl (by decide +kernel) (by decide) ?_
    rintro Tb hb vb Xb ⟨rfl, rfl⟩
    show Go p e below s _ n0 _ (Tb.setTop (mkF m 56 #[.val (.int p1), .val (.int p2), .val (.long p3), .second, .val (.int p4), .val (.int p5), .val (.long p6), .second, .val (.int qn), .val (.ref an), .val (.int qi), .unset] [(.int qn)]))
    refine Xb.blk hK (L := [(.iload 8, 2, 0, 0)]) (pc' := 58) (ls' := #[.val (.int p1), .val (.int p2), .val (.long p3), .second, .val (.int p4), .val (.int p5), .val (.long p6), .second, .val (.int qn), .val (.ref an), .val (.int qi), .unset]) (st' := [(.int qn), (.int qn)]) (by decide +kernel) rfl ?_
    refine Xb.icmp .eq (5) 63 61 (by decide +kernel) (fun (c58 : qn = qn) => ?_) (fun (c58 : ¬ qn = qn) => absurd (rfl : qn = qn) c58)
    refine Xb.blk hK (L := [(.aload 9, 2, 0, 0), (.iload 10, 2, 0, 0)]) (pc' := 67) (ls' := #[.val (.int p1), .val (.int p2), .val (.long p3), .second, .val (.int p4), .val (.int p5), .val (.long p6), .second, .val (.int qn), .val (.ref an), .val (.int qi), .unset]) (st' := [(.int qi), (.ref an)]) (by decide +kernel) rfl ?_
    refine Xb.callV 70 0 (argsL := [(.int qi)]) (rest := []) I2.exa (rm_get l Z a0 hw an qn qi _ p3 hs n0 Xb.size I2 (own_nn r_i.1) (List.getElem?_set_self (by omega))) (hw _ (List.mem_of_getElem? (i := 68) rfl)) (hw _ (List.mem_of_getElem? (i := 59) rfl)) (hw _ (List.mem_of_getElem? (i := 61) rfl)) (hw _ (List.mem_of_getElem? (i := 60) rfl)) (hw _ (List.mem_of_getElem? (i := 2) rfl)) (hw _ (List.mem_of_getElem? (i := 62) rfl)) (by decide) (ps := [.int]) (r := some .long) (by decide +kernel) rfl rfl rfl rfl (by decide +kernel) (by decide) ?_
    rintro Tg hg vg Xg ⟨rfl, rfl⟩
    show Go p e below s _ n0 _ (Tg.setTop (mkF m 70 #[.val (.int p1), .val (.int p2), .val (.long p3), .second, .val (.int p4), .val (.int p5), .val (.long p6), .second, .val (.int qn), .val (.ref an), .val (.int qi), .unset] [(.long p3)]))
    refine Xg.blk hK (L := [(.lload_n 2, 1, 0, 0)]) (pc' := 71) (ls' := #[.val (.int p1), .val (.int p2), .val (.long p3), .second, .val (.int p4), .val (.int p5), .val (.long p6), .second, .val (.int qn), .val (.ref an), .val (.int qi), .unset]) (st' := [(.long p3), (.long p3)]) (by decide +kernel) rfl ?_
    refine Xg.lcmp .eq (5) 77 75 (by decide +kernel) (fun (c71 : p3 = p3) => ?_) (fun (c71 : ¬ p3 = p3) => absurd (rfl : p3 = p3) c71)
    exact J77b qi _ _ _ (Xg.more (by decide) (by decide)) I2
set_option maxRecDepth 65536 in
set_option maxHeartbeats 40000000 in
theorem comes_1 {Post : Tables → Env → Array Value → State → Outcome → State → Prop} (hpost : ∀ tb e args s v u, (limb_1_1.after args s (.returned v) u = true ∧ limb_1_2.after args s (.returned v) u = true ∧ True) → FrameEnd s (.returned v) u (Jvm.fieldLocs frame_1_writes args s ++ Jvm.arrayLocs frame_1_arrays args s ++ Jvm.staticLocs frame_1_statics s) 24 192 → Post tb e args s (.returned v) u) :
    ArmFor flags0 classFile x code maxLocals ret World_1 tables_1 room_1 Calls_1 rest_1 Pre_1 Post := by
  intro l hfl _ _ p e ha hc hk s m args below hf hA hF happ hP
  obtain ⟨hcalls, hrest, hpre⟩ := hP
  obtain ⟨-, -, -, hnamed, -, -, -, hat⟩ := (Spec.applies_iff hf).mp happ
  obtain ⟨hg, hn⟩ := and_e (Cond.before_iff.mp (show (Jvm.Cond.and given_1 narrow_1).before args s = true from hpre))
  obtain ⟨hc0, hg⟩ := and_e hg
  obtain ⟨hk0, hg⟩ := and_e hg
  obtain ⟨hk1, hg⟩ := and_e hg
  obtain ⟨hk2, hg⟩ := and_e hg
  obtain ⟨hk3, hg⟩ := and_e hg
  obtain ⟨hk4, hg⟩ := and_e hg
  have hk5 := hg
  obtain ⟨w0, w1, w2, w3, w4, w5, rfl⟩ : ∃ w0 w1 w2 w3 w4 w5 : Value, args = #[w0, w1, w2, w3, w4, w5] := by
    have hs : args.size = 6 := by simpa [Cond.value, given_1] using hc0
    obtain ⟨L⟩ := args
    match L, hs with
    | [w0, w1, w2, w3, w4, w5], _ => exact ⟨w0, w1, w2, w3, w4, w5, rfl⟩
  have hw := fun d (hd : d ∈ tables_1) => atoms_spec (ws := Jvm.Cond.code x code maxLocals ret :: tables_1) hat d (List.mem_cons_of_mem _ hd)
  obtain ⟨i0, e0⟩ := is_v hk0
  obtain rfl : w0 = (.int i0) := Option.some.inj e0
  obtain ⟨i1, e1⟩ := is_v hk1
  obtain rfl : w1 = (.int i1) := Option.some.inj e1
  obtain ⟨i2, e2⟩ := isL_v hk2
  obtain rfl : w2 = (.long i2) := Option.some.inj e2
  obtain ⟨i3, e3⟩ := is_v hk3
  obtain rfl : w3 = (.int i3) := Option.some.inj e3
  obtain ⟨i4, e4⟩ := is_v hk4
  obtain rfl : w4 = (.int i4) := Option.some.inj e4
  obtain ⟨i5, e5⟩ := isL_v hk5
  obtain rfl : w5 = (.long i5) := Option.some.inj e5
  obtain ⟨n, o, h1, h2, h3, v, L, rfl, ⟨hv, -, N⟩, hq⟩ := rm_law l s _ hw i0 i1 i2 i3 i4 i5 s.heap s.heap.size (Nat.le_refl _) tables_1 p e ha hc hk s m _ below hf ((Spec.applies_iff_loose hf).mp happ).1 ⟨rfl, State.Warmed39.refl s, rfl⟩ trivial
  obtain rfl : v = some (.int 1) := hv
  refine ⟨n, _, h1, h2, h3, hpost _ _ _ _ _ _ ⟨Cond.after_iff.mpr rfl, Cond.after_iff.mpr (eq_i res_at (Term.int_eval (1)) rfl), trivial⟩ ⟨hq.1, hq.2.1, (hq.2.2.sift fun y hy => Or.inr (N y hy)).mono (by decide) (by decide)⟩⟩
theorem main_1_1 : Claimed_1_1 := comes_1 fun _ _ _ _ _ _ h hF => ⟨h.1, hF⟩
theorem main_1_2 : Claimed_1_2 := comes_1 fun _ _ _ _ _ _ h hF => ⟨h.2.1, hF⟩
end Jvm.Pilot.@@N@@
namespace Jvm.Pilot.@@N@@
open Jvm Jvm.ClassFile Sem Op Lib Jvm.Free Jvm.Stand Jvm.Pilot.@@N@@.Jvm.D
/-! MADE BY PROGRAM (witnessworld.py) out of the Statement's table words and the real class files: 16 classes; the members and pool entries that the words name. The judged class is class 1, her method 1. -/
namespace start1
open Jvm.ClassFile
def u (s : String) : CpInfo := .utf8 (stringToUtf16 s)
/-- a pool by its gaps: so many unusable entries, then the entry; so many at the end -/
def gap : Nat → List CpInfo → List CpInfo
  | 0, r => r
  | n + 1, r => .unusable :: gap n r
def poolList (es : List (Nat × CpInfo)) (last : Nat) : List CpInfo := es.foldr (fun e r => gap e.1 (e.2 :: r)) (gap last [])
def pool (es : List (Nat × CpInfo)) (last : Nat) : Array CpInfo := ⟨poolList es last⟩
def fileOf (pool : Array CpInfo) (this : Nat) (attrs : Array Attribute := #[]) (ms : Array MethodInfo := #[]) (fl : Nat := 33) (sup : Nat := 0) (ifs : Array Nat := #[]) (fds : Array FieldInfo := #[]) : ClassFile where
  minorVersion := 0
  majorVersion := 65
  constantPool := pool
  accessFlags := fl
  thisClass := this
  superClass := sup
  interfaces := ifs
  fields := fds
  methods := ms
  attributes := attrs
def plain (name : String) (sup : Option ClassId) : Class where
  name := name
  kind := .ordinary
  loader := none
  accessFlags := 33
  super := sup
  interfaces := #[]
  cf := none
  fields := #[]
  methods := #[]
  instanceTypes := #[]
  staticTypes := #[]
  resolved := #[]
  callSites := []
  init := .initialized
  statics := none
  mirror := none

def pool0 : Array CpInfo := pool [(5, u "<init>"), (0, u "()V"), (1, .class_ 10), (1, u "java/lang/Object"), (85, u "clone"), (0, u "()Ljava/lang/Object;")] 26

def k0c0 : Code := { maxStack := 0, maxLocals := 1, code := object_method_1_code, exceptionTable := #[], attributes := #[] }
def k0m0 : Method := { name := "<init>", desc := "()V", sig := { parameters := [], returnType := none }, accessFlags := 1, code := some k0c0 }
def k0m1 : Method := { name := "clone", desc := "()Ljava/lang/Object;", sig := { parameters := [], returnType := some (.object "java/lang/Object") }, accessFlags := 260, code := none }
/-- java/lang/Object -/
def k0 : Class := { plain "java/lang/Object" none with
  accessFlags := 33
  interfaces := #[]
  cf := some (fileOf pool0 8 #[] #[{ accessFlags := 1, nameIndex := 5, descriptorIndex := 6, attributes := #[] }, { accessFlags := 260, nameIndex := 96, descriptorIndex := 97, attributes := #[] }] 33 0 #[] #[])
  fields := #[]
  methods := #[k0m0, k0m1]
  instanceTypes := #[]
  staticTypes := #[]
  resolved := Array.replicate 124 none
  statics := none }

def pool1 : Array CpInfo := pool [(2, .class_ 4), (1, u "java/lang/Object"), (0, u "<init>"), (0, u "()V"), (0, .class_ 8), (0, u "com/example/millrace/millrace/examples/CompactIntegers"), (0, .methodref 7 10), (0, .nameAndType 5 11), (0, u "(I)V"), (0, .methodref 7 13), (0, .nameAndType 14 15), (0, u "length"), (0, u "()I"), (0, .integer 2147483647), (0, .methodref 7 18), (0, .nameAndType 19 20), (0, u "set"), (0, u "(IJ)V"), (0, .methodref 7 22), (0, .nameAndType 23 24), (0, u "get"), (0, u "(I)J"), (0, .methodref 7 26), (0, .nameAndType 27 11), (0, u "resize"), (0, .class_ 29), (0, u "com/example/millrace/millrace/examples/CompactIntegersLengthPinLaw"), (2, u "law"), (0, u "(IIJIIJ)Z")] 3

def k1m0 : Method := { name := "<init>", desc := "()V", sig := { parameters := [], returnType := none }, accessFlags := 1, code := none }
def k1c1 : Code := { maxStack := 4, maxLocals := 12, code := code, exceptionTable := #[], attributes := #[] }
def k1m1 : Method := { name := "law", desc := "(IIJIIJ)Z", sig := { parameters := [.int, .int, .long, .int, .int, .long], returnType := some .boolean }, accessFlags := 9, code := some k1c1 }
/-- com/example/millrace/millrace/examples/CompactIntegersLengthPinLaw -/
def k1 : Class := { plain "com/example/millrace/millrace/examples/CompactIntegersLengthPinLaw" (some 0) with
  accessFlags := 49
  interfaces := #[]
  cf := some (fileOf pool1 28 #[] #[{ accessFlags := 1, nameIndex := 5, descriptorIndex := 6, attributes := #[] }, { accessFlags := 9, nameIndex := 32, descriptorIndex := 33, attributes := #[] }] 49 2 #[] #[])
  fields := #[]
  methods := #[k1m0, k1m1]
  instanceTypes := #[]
  staticTypes := #[]
  resolved := Array.replicate 37 none
  statics := none }

def pool2 : Array CpInfo := pool [(3, .methodref 4 5), (0, .class_ 6), (0, .nameAndType 7 8), (0, u "com/example/millrace/millrace/examples/CompactIntegers"), (0, u "<init>"), (0, u "(II)V"), (0, .methodref 10 11), (0, .class_ 12), (0, .nameAndType 7 13), (0, u "java/lang/Object"), (0, u "()V"), (0, .fieldref 4 15), (0, .nameAndType 16 17), (0, u "width"), (0, u "I"), (0, .fieldref 4 19), (0, .nameAndType 20 21), (0, u "bytes"), (0, u "[B"), (0, .fieldref 4 23), (0, .nameAndType 24 25), (0, u "shorts"), (0, u "[S"), (0, .fieldref 4 27), (0, .nameAndType 28 29), (0, u "ints"), (0, u "[I"), (0, .fieldref 4 31), (0, .nameAndType 32 33), (0, u "longs"), (0, u "[J"), (0, .methodref 4 35), (0, .nameAndType 36 37), (0, u "widthOf"), (0, u "(J)I"), (0, .methodref 4 39), (0, .nameAndType 40 41), (0, u "widen"), (0, u "(I)V"), (0, .methodref 43 44), (0, .class_ 45), (0, .nameAndType 46 47), (0, u "java/util/Arrays"), (0, u "copyOf"), (0, u "([BI)[B"), (0, .methodref 43 49), (0, .nameAndType 46 50), (0, u "([SI)[S"), (0, .methodref 43 52), (0, .nameAndType 46 53), (0, u "([II)[I"), (0, .methodref 43 55), (0, .nameAndType 46 56), (0, u "([JI)[J"), (6, .methodref 4 64), (0, .nameAndType 65 66), (0, u "length"), (0, u "()I"), (0, .methodref 4 68), (0, .nameAndType 69 70), (0, u "get"), (0, u "(I)J"), (0, .methodref 4 72), (0, .nameAndType 73 74), (0, u "set"), (0, u "(IJ)V"), (3, u "resize")] 2

def k2c0 : Code := { maxStack := 3, maxLocals := 2, code := prog_16_method_1_code, exceptionTable := #[], attributes := #[] }
def k2m0 : Method := { name := "<init>", desc := "(I)V", sig := { parameters := [.int], returnType := none }, accessFlags := 0, code := some k2c0 }
def k2c1 : Code := { maxStack := 2, maxLocals := 3, code := prog_16_method_2_code, exceptionTable := #[], attributes := #[] }
def k2m1 : Method := { name := "<init>", desc := "(II)V", sig := { parameters := [.int, .int], returnType := none }, accessFlags := 2, code := some k2c1 }
def k2c2 : Code := { maxStack := 1, maxLocals := 1, code := prog_16_method_3_code, exceptionTable := #[], attributes := #[] }
def k2m2 : Method := { name := "length", desc := "()I", sig := { parameters := [], returnType := some .int }, accessFlags := 0, code := some k2c2 }
def k2c3 : Code := { maxStack := 2, maxLocals := 2, code := prog_16_method_4_code, exceptionTable := #[], attributes := #[] }
def k2m3 : Method := { name := "get", desc := "(I)J", sig := { parameters := [.int], returnType := some .long }, accessFlags := 0, code := some k2c3 }
def k2c4 : Code := { maxStack := 4, maxLocals := 5, code := prog_16_method_5_code, exceptionTable := #[], attributes := #[] }
def k2m4 : Method := { name := "set", desc := "(IJ)V", sig := { parameters := [.int, .long], returnType := none }, accessFlags := 0, code := some k2c4 }
def k2c5 : Code := { maxStack := 3, maxLocals := 2, code := prog_16_method_6_code, exceptionTable := #[], attributes := #[] }
def k2m5 : Method := { name := "resize", desc := "(I)V", sig := { parameters := [.int], returnType := none }, accessFlags := 0, code := some k2c5 }
def k2c6 : Code := { maxStack := 4, maxLocals := 3, code := prog_16_method_7_code, exceptionTable := #[], attributes := #[] }
def k2m6 : Method := { name := "widthOf", desc := "(J)I", sig := { parameters := [.long], returnType := some .int }, accessFlags := 10, code := some k2c6 }
def k2c7 : Code := { maxStack := 4, maxLocals := 4, code := prog_16_method_8_code, exceptionTable := #[], attributes := #[] }
def k2m7 : Method := { name := "widen", desc := "(I)V", sig := { parameters := [.int], returnType := none }, accessFlags := 2, code := some k2c7 }
/-- com/example/millrace/millrace/examples/CompactIntegers -/
def k2 : Class := { plain "com/example/millrace/millrace/examples/CompactIntegers" (some 0) with
  accessFlags := 48
  interfaces := #[]
  cf := some (fileOf pool2 4 #[] #[{ accessFlags := 0, nameIndex := 7, descriptorIndex := 41, attributes := #[] }, { accessFlags := 2, nameIndex := 7, descriptorIndex := 8, attributes := #[] }, { accessFlags := 0, nameIndex := 65, descriptorIndex := 66, attributes := #[] }, { accessFlags := 0, nameIndex := 69, descriptorIndex := 70, attributes := #[] }, { accessFlags := 0, nameIndex := 73, descriptorIndex := 74, attributes := #[] }, { accessFlags := 0, nameIndex := 78, descriptorIndex := 41, attributes := #[] }, { accessFlags := 10, nameIndex := 36, descriptorIndex := 37, attributes := #[] }, { accessFlags := 2, nameIndex := 40, descriptorIndex := 41, attributes := #[] }] 48 10 #[] #[{ accessFlags := 2, nameIndex := 16, descriptorIndex := 17, attributes := #[] }, { accessFlags := 2, nameIndex := 20, descriptorIndex := 21, attributes := #[] }, { accessFlags := 2, nameIndex := 24, descriptorIndex := 25, attributes := #[] }, { accessFlags := 2, nameIndex := 28, descriptorIndex := 29, attributes := #[] }, { accessFlags := 2, nameIndex := 32, descriptorIndex := 33, attributes := #[] }])
  fields := #[{ name := "width", type := .int, accessFlags := 2, slot := 0, constantValue := 0 }, { name := "bytes", type := (.array .byte), accessFlags := 2, slot := 1, constantValue := 0 }, { name := "shorts", type := (.array .short), accessFlags := 2, slot := 2, constantValue := 0 }, { name := "ints", type := (.array .int), accessFlags := 2, slot := 3, constantValue := 0 }, { name := "longs", type := (.array .long), accessFlags := 2, slot := 4, constantValue := 0 }]
  methods := #[k2m0, k2m1, k2m2, k2m3, k2m4, k2m5, k2m6, k2m7]
  instanceTypes := #[.int, (.array .byte), (.array .short), (.array .int), (.array .long)]
  staticTypes := #[]
  resolved := Array.replicate 81 none
  statics := none }

def pool3 : Array CpInfo := pool [(2, .class_ 4), (1, u "java/lang/Object"), (0, u "<init>"), (0, u "()V"), (7, .class_ 16), (1, u "java/util/Arrays"), (57, .class_ 76), (1, u "java/util/Arrays$NaturalOrder"), (32, u "()Ljava/lang/Object;"), (3, .class_ 115), (1, u "java/util/Arrays$LegacyMergeSort"), (1, u "Z"), (10, .nameAndType 129 109), (0, u "clone"), (20, .methodref 151 152), (0, .class_ 153), (0, .nameAndType 154 155), (0, u "java/lang/System"), (0, u "arraycopy"), (0, u "(Ljava/lang/Object;ILjava/lang/Object;II)V"), (146, u "copyOf"), (1, .methodref 305 306), (0, .class_ 307), (0, .nameAndType 308 309), (0, u "java/lang/Math"), (0, u "min"), (0, u "(II)I"), (0, .methodref 311 128), (0, .class_ 312), (0, u "[B"), (0, .methodref 314 128), (0, .class_ 315), (0, u "[S"), (0, .methodref 317 128), (0, .class_ 318), (0, u "[I"), (0, .methodref 320 128), (0, .class_ 321), (0, u "[J"), (53, .class_ 376), (0, u "java/util/Arrays$ArrayList"), (68, u "$assertionsDisabled"), (269, u "MIN_ARRAY_SORT_GRAN"), (0, u "I"), (2, u "INSERTIONSORT_THRESHOLD"), (149, u "([BI)[B"), (0, u "([SI)[S"), (0, u "([II)[I"), (0, u "([JI)[J"), (102, .class_ 976), (0, u "java/util/Arrays$ArrayItr")] 52

def k3m0 : Method := { name := "<init>", desc := "()V", sig := { parameters := [], returnType := none }, accessFlags := 2, code := none }
def k3c1 : Code := { maxStack := 6, maxLocals := 3, code := jdk_65_method_121_code, exceptionTable := #[], attributes := #[] }
def k3m1 : Method := { name := "copyOf", desc := "([BI)[B", sig := { parameters := [(.array .byte), .int], returnType := some (.array .byte) }, accessFlags := 9, code := some k3c1 }
def k3c2 : Code := { maxStack := 6, maxLocals := 3, code := jdk_65_method_122_code, exceptionTable := #[], attributes := #[] }
def k3m2 : Method := { name := "copyOf", desc := "([SI)[S", sig := { parameters := [(.array .short), .int], returnType := some (.array .short) }, accessFlags := 9, code := some k3c2 }
def k3c3 : Code := { maxStack := 6, maxLocals := 3, code := jdk_65_method_123_code, exceptionTable := #[], attributes := #[] }
def k3m3 : Method := { name := "copyOf", desc := "([II)[I", sig := { parameters := [(.array .int), .int], returnType := some (.array .int) }, accessFlags := 9, code := some k3c3 }
def k3c4 : Code := { maxStack := 6, maxLocals := 3, code := jdk_65_method_124_code, exceptionTable := #[], attributes := #[] }
def k3m4 : Method := { name := "copyOf", desc := "([JI)[J", sig := { parameters := [(.array .long), .int], returnType := some (.array .long) }, accessFlags := 9, code := some k3c4 }
/-- java/util/Arrays -/
def k3 : Class := { plain "java/util/Arrays" (some 0) with
  accessFlags := 49
  interfaces := #[]
  cf := some (fileOf pool3 14 #[.nestMembers #[975, 375, 113, 74]] #[{ accessFlags := 2, nameIndex := 5, descriptorIndex := 6, attributes := #[] }, { accessFlags := 9, nameIndex := 302, descriptorIndex := 869, attributes := #[] }, { accessFlags := 9, nameIndex := 302, descriptorIndex := 870, attributes := #[] }, { accessFlags := 9, nameIndex := 302, descriptorIndex := 871, attributes := #[] }, { accessFlags := 9, nameIndex := 302, descriptorIndex := 872, attributes := #[] }] 49 2 #[] #[{ accessFlags := 26, nameIndex := 715, descriptorIndex := 716, attributes := #[] }, { accessFlags := 26, nameIndex := 719, descriptorIndex := 716, attributes := #[] }, { accessFlags := 4120, nameIndex := 445, descriptorIndex := 117, attributes := #[] }])
  fields := #[{ name := "MIN_ARRAY_SORT_GRAN", type := .int, accessFlags := 26, slot := 0, constantValue := 0 }, { name := "INSERTIONSORT_THRESHOLD", type := .int, accessFlags := 26, slot := 1, constantValue := 0 }, { name := "$assertionsDisabled", type := .boolean, accessFlags := 4120, slot := 2, constantValue := 0 }]
  methods := #[k3m0, k3m1, k3m2, k3m3, k3m4]
  instanceTypes := #[]
  staticTypes := #[.int, .int, .boolean]
  resolved := Array.replicate 1029 none
  statics := none }

def pool4 : Array CpInfo := pool [(1, .class_ 2), (0, u "java/lang/Cloneable"), (0, .class_ 4), (0, u "java/lang/Object")] 2

/-- java/lang/Cloneable -/
def k4 : Class := { plain "java/lang/Cloneable" (some 0) with
  accessFlags := 1537
  interfaces := #[]
  cf := some (fileOf pool4 1 #[] #[] 1537 3 #[] #[])
  fields := #[]
  methods := #[]
  instanceTypes := #[]
  staticTypes := #[]
  resolved := Array.replicate 7 none
  statics := none }

def pool5 : Array CpInfo := pool [(1, .class_ 2), (0, u "java/lang/Math"), (1, .class_ 6), (1, u "java/lang/Object"), (0, u "<init>"), (0, u "()V"), (89, .class_ 100), (1, u "java/lang/Math$RandomNumberGeneratorHolder"), (71, u "negativeZeroFloatBits"), (0, u "J"), (2, u "negativeZeroDoubleBits"), (24, u "min"), (43, u "$assertionsDisabled"), (0, u "Z"), (88, u "(II)I"), (2, u "twoToTheDoubleScaleDown"), (0, u "D"), (4, u "twoToTheDoubleScaleUp"), (9, u "E"), (3, u "PI"), (2, u "TAU"), (2, u "DEGREES_TO_RADIANS"), (0, u "RADIANS_TO_DEGREES")] 94

def k5m0 : Method := { name := "<init>", desc := "()V", sig := { parameters := [], returnType := none }, accessFlags := 2, code := none }
def k5c1 : Code := { maxStack := 2, maxLocals := 2, code := jdk_29_method_69_code, exceptionTable := #[], attributes := #[] }
def k5m1 : Method := { name := "min", desc := "(II)I", sig := { parameters := [.int, .int], returnType := some .int }, accessFlags := 9, code := some k5c1 }
/-- java/lang/Math -/
def k5 : Class := { plain "java/lang/Math" (some 0) with
  accessFlags := 49
  interfaces := #[]
  cf := some (fileOf pool5 1 #[.nestMembers #[98]] #[{ accessFlags := 2, nameIndex := 7, descriptorIndex := 8, attributes := #[] }, { accessFlags := 9, nameIndex := 201, descriptorIndex := 335, attributes := #[] }] 49 4 #[] #[{ accessFlags := 25, nameIndex := 354, descriptorIndex := 339, attributes := #[] }, { accessFlags := 25, nameIndex := 358, descriptorIndex := 339, attributes := #[] }, { accessFlags := 25, nameIndex := 361, descriptorIndex := 339, attributes := #[] }, { accessFlags := 26, nameIndex := 364, descriptorIndex := 339, attributes := #[] }, { accessFlags := 26, nameIndex := 365, descriptorIndex := 339, attributes := #[] }, { accessFlags := 26, nameIndex := 172, descriptorIndex := 173, attributes := #[] }, { accessFlags := 26, nameIndex := 176, descriptorIndex := 173, attributes := #[] }, { accessFlags := 8, nameIndex := 344, descriptorIndex := 339, attributes := #[] }, { accessFlags := 8, nameIndex := 338, descriptorIndex := 339, attributes := #[] }, { accessFlags := 4120, nameIndex := 245, descriptorIndex := 246, attributes := #[] }])
  fields := #[{ name := "E", type := .double, accessFlags := 25, slot := 0, constantValue := 0 }, { name := "PI", type := .double, accessFlags := 25, slot := 1, constantValue := 0 }, { name := "TAU", type := .double, accessFlags := 25, slot := 2, constantValue := 0 }, { name := "DEGREES_TO_RADIANS", type := .double, accessFlags := 26, slot := 3, constantValue := 0 }, { name := "RADIANS_TO_DEGREES", type := .double, accessFlags := 26, slot := 4, constantValue := 0 }, { name := "negativeZeroFloatBits", type := .long, accessFlags := 26, slot := 5, constantValue := 0 }, { name := "negativeZeroDoubleBits", type := .long, accessFlags := 26, slot := 6, constantValue := 0 }, { name := "twoToTheDoubleScaleUp", type := .double, accessFlags := 8, slot := 7, constantValue := 0 }, { name := "twoToTheDoubleScaleDown", type := .double, accessFlags := 8, slot := 8, constantValue := 0 }, { name := "$assertionsDisabled", type := .boolean, accessFlags := 4120, slot := 9, constantValue := 0 }]
  methods := #[k5m0, k5m1]
  instanceTypes := #[]
  staticTypes := #[.double, .double, .double, .double, .double, .long, .long, .double, .double, .boolean]
  resolved := Array.replicate 460 none
  statics := none }

def pool6 : Array CpInfo := pool [(2, .class_ 4), (1, u "java/lang/Object"), (0, u "<init>"), (0, u "()V"), (1, .class_ 10), (1, u "java/lang/System"), (0, u "allowSecurityManager"), (0, u "I"), (16, u "cons"), (0, u "Ljava/io/Console;"), (77, .class_ 110), (1, u "java/lang/System$CallersHolder"), (43, u "initialErrStream"), (0, u "Ljava/io/PrintStream;"), (19, u "security"), (0, u "Ljava/lang/SecurityManager;"), (31, .class_ 209), (0, u "java/lang/System$1"), (7, u "props"), (0, u "Ljava/util/Properties;"), (2, u "lineSeparator"), (0, u "Ljava/lang/String;"), (96, .class_ 321), (1, u "java/lang/System$LoggerFinder"), (5, .class_ 328), (0, u "java/lang/System$Logger"), (67, u "err"), (2, u "out"), (91, u "notSupportedJnuEncoding"), (15, u "in"), (17, u "initialIn"), (0, u "Ljava/io/InputStream;"), (35, u "bootLayer"), (0, u "Ljava/lang/ModuleLayer;"), (99, .class_ 664), (0, u "java/lang/System$2"), (9, u "NEVER"), (2, u "MAYBE"), (49, u "arraycopy"), (0, u "(Ljava/lang/Object;ILjava/lang/Object;II)V"), (72, .class_ 802), (0, u "java/lang/System$Logger$Level")] 31

def k6m0 : Method := { name := "<init>", desc := "()V", sig := { parameters := [], returnType := none }, accessFlags := 2, code := none }
def k6m1 : Method := { name := "arraycopy", desc := "(Ljava/lang/Object;ILjava/lang/Object;II)V", sig := { parameters := [(.object "java/lang/Object"), .int, (.object "java/lang/Object"), .int, .int], returnType := none }, accessFlags := 265, code := none }
/-- java/lang/System -/
def k6 : Class := { plain "java/lang/System" (some 0) with
  accessFlags := 49
  interfaces := #[]
  cf := some (fileOf pool6 8 #[.nestMembers #[319, 327, 801, 108, 663, 208]] #[{ accessFlags := 2, nameIndex := 5, descriptorIndex := 6, attributes := #[] }, { accessFlags := 265, nameIndex := 727, descriptorIndex := 728, attributes := #[] }] 49 2 #[] #[{ accessFlags := 25, nameIndex := 507, descriptorIndex := 526, attributes := #[] }, { accessFlags := 25, nameIndex := 399, descriptorIndex := 155, attributes := #[] }, { accessFlags := 25, nameIndex := 396, descriptorIndex := 155, attributes := #[] }, { accessFlags := 10, nameIndex := 525, descriptorIndex := 526, attributes := #[] }, { accessFlags := 26, nameIndex := 674, descriptorIndex := 12, attributes := #[] }, { accessFlags := 26, nameIndex := 677, descriptorIndex := 12, attributes := #[] }, { accessFlags := 10, nameIndex := 11, descriptorIndex := 12, attributes := #[] }, { accessFlags := 74, nameIndex := 175, descriptorIndex := 176, attributes := #[] }, { accessFlags := 10, nameIndex := 491, descriptorIndex := 222, attributes := #[] }, { accessFlags := 74, nameIndex := 29, descriptorIndex := 30, attributes := #[] }, { accessFlags := 74, nameIndex := 154, descriptorIndex := 155, attributes := #[] }, { accessFlags := 10, nameIndex := 217, descriptorIndex := 218, attributes := #[] }, { accessFlags := 10, nameIndex := 221, descriptorIndex := 222, attributes := #[] }, { accessFlags := 8, nameIndex := 562, descriptorIndex := 563, attributes := #[] }])
  fields := #[{ name := "in", type := (.object "java/io/InputStream"), accessFlags := 25, slot := 0, constantValue := 0 }, { name := "out", type := (.object "java/io/PrintStream"), accessFlags := 25, slot := 1, constantValue := 0 }, { name := "err", type := (.object "java/io/PrintStream"), accessFlags := 25, slot := 2, constantValue := 0 }, { name := "initialIn", type := (.object "java/io/InputStream"), accessFlags := 10, slot := 3, constantValue := 0 }, { name := "NEVER", type := .int, accessFlags := 26, slot := 4, constantValue := 0 }, { name := "MAYBE", type := .int, accessFlags := 26, slot := 5, constantValue := 0 }, { name := "allowSecurityManager", type := .int, accessFlags := 10, slot := 6, constantValue := 0 }, { name := "security", type := (.object "java/lang/SecurityManager"), accessFlags := 74, slot := 7, constantValue := 0 }, { name := "notSupportedJnuEncoding", type := (.object "java/lang/String"), accessFlags := 10, slot := 8, constantValue := 0 }, { name := "cons", type := (.object "java/io/Console"), accessFlags := 74, slot := 9, constantValue := 0 }, { name := "initialErrStream", type := (.object "java/io/PrintStream"), accessFlags := 74, slot := 10, constantValue := 0 }, { name := "props", type := (.object "java/util/Properties"), accessFlags := 10, slot := 11, constantValue := 0 }, { name := "lineSeparator", type := (.object "java/lang/String"), accessFlags := 10, slot := 12, constantValue := 0 }, { name := "bootLayer", type := (.object "java/lang/ModuleLayer"), accessFlags := 8, slot := 13, constantValue := 0 }]
  methods := #[k6m0, k6m1]
  instanceTypes := #[]
  staticTypes := #[(.object "java/io/InputStream"), (.object "java/io/PrintStream"), (.object "java/io/PrintStream"), (.object "java/io/InputStream"), .int, .int, .int, (.object "java/lang/SecurityManager"), (.object "java/lang/String"), (.object "java/io/Console"), (.object "java/io/PrintStream"), (.object "java/util/Properties"), (.object "java/lang/String"), (.object "java/lang/ModuleLayer")]
  resolved := Array.replicate 834 none
  statics := none }

def pool7 : Array CpInfo := pool [(1, u "java/io/Serializable"), (0, .class_ 1), (0, u "java/lang/Object"), (0, .class_ 3)] 3

/-- java/io/Serializable -/
def k7 : Class := { plain "java/io/Serializable" (some 0) with
  accessFlags := 1537
  interfaces := #[]
  cf := some (fileOf pool7 2 #[] #[] 1537 4 #[] #[])
  fields := #[]
  methods := #[]
  instanceTypes := #[]
  staticTypes := #[]
  resolved := Array.replicate 8 none
  statics := none }

/-- the primitive byte -/
def k8 : Class := { plain "byte" none with kind := .primitive 'B', accessFlags := 0x411 }
/-- [B -/
def k9 : Class := { plain "[B" (some 0) with kind := .array 8 .byte, interfaces := #[4, 7], accessFlags := 1041 }

/-- the primitive int -/
def k10 : Class := { plain "int" none with kind := .primitive 'I', accessFlags := 0x411 }
/-- [I -/
def k11 : Class := { plain "[I" (some 0) with kind := .array 10 .int, interfaces := #[4, 7], accessFlags := 1041 }

/-- the primitive long -/
def k12 : Class := { plain "long" none with kind := .primitive 'J', accessFlags := 0x411 }
/-- [J -/
def k13 : Class := { plain "[J" (some 0) with kind := .array 12 .long, interfaces := #[4, 7], accessFlags := 1041 }

/-- the primitive short -/
def k14 : Class := { plain "short" none with kind := .primitive 'S', accessFlags := 0x411 }
/-- [S -/
def k15 : Class := { plain "[S" (some 0) with kind := .array 14 .short, interfaces := #[4, 7], accessFlags := 1041 }

def heap : Heap := #[]
def classes : Array Class := #[k0, k1, k2, k3, k4, k5, k6, k7, k8, k9, k10, k11, k12, k13, k14, k15]
def interned : List (Array UInt16 × Addr) := []
def slotsUsed : Nat := 0
def theMethod : MethodId := ⟨1, 1⟩
def args0 : Array Value := #[.int 5, .int 9, .long 2, .int 2, .int 1, .long 1]
def aboutOver (below : List Frame) : State where
  vm := { classes := classes, interned := interned.toArray }
  heap := heap
  slotsUsed := slotsUsed
  threads := #[{ frames := .invoking theMethod args0 :: below }]
def below0 : List Frame := [.native { method := ⟨0, 0⟩, args := #[] }]
def about1 : State := aboutOver below0
def p0 : Program := .bare "" "" ""
def e0 : Env := launch0.env 0 0 0
theorem w_frames : about1.frames = Frame.invoking theMethod args0 :: below0 := rfl
set_option maxRecDepth 65536 in
theorem w_args : argsFit about1.vm theMethod args0 = true := by decide +kernel
set_option maxRecDepth 65536 in
theorem w_heap : heapFits about1 = true := by decide +kernel
set_option maxRecDepth 65536 in
theorem w_runnable : about1.curStatus? = some .runnable := by decide +kernel
set_option maxRecDepth 65536 in
theorem w_alone : about1.alone = true := by decide +kernel
set_option maxRecDepth 65536 in
theorem w_named : about1.methodNamed? x = some theMethod := by decide +kernel
set_option maxRecDepth 65536 in
theorem w_hears : about1.hears theMethod below0 = true := by decide +kernel
set_option maxRecDepth 65536 in
theorem w_ripe : about1.ripe theMethod args0 below0 = true := by decide +kernel
theorem w_running : about1.status = .running := rfl
set_option maxRecDepth 65536 in
theorem w_room : about1.hasRoom e0.platform room_1 = true :=
  launch0.hasRoom_least _ room_1 (by decide +kernel) (by decide +kernel) (by decide +kernel) (by decide +kernel) (by decide +kernel) (by decide +kernel)
theorem allAtoms_all (ts : List Jvm.Cond) (a : Array Jvm.Value) (st : Jvm.State) : (allAtoms ts).before a st = ts.all (fun c => c.before a st) := by
  induction ts with
  | nil => rfl
  | cons c t ih =>
    show (Jvm.Cond.and c (allAtoms t)).before a st = _
    rw [Jvm.Cond.before_and, ih, List.all_cons]
def words1 : List Jvm.Cond := Jvm.Cond.code x code maxLocals ret :: tables_1
/-- a 'code' word, met by the world's own term for the bytes: nothing is compared byte by byte -/
theorem code_word {y : MethodName} {bytes : ByteArray} {mx : Nat} {rt : Option FieldType} {a : Array Value} {s : State} {m : MethodId} {meth : Method} {c : Code} (h1 : s.methodNamed? y = some m) (h2 : s.vm.method? m = some meth) (h3 : meth.code = some c) (h4 : c.code = bytes)
    (h5 : (c.maxLocals == mx && c.exceptionTable.isEmpty && decide (c.maxStack ≤ mostOperands) && decide (meth.sig.returnType = rt) && !meth.locks && decide (parseMethodDescriptor y.desc = some meth.sig)) = true) : (Jvm.Cond.code y bytes mx rt).before a s = true := by
  simp only [Bool.and_eq_true, beq_iff_eq, Bool.not_eq_true', decide_eq_true_eq] at h5
  obtain ⟨⟨⟨⟨⟨g1, g2⟩, g3⟩, g4⟩, g5⟩, g6⟩ := h5
  simp [Cond.before, Cond.holds, Cond.value, h1, h2, h3, h4, g1, g2, g3, g4, g5, g6]
def isCode : Jvm.Cond → Bool
  | .code _ _ _ _ => true
  | _ => false
theorem all_split {L : List Jvm.Cond} {P : Jvm.Cond → Bool} (h1 : L.all (fun c => isCode c || P c) = true) (h2 : ∀ c ∈ L.filter isCode, P c = true) : L.all P = true := by
  refine List.all_eq_true.mpr fun c hc => ?_
  have h := List.all_eq_true.mp h1 c hc
  rcases Bool.eq_false_or_eq_true (isCode c) with hi | hi
  · exact h2 c (List.mem_filter.mpr ⟨hc, hi⟩)
  · simpa [hi] using h
set_option maxRecDepth 65536 in
theorem w_c0 : (Jvm.Cond.code x code maxLocals ret).before args0 about1 = true := code_word (m := ⟨1, 1⟩) (meth := k1m1) (c := k1c1) (by decide +kernel) rfl rfl rfl (by decide +kernel)
set_option maxRecDepth 65536 in
theorem w_c1 : (Jvm.Cond.code ({ cls := "com/example/millrace/millrace/examples/CompactIntegers", name := "<init>", desc := "(I)V" } : Jvm.MethodName) prog_16_method_1_code (2 : Nat) (Option.none : Option Jvm.ClassFile.FieldType)).before args0 about1 = true := code_word (m := ⟨2, 0⟩) (meth := k2m0) (c := k2c0) (by decide +kernel) rfl rfl rfl (by decide +kernel)
set_option maxRecDepth 65536 in
theorem w_c2 : (Jvm.Cond.code ({ cls := "com/example/millrace/millrace/examples/CompactIntegers", name := "<init>", desc := "(II)V" } : Jvm.MethodName) prog_16_method_2_code (3 : Nat) (Option.none : Option Jvm.ClassFile.FieldType)).before args0 about1 = true := code_word (m := ⟨2, 1⟩) (meth := k2m1) (c := k2c1) (by decide +kernel) rfl rfl rfl (by decide +kernel)
set_option maxRecDepth 65536 in
theorem w_c3 : (Jvm.Cond.code ({ cls := "java/lang/Object", name := "<init>", desc := "()V" } : Jvm.MethodName) object_method_1_code (1 : Nat) (Option.none : Option Jvm.ClassFile.FieldType)).before args0 about1 = true := code_word (m := ⟨0, 0⟩) (meth := k0m0) (c := k0c0) (by decide +kernel) rfl rfl rfl (by decide +kernel)
set_option maxRecDepth 65536 in
theorem w_c4 : (Jvm.Cond.code ({ cls := "com/example/millrace/millrace/examples/CompactIntegers", name := "length", desc := "()I" } : Jvm.MethodName) prog_16_method_3_code (1 : Nat) (Option.some Jvm.ClassFile.FieldType.int)).before args0 about1 = true := code_word (m := ⟨2, 2⟩) (meth := k2m2) (c := k2c2) (by decide +kernel) rfl rfl rfl (by decide +kernel)
set_option maxRecDepth 65536 in
theorem w_c5 : (Jvm.Cond.code ({ cls := "com/example/millrace/millrace/examples/CompactIntegers", name := "resize", desc := "(I)V" } : Jvm.MethodName) prog_16_method_6_code (2 : Nat) (Option.none : Option Jvm.ClassFile.FieldType)).before args0 about1 = true := code_word (m := ⟨2, 5⟩) (meth := k2m5) (c := k2c5) (by decide +kernel) rfl rfl rfl (by decide +kernel)
set_option maxRecDepth 65536 in
theorem w_c6 : (Jvm.Cond.code ({ cls := "java/util/Arrays", name := "copyOf", desc := "([BI)[B" } : Jvm.MethodName) jdk_65_method_121_code (3 : Nat) (Option.some (Jvm.ClassFile.FieldType.array Jvm.ClassFile.FieldType.byte))).before args0 about1 = true := code_word (m := ⟨3, 1⟩) (meth := k3m1) (c := k3c1) (by decide +kernel) rfl rfl rfl (by decide +kernel)
set_option maxRecDepth 65536 in
theorem w_c7 : (Jvm.Cond.code ({ cls := "com/example/millrace/millrace/examples/CompactIntegers", name := "set", desc := "(IJ)V" } : Jvm.MethodName) prog_16_method_5_code (5 : Nat) (Option.none : Option Jvm.ClassFile.FieldType)).before args0 about1 = true := code_word (m := ⟨2, 4⟩) (meth := k2m4) (c := k2c4) (by decide +kernel) rfl rfl rfl (by decide +kernel)
set_option maxRecDepth 65536 in
theorem w_c8 : (Jvm.Cond.code ({ cls := "com/example/millrace/millrace/examples/CompactIntegers", name := "widthOf", desc := "(J)I" } : Jvm.MethodName) prog_16_method_7_code (3 : Nat) (Option.some Jvm.ClassFile.FieldType.int)).before args0 about1 = true := code_word (m := ⟨2, 6⟩) (meth := k2m6) (c := k2c6) (by decide +kernel) rfl rfl rfl (by decide +kernel)
set_option maxRecDepth 65536 in
theorem w_c9 : (Jvm.Cond.code ({ cls := "com/example/millrace/millrace/examples/CompactIntegers", name := "widen", desc := "(I)V" } : Jvm.MethodName) prog_16_method_8_code (4 : Nat) (Option.none : Option Jvm.ClassFile.FieldType)).before args0 about1 = true := code_word (m := ⟨2, 7⟩) (meth := k2m7) (c := k2c7) (by decide +kernel) rfl rfl rfl (by decide +kernel)
set_option maxRecDepth 65536 in
theorem w_c10 : (Jvm.Cond.code ({ cls := "com/example/millrace/millrace/examples/CompactIntegers", name := "get", desc := "(I)J" } : Jvm.MethodName) prog_16_method_4_code (2 : Nat) (Option.some Jvm.ClassFile.FieldType.long)).before args0 about1 = true := code_word (m := ⟨2, 3⟩) (meth := k2m3) (c := k2c3) (by decide +kernel) rfl rfl rfl (by decide +kernel)
set_option maxRecDepth 65536 in
theorem w_c11 : (Jvm.Cond.code ({ cls := "java/util/Arrays", name := "copyOf", desc := "([JI)[J" } : Jvm.MethodName) jdk_65_method_124_code (3 : Nat) (Option.some (Jvm.ClassFile.FieldType.array Jvm.ClassFile.FieldType.long))).before args0 about1 = true := code_word (m := ⟨3, 4⟩) (meth := k3m4) (c := k3c4) (by decide +kernel) rfl rfl rfl (by decide +kernel)
set_option maxRecDepth 65536 in
theorem w_c12 : (Jvm.Cond.code ({ cls := "java/lang/Math", name := "min", desc := "(II)I" } : Jvm.MethodName) jdk_29_method_69_code (2 : Nat) (Option.some Jvm.ClassFile.FieldType.int)).before args0 about1 = true := code_word (m := ⟨5, 1⟩) (meth := k5m1) (c := k5c1) (by decide +kernel) rfl rfl rfl (by decide +kernel)
set_option maxRecDepth 65536 in
theorem w_c13 : (Jvm.Cond.code ({ cls := "java/util/Arrays", name := "copyOf", desc := "([II)[I" } : Jvm.MethodName) jdk_65_method_123_code (3 : Nat) (Option.some (Jvm.ClassFile.FieldType.array Jvm.ClassFile.FieldType.int))).before args0 about1 = true := code_word (m := ⟨3, 3⟩) (meth := k3m3) (c := k3c3) (by decide +kernel) rfl rfl rfl (by decide +kernel)
set_option maxRecDepth 65536 in
theorem w_c14 : (Jvm.Cond.code ({ cls := "java/util/Arrays", name := "copyOf", desc := "([SI)[S" } : Jvm.MethodName) jdk_65_method_122_code (3 : Nat) (Option.some (Jvm.ClassFile.FieldType.array Jvm.ClassFile.FieldType.short))).before args0 about1 = true := code_word (m := ⟨3, 2⟩) (meth := k3m2) (c := k3c2) (by decide +kernel) rfl rfl rfl (by decide +kernel)
def codes1 : List Jvm.Cond := [Jvm.Cond.code x code maxLocals ret, Jvm.Cond.code ({ cls := "com/example/millrace/millrace/examples/CompactIntegers", name := "<init>", desc := "(I)V" } : Jvm.MethodName) prog_16_method_1_code (2 : Nat) (Option.none : Option Jvm.ClassFile.FieldType), Jvm.Cond.code ({ cls := "com/example/millrace/millrace/examples/CompactIntegers", name := "<init>", desc := "(II)V" } : Jvm.MethodName) prog_16_method_2_code (3 : Nat) (Option.none : Option Jvm.ClassFile.FieldType), Jvm.Cond.code ({ cls := "java/lang/Object", name := "<init>", desc := "()V" } : Jvm.MethodName) object_method_1_code (1 : Nat) (Option.none : Option Jvm.ClassFile.FieldType), Jvm.Cond.code ({ cls := "com/example/millrace/millrace/examples/CompactIntegers", name := "length", desc := "()I" } : Jvm.MethodName) prog_16_method_3_code (1 : Nat) (Option.some Jvm.ClassFile.FieldType.int), Jvm.Cond.code ({ cls := "com/example/millrace/millrace/examples/CompactIntegers", name := "resize", desc := "(I)V" } : Jvm.MethodName) prog_16_method_6_code (2 : Nat) (Option.none : Option Jvm.ClassFile.FieldType), Jvm.Cond.code ({ cls := "java/util/Arrays", name := "copyOf", desc := "([BI)[B" } : Jvm.MethodName) jdk_65_method_121_code (3 : Nat) (Option.some (Jvm.ClassFile.FieldType.array Jvm.ClassFile.FieldType.byte)), Jvm.Cond.code ({ cls := "com/example/millrace/millrace/examples/CompactIntegers", name := "set", desc := "(IJ)V" } : Jvm.MethodName) prog_16_method_5_code (5 : Nat) (Option.none : Option Jvm.ClassFile.FieldType), Jvm.Cond.code ({ cls := "com/example/millrace/millrace/examples/CompactIntegers", name := "widthOf", desc := "(J)I" } : Jvm.MethodName) prog_16_method_7_code (3 : Nat) (Option.some Jvm.ClassFile.FieldType.int), Jvm.Cond.code ({ cls := "com/example/millrace/millrace/examples/CompactIntegers", name := "widen", desc := "(I)V" } : Jvm.MethodName) prog_16_method_8_code (4 : Nat) (Option.none : Option Jvm.ClassFile.FieldType), Jvm.Cond.code ({ cls := "com/example/millrace/millrace/examples/CompactIntegers", name := "get", desc := "(I)J" } : Jvm.MethodName) prog_16_method_4_code (2 : Nat) (Option.some Jvm.ClassFile.FieldType.long), Jvm.Cond.code ({ cls := "java/util/Arrays", name := "copyOf", desc := "([JI)[J" } : Jvm.MethodName) jdk_65_method_124_code (3 : Nat) (Option.some (Jvm.ClassFile.FieldType.array Jvm.ClassFile.FieldType.long)), Jvm.Cond.code ({ cls := "java/lang/Math", name := "min", desc := "(II)I" } : Jvm.MethodName) jdk_29_method_69_code (2 : Nat) (Option.some Jvm.ClassFile.FieldType.int), Jvm.Cond.code ({ cls := "java/util/Arrays", name := "copyOf", desc := "([II)[I" } : Jvm.MethodName) jdk_65_method_123_code (3 : Nat) (Option.some (Jvm.ClassFile.FieldType.array Jvm.ClassFile.FieldType.int)), Jvm.Cond.code ({ cls := "java/util/Arrays", name := "copyOf", desc := "([SI)[S" } : Jvm.MethodName) jdk_65_method_122_code (3 : Nat) (Option.some (Jvm.ClassFile.FieldType.array Jvm.ClassFile.FieldType.short))]
set_option maxRecDepth 65536 in
theorem codes_eq : words1.filter isCode = codes1 := rfl
theorem w_codes : ∀ c ∈ words1.filter isCode, c.before args0 about1 = true := by
  rw [codes_eq]
  intro c hc
  simp only [codes1, List.mem_cons, List.not_mem_nil, or_false] at hc
  rcases hc with rfl | rfl | rfl | rfl | rfl | rfl | rfl | rfl | rfl | rfl | rfl | rfl | rfl | rfl | rfl
  · exact w_c0
  · exact w_c1
  · exact w_c2
  · exact w_c3
  · exact w_c4
  · exact w_c5
  · exact w_c6
  · exact w_c7
  · exact w_c8
  · exact w_c9
  · exact w_c10
  · exact w_c11
  · exact w_c12
  · exact w_c13
  · exact w_c14
set_option maxRecDepth 65536 in
theorem w_t1 : (words1.take 24).all (fun c => isCode c || c.before args0 about1) = true := by decide +kernel
set_option maxRecDepth 65536 in
theorem w_t2 : ((words1.drop 24).take 24).all (fun c => isCode c || c.before args0 about1) = true := by decide +kernel
set_option maxRecDepth 65536 in
theorem w_t3 : (((words1.drop 24).drop 24).take 24).all (fun c => isCode c || c.before args0 about1) = true := by decide +kernel
set_option maxRecDepth 65536 in
theorem w_t4 : ((((words1.drop 24).drop 24).drop 24).take 24).all (fun c => isCode c || c.before args0 about1) = true := by decide +kernel
set_option maxRecDepth 65536 in
theorem w_t5 : ((((words1.drop 24).drop 24).drop 24).drop 24).all (fun c => isCode c || c.before args0 about1) = true := by decide +kernel
theorem w_tables : (allAtoms (Jvm.Cond.code x code maxLocals ret :: tables_1)).before args0 about1 = true := by
  rw [allAtoms_all]
  show words1.all (fun c => c.before args0 about1) = true
  refine all_split ?_ w_codes
  rw [← List.take_append_drop 24 words1, List.all_append, w_t1, ← List.take_append_drop 24 (words1.drop 24), List.all_append, w_t2, ← List.take_append_drop 24 ((words1.drop 24).drop 24), List.all_append, w_t3, ← List.take_append_drop 24 (((words1.drop 24).drop 24).drop 24), List.all_append, w_t4, w_t5]
  rfl
set_option maxRecDepth 65536 in
theorem w_case : (Jvm.Cond.and given_1 narrow_1).before args0 about1 = true := by decide +kernel
theorem w_applies : (headSpec (Jvm.Cond.code x code maxLocals ret :: tables_1) room_1).applies x e0.platform about1 = true :=
  (Spec.applies_iff w_frames).mpr ⟨w_running, w_runnable, w_alone, w_named, w_hears, w_ripe, w_room, w_tables⟩
theorem atStart : AtStart classFile x code maxLocals ret World_1 tables_1 room_1 Calls_1 rest_1 Pre_1 launch0 p0 e0 about1 theMethod args0 below0 :=
  ⟨lists_1, trivial, launch0.admits_env _ _ _, launch0.least_env, fairChoices_fair.cas, fairChoices_fair.clock, w_frames, w_args, w_heap, w_applies, trivial, trivial, w_case⟩
end start1
theorem witness_1 : WitnessClaimed_1 := ⟨start1.p0, start1.e0, start1.about1, start1.theMethod, start1.args0, start1.below0, start1.atStart⟩
end Jvm.Pilot.@@N@@
