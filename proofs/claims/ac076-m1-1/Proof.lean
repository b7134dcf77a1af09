import JvmDerived
import JvmDerived.Pilot.@@N@@Statement
import JvmDerived.Pilot.@@N@@Code
set_option linter.unusedVariables false
set_option linter.unusedSimpArgs false
namespace Jvm.Pilot.@@N@@
open Jvm Jvm.ClassFile Sem Op Lib Jvm.Free Jvm.Stand Jvm.LawKit Jvm.RoadKit Bundle Jvm.Pilot.@@N@@.Jvm.D

/-! THE OWN LAYER. 1. Straight roads by evaluation: an instruction, its length, the int that it brings, where a goto leads -/
abbrev El := Instr × Nat × Int32 × Nat
def okc (i : Instr) (n : Nat) (k : Int32) (t pc : Nat) : Bool :=
  match i with
  | .iload _ => n == 2
  | .lload _ => n == 2
  | .aload _ => n == 2
  | .istore _ => n == 2
  | .lstore _ => n == 2
  | .astore _ => n == 2
  | .bipush j => n == 2 && decide ((Int8.ofInt j).toInt32 = k)
  | .sipush j => n == 3 && decide ((Int16.ofInt j).toInt32 = k)
  | .iconst j => n == 1 && decide (Int32.ofInt j = k)
  | .iinc _ j => n == 3 && decide (Int32.ofInt j = k)
  | .goto o => n == 3 && (decide (0 ≤ (pc : Int) + o) && decide (((pc : Int) + o).toNat = t))
  | .ldc _ => n == 2
  | .ldc2_w _ => n == 3
  | _ => n == 1
def nx (i : Instr) (n t pc : Nat) : Nat := match i with | .goto _ => t | _ => pc + n
def Dec (b : ByteArray) : List El → Nat → Nat → Bool
  | [], pc, pc' => pc == pc'
  | (i, n, k, t) :: L, pc, pc' => decide (decode b pc = .ok (i, n)) && (okc i n k t pc && Dec b L (nx i n t pc) pc')
def own_look {α : Type} : List (Nat × α) → Nat → Option α
  | [], _ => none
  | q :: r, i => if i = q.1 then some q.2 else own_look r i
theorem own_look_mem {α : Type} : ∀ (L : List (Nat × α)) (i : Nat) (v : α), own_look L i = some v → (i, v) ∈ L
  | [], _, _, h => nomatch h
  | q :: r, i, v, h => by
    unfold own_look at h
    split at h
    · rename_i e; cases h; subst e; exact List.mem_cons_self ..
    · exact List.mem_cons_of_mem _ (own_look_mem r i v h)
def pV (KI : List (Nat × Int32)) (KJ : List (Nat × Int64)) (i : Instr) (k : Int32) (ls : Array Slot) (st : List Value) : Option (Array Slot × List Value) :=
  match i with
  | .iload_n a => match ls[a.val]? with | some (.val (.int v)) => some (ls, .int v :: st) | _ => none
  | .iload a => match ls[a]? with | some (.val (.int v)) => some (ls, .int v :: st) | _ => none
  | .lload_n a => match ls[a.val]? with | some (.val (.long v)) => some (ls, .long v :: st) | _ => none
  | .lload a => match ls[a]? with | some (.val (.long v)) => some (ls, .long v :: st) | _ => none
  | .aload_n a => match ls[a.val]? with | some (.val (.ref v)) => some (ls, .ref v :: st) | some (.val .null) => some (ls, .null :: st) | _ => none
  | .aload a => match ls[a]? with | some (.val (.ref v)) => some (ls, .ref v :: st) | some (.val .null) => some (ls, .null :: st) | _ => none
  | .istore_n a => match st with | .int x :: r => (match storeLocals ls a.val (.int x) with | some l2 => some (l2, r) | none => none) | _ => none
  | .istore a => match st with | .int x :: r => (match storeLocals ls a (.int x) with | some l2 => some (l2, r) | none => none) | _ => none
  | .lstore_n a => match st with | .long x :: r => (match storeLocals ls a.val (.long x) with | some l2 => some (l2, r) | none => none) | _ => none
  | .lstore a => match st with | .long x :: r => (match storeLocals ls a (.long x) with | some l2 => some (l2, r) | none => none) | _ => none
  | .astore_n a => match st with | .ref x :: r => (match storeLocals ls a.val (.ref x) with | some l2 => some (l2, r) | none => none) | .null :: r => (match storeLocals ls a.val .null with | some l2 => some (l2, r) | none => none) | _ => none
  | .astore a => match st with | .ref x :: r => (match storeLocals ls a (.ref x) with | some l2 => some (l2, r) | none => none) | .null :: r => (match storeLocals ls a .null with | some l2 => some (l2, r) | none => none) | _ => none
  | .iconst j => some (ls, .int k :: st)
  | .bipush j => some (ls, .int k :: st)
  | .sipush j => some (ls, .int k :: st)
  | .lconst j => match j with | 0 => some (ls, .long 0 :: st) | 1 => some (ls, .long 1 :: st)
  | .aconst_null => some (ls, .null :: st)
  | .iadd => match st with | .int y :: .int x :: r => some (ls, .int (x + y) :: r) | _ => none
  | .isub => match st with | .int y :: .int x :: r => some (ls, .int (x - y) :: r) | _ => none
  | .imul => match st with | .int y :: .int x :: r => some (ls, .int (x * y) :: r) | _ => none
  | .iand => match st with | .int y :: .int x :: r => some (ls, .int (x &&& y) :: r) | _ => none
  | .ior => match st with | .int y :: .int x :: r => some (ls, .int (x ||| y) :: r) | _ => none
  | .ixor => match st with | .int y :: .int x :: r => some (ls, .int (x ^^^ y) :: r) | _ => none
  | .ishl => match st with | .int y :: .int x :: r => some (ls, .int (x <<< (y &&& 31)) :: r) | _ => none
  | .ishr => match st with | .int y :: .int x :: r => some (ls, .int (x >>> (y &&& 31)) :: r) | _ => none
  | .iushr => match st with | .int y :: .int x :: r => some (ls, .int (XT.ushr x y) :: r) | _ => none
  | .ladd => match st with | .long y :: .long x :: r => some (ls, .long (x + y) :: r) | _ => none
  | .lsub => match st with | .long y :: .long x :: r => some (ls, .long (x - y) :: r) | _ => none
  | .lmul => match st with | .long y :: .long x :: r => some (ls, .long (x * y) :: r) | _ => none
  | .land => match st with | .long y :: .long x :: r => some (ls, .long (x &&& y) :: r) | _ => none
  | .lor => match st with | .long y :: .long x :: r => some (ls, .long (x ||| y) :: r) | _ => none
  | .lxor => match st with | .long y :: .long x :: r => some (ls, .long (x ^^^ y) :: r) | _ => none
  | .lshl => match st with | .int y :: .long x :: r => some (ls, .long (x <<< (y.toInt64 &&& 63)) :: r) | _ => none
  | .lushr => match st with | .int y :: .long x :: r => some (ls, .long (XT.ushrL x y) :: r) | _ => none
  | .lshr => match st with | .int y :: .long x :: r => some (ls, .long (x >>> (y.toInt64 &&& 63)) :: r) | _ => none
  | .ineg => match st with | .int x :: r => some (ls, .int (-x) :: r) | _ => none
  | .lneg => match st with | .long x :: r => some (ls, .long (-x) :: r) | _ => none
  | .i2l => match st with | .int x :: r => some (ls, .long x.toInt64 :: r) | _ => none
  | .l2i => match st with | .long x :: r => some (ls, .int x.toInt32 :: r) | _ => none
  | .i2b => match st with | .int x :: r => some (ls, .int x.toInt8.toInt32 :: r) | _ => none
  | .i2s => match st with | .int x :: r => some (ls, .int x.toInt16.toInt32 :: r) | _ => none
  | .dup => match st with | .int x :: r => some (ls, .int x :: .int x :: r) | .ref x :: r => some (ls, .ref x :: .ref x :: r) | _ => none
  | .dup2 => match st with | .int x :: .ref y :: r => some (ls, .int x :: .ref y :: .int x :: .ref y :: r) | .long x :: r => some (ls, .long x :: .long x :: r) | _ => none
  | .dup_x2 => match st with | .int x :: .int y :: .ref z :: r => some (ls, .int x :: .int y :: .ref z :: .int x :: r) | _ => none
  | .goto o => some (ls, st)
  | .iinc a j => match ls[a]? with | some (.val (.int v)) => (match storeLocals ls a (.int (v + k)) with | some l2 => some (l2, st) | none => none) | _ => none
  | .ldc a => match own_look KI a with | some v => some (ls, .int v :: st) | none => none
  | .ldc2_w a => match own_look KJ a with | some v => some (ls, .long v :: st) | none => none
  | _ => none
def prun (KI : List (Nat × Int32)) (KJ : List (Nat × Int64)) : List El → Array Slot → List Value → Option (Array Slot × List Value)
  | [], ls, st => some (ls, st)
  | (i, _, k, _) :: L, ls, st => match pV KI KJ i k ls st with | some (l2, s2) => prun KI KJ L l2 s2 | none => none
theorem own_dupX2 {tb : Tables} [Ours tb] {e : Env} {below : List Frame} {T target : State} {m : MethodId} {c : Code} {g : JFrame} (h : At T m c below) (hx : tb.exec = Jvm.exec) (hg : g.method = m) {x y z : Value} {rest : List Value} (hd : decode c.code g.pc = .ok (.dup_x2, 1)) (hs : g.stack = x :: y :: z :: rest) (h1 : x.category = 1) (h2 : y.category = 1) (h3 : z.category = 1)
    (hr : Steps tb e below (T.setTop { g with pc := g.pc + 1, stack := x :: y :: z :: x :: rest }) target) : Steps tb e below (T.setTop g) target := by
  subst hg
  jvm_step h [h.top, hx, hd, hs, h1, h2, h3, dup_x2.wp_sem]
  exact hr
section OwnSteps
variable {p : Program} {l : Launch} {e : Env} {R : Room} {s : State} {m : MethodId} {args : Array Value} {below : List Frame} {meth : Method} {c : Code} {T : State} {locs : List Loc} {cells slots : Nat} {Z : State} {a0 : Array Value} {own : String} {KI : List (Nat × Int32)} {KJ : List (Nat × Int64)}
set_option maxHeartbeats 4000000 in
theorem pV_ok (X : Stand p l e R s m args below meth c T locs cells slots) (hx : p.tables.exec = Jvm.exec) (hZ : Z.Warmed39 s.vm) (hown : s.vm.findClass own = some m.cls) (hKI : ∀ q ∈ KI, (Jvm.Cond.constant own q.1 q.2).before a0 Z = true) (hKJ : ∀ q ∈ KJ, (Jvm.Cond.constantLong own q.1 q.2).before a0 Z = true)
    {pc n t : Nat} {i : Instr} {k : Int32} {ls ls' : Array Slot} {st st' : List Value} (hd : decode c.code pc = .ok (i, n)) (ho : okc i n k t pc = true) (h : pV KI KJ i k ls st = some (ls', st')) {target : State}
    (hr : Steps p.tables e below (T.setTop (mkF m (nx i n t pc) ls' st')) target) : Steps p.tables e below (T.setTop (mkF m pc ls st)) target := by
  cases i
  case iload_n a =>
    simp only [okc, beq_iff_eq] at ho
    subst ho
    simp only [pV] at h
    split at h
    · cases h
      exact XS.iloadN X.here hx rfl hd (by assumption) hr
    · cases h
  case iload a =>
    simp only [okc, beq_iff_eq] at ho
    subst ho
    simp only [pV] at h
    split at h
    · cases h
      exact XS.iload X.here hx rfl hd (by assumption) hr
    · cases h
  case lload_n a =>
    simp only [okc, beq_iff_eq] at ho
    subst ho
    simp only [pV] at h
    split at h
    · cases h
      exact XT.lloadN X.here hx rfl hd (by assumption) hr
    · cases h
  case lload a =>
    simp only [okc, beq_iff_eq] at ho
    subst ho
    simp only [pV] at h
    split at h
    · cases h
      exact XT.lload X.here hx rfl hd (by assumption) hr
    · cases h
  case aload_n a =>
    simp only [okc, beq_iff_eq] at ho
    subst ho
    simp only [pV] at h
    split at h
    · cases h
      exact XS.aloadN X.here hx rfl hd (by assumption) rfl hr
    · cases h
      exact XS.aloadN X.here hx rfl hd (by assumption) rfl hr
    · cases h
  case aload a =>
    simp only [okc, beq_iff_eq] at ho
    subst ho
    simp only [pV] at h
    split at h
    · cases h
      exact XS.aload X.here hx rfl hd (by assumption) rfl hr
    · cases h
      exact XS.aload X.here hx rfl hd (by assumption) rfl hr
    · cases h
  case istore_n a =>
    simp only [okc, beq_iff_eq] at ho
    subst ho
    simp only [pV] at h
    split at h
    · split at h
      · cases h
        exact XS.istoreN X.here hx rfl hd rfl (by assumption) hr
      · cases h
    · cases h
  case istore a =>
    simp only [okc, beq_iff_eq] at ho
    subst ho
    simp only [pV] at h
    split at h
    · split at h
      · cases h
        exact XS.istore X.here hx rfl hd rfl (by assumption) hr
      · cases h
    · cases h
  case lstore_n a =>
    simp only [okc, beq_iff_eq] at ho
    subst ho
    simp only [pV] at h
    split at h
    · split at h
      · cases h
        exact XT.lstoreN X.here hx rfl hd rfl (by assumption) hr
      · cases h
    · cases h
  case lstore a =>
    simp only [okc, beq_iff_eq] at ho
    subst ho
    simp only [pV] at h
    split at h
    · split at h
      · cases h
        exact XT.lstore X.here hx rfl hd rfl (by assumption) hr
      · cases h
    · cases h
  case astore_n a =>
    simp only [okc, beq_iff_eq] at ho
    subst ho
    simp only [pV] at h
    split at h
    · split at h
      · cases h
        exact XS.astoreN X.here hx rfl hd rfl rfl (by assumption) hr
      · cases h
    · split at h
      · cases h
        exact XS.astoreN X.here hx rfl hd rfl rfl (by assumption) hr
      · cases h
    · cases h
  case astore a =>
    simp only [okc, beq_iff_eq] at ho
    subst ho
    simp only [pV] at h
    split at h
    · split at h
      · cases h
        exact XS.astore X.here hx rfl hd rfl rfl (by assumption) hr
      · cases h
    · split at h
      · cases h
        exact XS.astore X.here hx rfl hd rfl rfl (by assumption) hr
      · cases h
    · cases h
  case iconst j =>
    simp only [okc, Bool.and_eq_true, beq_iff_eq, decide_eq_true_eq] at ho
    obtain ⟨rfl, rfl⟩ := ho
    simp only [pV] at h
    cases h
    exact XS.iconst X.here hx rfl hd hr
  case bipush j =>
    simp only [okc, Bool.and_eq_true, beq_iff_eq, decide_eq_true_eq] at ho
    obtain ⟨rfl, rfl⟩ := ho
    simp only [pV] at h
    cases h
    exact XS.bipush X.here hx rfl hd hr
  case sipush j =>
    simp only [okc, Bool.and_eq_true, beq_iff_eq, decide_eq_true_eq] at ho
    obtain ⟨rfl, rfl⟩ := ho
    simp only [pV] at h
    cases h
    exact XS.sipush X.here hx rfl hd hr
  case lconst j =>
    simp only [okc, beq_iff_eq] at ho
    subst ho
    simp only [pV] at h
    split at h
    · cases h
      exact XT.lconst X.here hx rfl hd hr
    · cases h
      exact XT.lconst X.here hx rfl hd hr
  case aconst_null =>
    simp only [okc, beq_iff_eq] at ho
    subst ho
    simp only [pV] at h
    cases h
    exact XS.aconstNull X.here hx rfl hd hr
  case iadd =>
    simp only [okc, beq_iff_eq] at ho
    subst ho
    simp only [pV] at h
    split at h
    · cases h
      exact XS.iadd X.here hx rfl hd rfl hr
    · cases h
  case isub =>
    simp only [okc, beq_iff_eq] at ho
    subst ho
    simp only [pV] at h
    split at h
    · cases h
      exact XS.isub X.here hx rfl hd rfl hr
    · cases h
  case imul =>
    simp only [okc, beq_iff_eq] at ho
    subst ho
    simp only [pV] at h
    split at h
    · cases h
      exact XS.imul X.here hx rfl hd rfl hr
    · cases h
  case iand =>
    simp only [okc, beq_iff_eq] at ho
    subst ho
    simp only [pV] at h
    split at h
    · cases h
      exact XS.iand X.here hx rfl hd rfl hr
    · cases h
  case ior =>
    simp only [okc, beq_iff_eq] at ho
    subst ho
    simp only [pV] at h
    split at h
    · cases h
      exact XT.ior X.here hx rfl hd rfl hr
    · cases h
  case ixor =>
    simp only [okc, beq_iff_eq] at ho
    subst ho
    simp only [pV] at h
    split at h
    · cases h
      exact XT.ixor X.here hx rfl hd rfl hr
    · cases h
  case ishl =>
    simp only [okc, beq_iff_eq] at ho
    subst ho
    simp only [pV] at h
    split at h
    · cases h
      exact XT.ishl X.here hx rfl hd rfl hr
    · cases h
  case ishr =>
    simp only [okc, beq_iff_eq] at ho
    subst ho
    simp only [pV] at h
    split at h
    · cases h
      exact XT.ishr X.here hx rfl hd rfl hr
    · cases h
  case iushr =>
    simp only [okc, beq_iff_eq] at ho
    subst ho
    simp only [pV] at h
    split at h
    · cases h
      exact XT.iushr X.here hx rfl hd rfl hr
    · cases h
  case ladd =>
    simp only [okc, beq_iff_eq] at ho
    subst ho
    simp only [pV] at h
    split at h
    · cases h
      exact XT.ladd X.here hx rfl hd rfl hr
    · cases h
  case lsub =>
    simp only [okc, beq_iff_eq] at ho
    subst ho
    simp only [pV] at h
    split at h
    · cases h
      exact XT.lsub X.here hx rfl hd rfl hr
    · cases h
  case lmul =>
    simp only [okc, beq_iff_eq] at ho
    subst ho
    simp only [pV] at h
    split at h
    · cases h
      exact XT.lmul X.here hx rfl hd rfl hr
    · cases h
  case land =>
    simp only [okc, beq_iff_eq] at ho
    subst ho
    simp only [pV] at h
    split at h
    · cases h
      exact XT.land X.here hx rfl hd rfl hr
    · cases h
  case lor =>
    simp only [okc, beq_iff_eq] at ho
    subst ho
    simp only [pV] at h
    split at h
    · cases h
      exact XT.lor X.here hx rfl hd rfl hr
    · cases h
  case lxor =>
    simp only [okc, beq_iff_eq] at ho
    subst ho
    simp only [pV] at h
    split at h
    · cases h
      exact XT.lxor X.here hx rfl hd rfl hr
    · cases h
  case lshl =>
    simp only [okc, beq_iff_eq] at ho
    subst ho
    simp only [pV] at h
    split at h
    · cases h
      exact XT.lshl X.here hx rfl hd rfl hr
    · cases h
  case lushr =>
    simp only [okc, beq_iff_eq] at ho
    subst ho
    simp only [pV] at h
    split at h
    · cases h
      exact XT.lushr X.here hx rfl hd rfl hr
    · cases h
  case lshr =>
    simp only [okc, beq_iff_eq] at ho
    subst ho
    simp only [pV] at h
    split at h
    · cases h
      exact XT.lshr X.here hx rfl hd rfl hr
    · cases h
  case ineg =>
    simp only [okc, beq_iff_eq] at ho
    subst ho
    simp only [pV] at h
    split at h
    · cases h
      exact XS.ineg X.here hx rfl hd rfl hr
    · cases h
  case lneg =>
    simp only [okc, beq_iff_eq] at ho
    subst ho
    simp only [pV] at h
    split at h
    · cases h
      exact XT.lneg X.here hx rfl hd rfl hr
    · cases h
  case i2l =>
    simp only [okc, beq_iff_eq] at ho
    subst ho
    simp only [pV] at h
    split at h
    · cases h
      exact XT.i2l X.here hx rfl hd rfl hr
    · cases h
  case l2i =>
    simp only [okc, beq_iff_eq] at ho
    subst ho
    simp only [pV] at h
    split at h
    · cases h
      exact XT.l2i X.here hx rfl hd rfl hr
    · cases h
  case i2b =>
    simp only [okc, beq_iff_eq] at ho
    subst ho
    simp only [pV] at h
    split at h
    · cases h
      exact XT.i2b X.here hx rfl hd rfl hr
    · cases h
  case i2s =>
    simp only [okc, beq_iff_eq] at ho
    subst ho
    simp only [pV] at h
    split at h
    · cases h
      exact XT.i2s X.here hx rfl hd rfl hr
    · cases h
  case dup =>
    simp only [okc, beq_iff_eq] at ho
    subst ho
    simp only [pV] at h
    split at h
    · cases h
      exact XS.dup X.here hx rfl hd rfl rfl hr
    · cases h
      exact XS.dup X.here hx rfl hd rfl rfl hr
    · cases h
  case dup2 =>
    simp only [okc, beq_iff_eq] at ho
    subst ho
    simp only [pV] at h
    split at h
    · cases h
      exact XT.dup2 X.here hx rfl hd rfl rfl rfl hr
    · cases h
      exact XT.dup2L X.here hx rfl hd rfl hr
    · cases h
  case dup_x2 =>
    simp only [okc, beq_iff_eq] at ho
    subst ho
    simp only [pV] at h
    split at h
    · cases h
      exact own_dupX2 X.here hx rfl hd rfl rfl rfl rfl hr
    · cases h
  case goto o =>
    simp only [okc, Bool.and_eq_true, beq_iff_eq, decide_eq_true_eq] at ho
    obtain ⟨rfl, h1, h2⟩ := ho
    simp only [pV] at h
    cases h
    exact XS.goto X.here hx rfl (pc0 := pc) (pc' := t) rfl hd h1 h2 hr
  case iinc a j =>
    simp only [okc, Bool.and_eq_true, beq_iff_eq, decide_eq_true_eq] at ho
    obtain ⟨rfl, rfl⟩ := ho
    simp only [pV] at h
    split at h
    · split at h
      · cases h
        exact XS.iinc X.here hx rfl hd (by assumption) (by assumption) hr
      · cases h
    · cases h
  case ldc a =>
    simp only [okc, beq_iff_eq] at ho
    subst ho
    simp only [pV] at h
    split at h
    · rename_i v q
      cases h
      exact X.ldcInt hx hown (mv hZ (hKI _ (own_look_mem _ _ _ q))) (g := mkF m pc ls st) rfl hd _ hr
    · cases h
  case ldc2_w a =>
    simp only [okc, beq_iff_eq] at ho
    subst ho
    simp only [pV] at h
    split at h
    · rename_i v q
      cases h
      exact X.ldc2Long hx hown (mv hZ (hKJ _ (own_look_mem _ _ _ q))) (g := mkF m pc ls st) rfl hd _ hr
    · cases h
  all_goals exact nomatch (show (none : Option (Array Slot × List Value)) = some (ls', st') from h)
theorem prun_ok (X : Stand p l e R s m args below meth c T locs cells slots) (hx : p.tables.exec = Jvm.exec) (hZ : Z.Warmed39 s.vm) (hown : s.vm.findClass own = some m.cls) (hKI : ∀ q ∈ KI, (Jvm.Cond.constant own q.1 q.2).before a0 Z = true) (hKJ : ∀ q ∈ KJ, (Jvm.Cond.constantLong own q.1 q.2).before a0 Z = true) {target : State} {pc' : Nat} {ls' : Array Slot} {st' : List Value} :
    ∀ (L : List El) (pc : Nat) (ls : Array Slot) (st : List Value), Dec c.code L pc pc' = true → prun KI KJ L ls st = some (ls', st') → Steps p.tables e below (T.setTop (mkF m pc' ls' st')) target → Steps p.tables e below (T.setTop (mkF m pc ls st)) target
  | [], pc, ls, st, hD, h, hr => by
    simp only [Dec, beq_iff_eq] at hD
    simp only [prun] at h
    cases h; subst hD
    exact hr
  | (i, n, k, t) :: L, pc, ls, st, hD, h, hr => by
    simp only [Dec, Bool.and_eq_true, decide_eq_true_eq] at hD
    simp only [prun] at h
    split at h
    · rename_i l2 s2 q
      exact pV_ok X hx hZ hown hKI hKJ hD.1 hD.2.1 q (prun_ok X hx hZ hown hKI hKJ L _ l2 s2 hD.2.2 h hr)
    · cases h
end OwnSteps
/-! 2. Where a walk stands (Wk), that it comes to its end (Go), a method's contract (Cnt) -/
def Wk (Z : State) (l : Launch) (p : Program) (e : Env) (R : Room) (s : State) (m : MethodId) (args : Array Value) (below : List Frame) (meth : Method) (c : Code) (own nm : String) (bytes : ByteArray) (maxL : Nat) (ret : Option FieldType) (n0 : Nat) (T : State) (h : Heap) (cells slots : Nat) : Prop :=
  (∃ locs, Stand p l e R s m args below meth c T locs cells slots ∧ Fr n0 locs) ∧ T.heap = h ∧ n0 ≤ h.size ∧ p.tables.exec = Jvm.exec ∧ Z.Warmed39 s.vm ∧ s.vm.findClass own = some m.cls ∧ c.code = bytes ∧ c.maxLocals = maxL ∧ meth.sig.returnType = ret ∧ meth.locks = false ∧ meth.name = nm
def Go (p : Program) (e : Env) (below : List Frame) (s : State) (R : Room) (n0 : Nat) (Q : Option Value → Heap → Prop) (A : State) : Prop :=
  ∃ (s₂ : State) (v : Option Value) (L : List Loc), Steps p.tables e below A s₂ ∧ s₂.status = .running ∧ Ended s₂ below (.returned v) ∧ (Q v s₂.heap ∧ n0 ≤ s₂.heap.size ∧ Fr n0 L) ∧ FrameEnd s (.returned v) s₂ L R.cells R.slots
def Cnt (l : Launch) (Z : State) (y : MethodName) (bytes : ByteArray) (maxL : Nat) (ret : Option FieldType) (rm : Room) (n0 : Nat) (as' : Array Value) (h : Heap) (Q : Option Value → Heap → Prop) : Prop :=
  ∀ ws : List Jvm.Cond, MetFree l y (head1 (Jvm.Cond.code y bytes maxL ret :: ws) rm) (fun a U => a = as' ∧ Z.Warmed39 U.vm ∧ U.heap = h) (fun _ _ _ _ _ => True) (fun _ U o U' => ∃ v L, o = .returned v ∧ (Q v U'.heap ∧ n0 ≤ U'.heap.size ∧ Fr n0 L) ∧ FrameEnd U o U' L rm.cells rm.slots)
theorem Cnt.mk {l : Launch} {Z : State} {y : MethodName} {bytes : ByteArray} {maxL : Nat} {ret : Option FieldType} {rm : Room} {n0 : Nat} {as' : Array Value} {h : Heap} {Q : Option Value → Heap → Prop} (hn : plainFor y = true) (hh : n0 ≤ h.size)
    (H : ∀ p e s m below meth c T, Wk Z l p e rm s m as' below meth c y.cls y.name bytes maxL ret n0 T h 0 0 → Go p e below s rm n0 Q (T.setTop (entryFrame m as' maxL))) : Cnt l Z y bytes maxL ret rm n0 as' h Q := by
  intro ws
  refine MetFree.of_bodySF hn hisR ?_
  intro p e s m args below meth c s₁ Bd hml hP hK
  obtain ⟨rfl, hZ, hq⟩ := hP
  have hX : Stand p l e rm s m args below meth c s₁ [] 0 0 := Stand.of_body Bd
  obtain ⟨s₂, v, L, h1, h2, h3, h4, h5⟩ := H p e s m below meth c s₁ ⟨⟨[], hX, Fr.nil n0⟩, by rw [← hq, Bd.state]; rfl, hh, Bd.exec, hZ, findClass_of_methodNamed Bd.named, Bd.bytes, hml, Bd.returns, Bd.notSynchronized, (name_of_methodNamed Bd.named Bd.method).1⟩
  exact ⟨s₂, _, h1, h2, h3, v, L, rfl, h4, h5⟩
section OwnLaws
variable {Z : State} {l : Launch} {p : Program} {e : Env} {R : Room} {s : State} {m : MethodId} {args : Array Value} {below : List Frame} {meth : Method} {c : Code} {own nm : String} {bytes : ByteArray} {maxL : Nat} {ret : Option FieldType} {n0 : Nat} {T : State} {h : Heap} {cells slots : Nat} {Q : Option Value → Heap → Prop} {a0 : Array Value} {pc : Nat} {ls : Array Slot} {st rest : List Value}
theorem Go.lift {A A' : State} (k : ∀ t, Steps p.tables e below A' t → Steps p.tables e below A t) (g : Go p e below s R n0 Q A') : Go p e below s R n0 Q A := by
  obtain ⟨s2, v, L, h1, r⟩ := g
  exact ⟨s2, v, L, k _ h1, r⟩
theorem Go.cast {g g' : JFrame} (q : g = g') (k : Go p e below s R n0 Q (T.setTop g')) : Go p e below s R n0 Q (T.setTop g) := q ▸ k
theorem Wk.blk (X : Wk Z l p e R s m args below meth c own nm bytes maxL ret n0 T h cells slots) {KI : List (Nat × Int32)} {KJ : List (Nat × Int64)} (hK : (∀ q ∈ KI, (Jvm.Cond.constant own q.1 q.2).before a0 Z = true) ∧ (∀ q ∈ KJ, (Jvm.Cond.constantLong own q.1 q.2).before a0 Z = true)) {L : List El} {pc' : Nat} {ls' : Array Slot} {st' : List Value}
    (hD : Dec bytes L pc pc' = true) (hr : prun KI KJ L ls st = some (ls', st')) (g : Go p e below s R n0 Q (T.setTop (mkF m pc' ls' st'))) : Go p e below s R n0 Q (T.setTop (mkF m pc ls st)) := by
  obtain ⟨⟨locs, Y, N⟩, eT, hn, hx, hZ, hown, hby, hml, hrt, hlk, hnm⟩ := X
  subst hby
  exact g.lift fun t k => prun_ok Y hx hZ hown hK.1 hK.2 L pc ls st hD hr k
theorem Wk.more (X : Wk Z l p e R s m args below meth c own nm bytes maxL ret n0 T h cells slots) {c' s' : Nat} (h1 : cells ≤ c') (h2 : slots ≤ s') : Wk Z l p e R s m args below meth c own nm bytes maxL ret n0 T h c' s' := by
  obtain ⟨⟨locs, Y, N⟩, r⟩ := X
  exact ⟨⟨locs, Y.more h1 h2, N⟩, r⟩
theorem Wk.size (X : Wk Z l p e R s m args below meth c own nm bytes maxL ret n0 T h cells slots) : n0 ≤ h.size := X.2.2.1
/-! branches -/
def cT (cd : ClassFile.Cond) (x y : Int32) : Prop := match cd with | .eq => x = y | .ne => ¬ x = y | .lt => x < y | .ge => ¬ x < y | .gt => y < x | .le => ¬ y < x
def cF (cd : ClassFile.Cond) (x y : Int32) : Prop := match cd with | .eq => ¬ x = y | .ne => x = y | .lt => ¬ x < y | .ge => x < y | .gt => ¬ y < x | .le => y < x
theorem cT_cF (cd : ClassFile.Cond) (x y : Int32) : (if_icmp.holds cd x y = true ∧ cT cd x y) ∨ (if_icmp.holds cd x y = false ∧ cF cd x y) := by
  cases cd <;> simp only [cT, cF]
  · by_cases q : x = y
    · exact Or.inl ⟨(teq q).1, q⟩
    · exact Or.inr ⟨(feq q).1, q⟩
  · by_cases q : x = y
    · exact Or.inr ⟨(teq q).2, q⟩
    · exact Or.inl ⟨(feq q).2, q⟩
  all_goals first
    | (by_cases q : x < y
       · first | exact Or.inl ⟨(tlt q).1, q⟩ | exact Or.inr ⟨(tlt q).2.1, q⟩
       · first | exact Or.inr ⟨(flt q).1, q⟩ | exact Or.inl ⟨(flt q).2.1, q⟩)
    | (by_cases q : y < x
       · first | exact Or.inl ⟨(tlt q).2.2.1, q⟩ | exact Or.inr ⟨(tlt q).2.2.2, q⟩
       · first | exact Or.inr ⟨(flt q).2.2.1, q⟩ | exact Or.inl ⟨(flt q).2.2.2, q⟩)
def lT (cd : ClassFile.Cond) (x y : Int64) : Prop := match cd with | .eq => x = y | .ne => ¬ x = y | .lt => x < y | .ge => ¬ x < y | .gt => y < x | .le => ¬ y < x
def lF (cd : ClassFile.Cond) (x y : Int64) : Prop := match cd with | .eq => ¬ x = y | .ne => x = y | .lt => ¬ x < y | .ge => x < y | .gt => ¬ y < x | .le => y < x
theorem cmpL_W (x y : Int64) : XT.cmpL x y = lcmpW x y := rfl
theorem lT_lF (cd : ClassFile.Cond) (x y : Int64) : (if_icmp.holds cd (XT.cmpL x y) 0 = true ∧ lT cd x y) ∨ (if_icmp.holds cd (XT.cmpL x y) 0 = false ∧ lF cd x y) := by
  rw [cmpL_W]
  rcases cT_cF cd (lcmpW x y) 0 with ⟨a, b⟩ | ⟨a, b⟩
  · refine Or.inl ⟨a, ?_⟩
    cases cd <;> simp only [cT, lT] at b ⊢
    all_goals first | exact (lw_eq x y).mp b | exact fun q => b ((lw_eq x y).mpr q) | exact (lw_lt x y).mp b | exact fun q => b ((lw_lt x y).mpr q) | exact (lw_gt x y).mp b | exact fun q => b ((lw_gt x y).mpr q)
  · refine Or.inr ⟨a, ?_⟩
    cases cd <;> simp only [cF, lF] at b ⊢
    all_goals first | exact (lw_eq x y).mp b | exact fun q => b ((lw_eq x y).mpr q) | exact (lw_lt x y).mp b | exact fun q => b ((lw_lt x y).mpr q) | exact (lw_gt x y).mp b | exact fun q => b ((lw_gt x y).mpr q)
def DecB (b : ByteArray) (pc : Nat) (i : Instr) (o : Int) (t : Nat) : Bool := decide (decode b pc = .ok (i, 3)) && (decide (0 ≤ (pc : Int) + o) && decide (((pc : Int) + o).toNat = t))
theorem DecB.spec {b : ByteArray} {i : Instr} {o : Int} {t : Nat} (hD : DecB b pc i o t = true) : decode b pc = .ok (i, 3) ∧ 0 ≤ (pc : Int) + o ∧ ((pc : Int) + o).toNat = t := by
  simpa only [DecB, Bool.and_eq_true, decide_eq_true_eq] using hD
theorem Wk.icmp (X : Wk Z l p e R s m args below meth c own nm bytes maxL ret n0 T h cells slots) (cd : ClassFile.Cond) (o : Int) (t f : Nat) {x y : Int32} (hD : (DecB bytes pc (.if_icmp cd o) o t && pc + 3 == f) = true)
    (ky : cT cd x y → Go p e below s R n0 Q (T.setTop (mkF m t ls rest))) (kn : cF cd x y → Go p e below s R n0 Q (T.setTop (mkF m f ls rest))) : Go p e below s R n0 Q (T.setTop (mkF m pc ls (.int y :: .int x :: rest))) := by
  obtain ⟨⟨locs, Y, N⟩, eT, hn, hx, hZ, hown, hby, r⟩ := X
  simp only [Bool.and_eq_true, beq_iff_eq] at hD
  obtain ⟨hD, rfl⟩ := hD
  obtain ⟨hd, h1, h2⟩ := DecB.spec hD
  rcases cT_cF cd x y with ⟨a, b⟩ | ⟨a, b⟩
  · exact (ky b).lift fun _ k => XS.icmpYes Y.here hx rfl (pc0 := pc) (pc' := t) rfl (hb hby hd) rfl a h1 h2 k
  · exact (kn b).lift fun _ k => XS.icmpNo Y.here hx rfl (hb hby hd) rfl a k
theorem Wk.ifc (X : Wk Z l p e R s m args below meth c own nm bytes maxL ret n0 T h cells slots) (cd : ClassFile.Cond) (o : Int) (t f : Nat) {x : Int32} (hD : (DecB bytes pc (.ifCond cd o) o t && pc + 3 == f) = true)
    (ky : cT cd x 0 → Go p e below s R n0 Q (T.setTop (mkF m t ls rest))) (kn : cF cd x 0 → Go p e below s R n0 Q (T.setTop (mkF m f ls rest))) : Go p e below s R n0 Q (T.setTop (mkF m pc ls (.int x :: rest))) := by
  obtain ⟨⟨locs, Y, N⟩, eT, hn, hx, hZ, hown, hby, r⟩ := X
  simp only [Bool.and_eq_true, beq_iff_eq] at hD
  obtain ⟨hD, rfl⟩ := hD
  obtain ⟨hd, h1, h2⟩ := DecB.spec hD
  rcases cT_cF cd x 0 with ⟨a, b⟩ | ⟨a, b⟩
  · exact (ky b).lift fun _ k => XS.ifYes Y.here hx rfl (pc0 := pc) (pc' := t) rfl (hb hby hd) rfl ((if0 _ _).trans a) h1 h2 k
  · exact (kn b).lift fun _ k => XS.ifNo Y.here hx rfl (hb hby hd) rfl ((if0 _ _).trans a) k
theorem Wk.lcmp (X : Wk Z l p e R s m args below meth c own nm bytes maxL ret n0 T h cells slots) (cd : ClassFile.Cond) (o : Int) (t f : Nat) {x y : Int64} (hD : (decide (decode bytes pc = .ok (.lcmp, 1)) && (DecB bytes (pc + 1) (.ifCond cd o) o t && pc + 4 == f)) = true)
    (ky : lT cd x y → Go p e below s R n0 Q (T.setTop (mkF m t ls rest))) (kn : lF cd x y → Go p e below s R n0 Q (T.setTop (mkF m f ls rest))) : Go p e below s R n0 Q (T.setTop (mkF m pc ls (.long y :: .long x :: rest))) := by
  obtain ⟨⟨locs, Y, N⟩, eT, hn, hx, hZ, hown, hby, r⟩ := X
  simp only [Bool.and_eq_true, beq_iff_eq, decide_eq_true_eq] at hD
  obtain ⟨hL, hD, rfl⟩ := hD
  obtain ⟨hd, h1, h2⟩ := DecB.spec hD
  rcases lT_lF cd x y with ⟨a, b⟩ | ⟨a, b⟩
  · exact (ky b).lift fun _ k => XT.lcmp Y.here hx rfl (hb hby hL) rfl (XS.ifYes Y.here hx rfl (pc0 := pc + 1) (pc' := t) rfl (hb hby hd) rfl ((if0 _ _).trans a) h1 h2 k)
  · exact (kn b).lift fun _ k => XT.lcmp Y.here hx rfl (hb hby hL) rfl (XS.ifNo Y.here hx rfl (hb hby hd) rfl ((if0 _ _).trans a) k)
theorem Wk.ifnullY (X : Wk Z l p e R s m args below meth c own nm bytes maxL ret n0 T h cells slots) (o : Int) (t : Nat) (hD : DecB bytes pc (.ifnull o) o t = true) (k : Go p e below s R n0 Q (T.setTop (mkF m t ls rest))) : Go p e below s R n0 Q (T.setTop (mkF m pc ls (.null :: rest))) := by
  obtain ⟨⟨locs, Y, N⟩, eT, hn, hx, hZ, hown, hby, r⟩ := X
  obtain ⟨hd, h1, h2⟩ := DecB.spec hD
  exact k.lift fun _ k => XS.ifnullYes Y.here hx rfl (pc0 := pc) (pc' := t) rfl (hb hby hd) rfl h1 h2 k
theorem Wk.ifnullN (X : Wk Z l p e R s m args below meth c own nm bytes maxL ret n0 T h cells slots) (o : Int) (f : Nat) {a : Addr} (hD : (decide (decode bytes pc = .ok (.ifnull o, 3)) && pc + 3 == f) = true) (k : Go p e below s R n0 Q (T.setTop (mkF m f ls rest))) : Go p e below s R n0 Q (T.setTop (mkF m pc ls (.ref a :: rest))) := by
  obtain ⟨⟨locs, Y, N⟩, eT, hn, hx, hZ, hown, hby, r⟩ := X
  simp only [Bool.and_eq_true, beq_iff_eq, decide_eq_true_eq] at hD
  obtain ⟨hd, rfl⟩ := hD
  exact k.lift fun _ k => XS.ifnullNo Y.here hx rfl (hb hby hd) rfl k
theorem Wk.ifnnY (X : Wk Z l p e R s m args below meth c own nm bytes maxL ret n0 T h cells slots) (o : Int) (t : Nat) {a : Addr} (hD : DecB bytes pc (.ifnonnull o) o t = true) (k : Go p e below s R n0 Q (T.setTop (mkF m t ls rest))) : Go p e below s R n0 Q (T.setTop (mkF m pc ls (.ref a :: rest))) := by
  obtain ⟨⟨locs, Y, N⟩, eT, hn, hx, hZ, hown, hby, r⟩ := X
  obtain ⟨hd, h1, h2⟩ := DecB.spec hD
  exact k.lift fun _ k => XT.ifnonnullYes Y.here hx rfl (pc0 := pc) (pc' := t) rfl (hb hby hd) rfl h1 h2 k
theorem Wk.ifnnN (X : Wk Z l p e R s m args below meth c own nm bytes maxL ret n0 T h cells slots) (o : Int) (f : Nat) (hD : (decide (decode bytes pc = .ok (.ifnonnull o, 3)) && pc + 3 == f) = true) (k : Go p e below s R n0 Q (T.setTop (mkF m f ls rest))) : Go p e below s R n0 Q (T.setTop (mkF m pc ls (.null :: rest))) := by
  obtain ⟨⟨locs, Y, N⟩, eT, hn, hx, hZ, hown, hby, r⟩ := X
  simp only [Bool.and_eq_true, beq_iff_eq, decide_eq_true_eq] at hD
  obtain ⟨hd, rfl⟩ := hD
  exact k.lift fun _ k => XT.ifnonnullNo Y.here hx rfl (hb hby hd) rfl k
/-- two references that differ: if_acmpne is taken, if_acmpeq isn't -/
theorem Wk.acmpNeT (X : Wk Z l p e R s m args below meth c own nm bytes maxL ret n0 T h cells slots) (o : Int) (t : Nat) {a b : Addr} (hne : a ≠ b) (hD : DecB bytes pc (.if_acmp .ne o) o t = true) (k : Go p e below s R n0 Q (T.setTop (mkF m t ls rest))) : Go p e below s R n0 Q (T.setTop (mkF m pc ls (.ref b :: .ref a :: rest))) := by
  obtain ⟨⟨locs, Y, N⟩, eT, hn, hx, hZ, hown, hby, r⟩ := X
  obtain ⟨hd, h1, h2⟩ := DecB.spec hD
  exact k.lift fun _ k => XT.acmpYes Y.here hx rfl (pc0 := pc) (pc' := t) rfl (hb hby hd) rfl rfl rfl (by simp [XT.acmp, hne]) h1 h2 k
theorem Wk.acmpEqF (X : Wk Z l p e R s m args below meth c own nm bytes maxL ret n0 T h cells slots) (o : Int) (f : Nat) {a b : Addr} (hne : a ≠ b) (hD : (decide (decode bytes pc = .ok (.if_acmp .eq o, 3)) && pc + 3 == f) = true) (k : Go p e below s R n0 Q (T.setTop (mkF m f ls rest))) : Go p e below s R n0 Q (T.setTop (mkF m pc ls (.ref b :: .ref a :: rest))) := by
  obtain ⟨⟨locs, Y, N⟩, eT, hn, hx, hZ, hown, hby, r⟩ := X
  simp only [Bool.and_eq_true, beq_iff_eq, decide_eq_true_eq] at hD
  obtain ⟨hd, rfl⟩ := hD
  exact k.lift fun _ k => XT.acmpNo Y.here hx rfl (hb hby hd) rfl rfl rfl (by simp [XT.acmp, hne]) k
/-! division -/
def De (b : ByteArray) (pc : Nat) (i : Instr) (n pc' : Nat) : Bool := decide (decode b pc = .ok (i, n)) && pc + n == pc'
theorem De.spec {b : ByteArray} {i : Instr} {n pc' : Nat} (hD : De b pc i n pc' = true) : decode b pc = .ok (i, n) ∧ pc + n = pc' := by
  simpa only [De, Bool.and_eq_true, decide_eq_true_eq, beq_iff_eq] using hD
theorem Wk.irem (X : Wk Z l p e R s m args below meth c own nm bytes maxL ret n0 T h cells slots) (pc' : Nat) {x y : Int32} (hD : De bytes pc .irem 1 pc' = true) (hy : y ≠ 0) (k : Go p e below s R n0 Q (T.setTop (mkF m pc' ls (.int (x % y) :: rest)))) : Go p e below s R n0 Q (T.setTop (mkF m pc ls (.int y :: .int x :: rest))) := by
  obtain ⟨⟨locs, Y, N⟩, eT, hn, hx, hZ, hown, hby, r⟩ := X
  obtain ⟨hd, rfl⟩ := De.spec hD
  exact k.lift fun _ k => iremM Y hx rfl (hb hby hd) rfl hy k
theorem Wk.idiv (X : Wk Z l p e R s m args below meth c own nm bytes maxL ret n0 T h cells slots) (pc' : Nat) {x y : Int32} (hD : De bytes pc .idiv 1 pc' = true) (hy : y ≠ 0) (k : Go p e below s R n0 Q (T.setTop (mkF m pc' ls (.int (x / y) :: rest)))) : Go p e below s R n0 Q (T.setTop (mkF m pc ls (.int y :: .int x :: rest))) := by
  obtain ⟨⟨locs, Y, N⟩, eT, hn, hx, hZ, hown, hby, r⟩ := X
  obtain ⟨hd, rfl⟩ := De.spec hD
  exact k.lift fun _ k => XS.idiv Y.here hx rfl (hb hby hd) rfl hy k
theorem Wk.ldiv (X : Wk Z l p e R s m args below meth c own nm bytes maxL ret n0 T h cells slots) (pc' : Nat) {x y : Int64} (hD : De bytes pc .ldiv 1 pc' = true) (hy : y ≠ 0) (k : Go p e below s R n0 Q (T.setTop (mkF m pc' ls (.long (x / y) :: rest)))) : Go p e below s R n0 Q (T.setTop (mkF m pc ls (.long y :: .long x :: rest))) := by
  obtain ⟨⟨locs, Y, N⟩, eT, hn, hx, hZ, hown, hby, r⟩ := X
  obtain ⟨hd, rfl⟩ := De.spec hD
  exact k.lift fun _ k => XT.ldiv Y.here hx rfl (hb hby hd) rfl hy k
theorem Wk.lrem (X : Wk Z l p e R s m args below meth c own nm bytes maxL ret n0 T h cells slots) (pc' : Nat) {x y : Int64} (hD : De bytes pc .lrem 1 pc' = true) (hy : y ≠ 0) (k : Go p e below s R n0 Q (T.setTop (mkF m pc' ls (.long (x % y) :: rest)))) : Go p e below s R n0 Q (T.setTop (mkF m pc ls (.long y :: .long x :: rest))) := by
  obtain ⟨⟨locs, Y, N⟩, eT, hn, hx, hZ, hown, hby, r⟩ := X
  obtain ⟨hd, rfl⟩ := De.spec hD
  exact k.lift fun _ k => XT.lrem Y.here hx rfl (hb hby hd) rfl hy (by rw [lrem_mod]; exact k)
/-! returns -/
theorem Wk.retG (X : Wk Z l p e R s m args below meth c own nm bytes maxL ret n0 T h cells slots) {i : Instr} {t : FieldType} {w : Value} (hd : decode bytes pc = .ok (i, 1)) (hret : ret = some t) (hnw : narrow t w = w)
    (hi : (i = .ireturn ∧ (t = .int ∨ t = .boolean ∨ t = .byte ∨ t = .char ∨ t = .short) ∧ ∃ z, w = .int z) ∨ (i = .lreturn ∧ t = .long ∧ ∃ z, w = .long z) ∨ (i = .dreturn ∧ t = .double ∧ ∃ z, w = .double z) ∨ (i = .freturn ∧ t = .float ∧ ∃ z, w = .float z) ∨ (i = .areturn ∧ t.isReference = true ∧ w.isRef = true))
    (hc : cells ≤ R.cells) (hs : slots ≤ R.slots) (hq : Q (some w) h) : Go p e below s R n0 Q (T.setTop (mkF m pc ls (w :: rest))) := by
  obtain ⟨⟨locs, Y, N⟩, eT, hn, hx, hZ, hown, hby, hml, hr, hlk, hnm⟩ := X
  obtain ⟨fs, hl, hrun, hended, hW, hsame⟩ := Y.leave (v := some w) (fun q => by rw [hr, hret] at q; cases q) hlk
  refine ⟨T.setFrames fs, some w, locs, retOut Y hx (hr.trans hret) hnw hi (hb hby hd) hl, hrun, hended, ⟨?_, ?_, N⟩, ⟨_, rfl⟩, hW, hsame.mono hc hs⟩
  · show Q (some w) T.heap
    rw [eT]; exact hq
  · show n0 ≤ T.heap.size
    rw [eT]; exact hn
theorem Wk.retI (X : Wk Z l p e R s m args below meth c own nm bytes maxL (some .int) n0 T h cells slots) {z : Int32} (hd : decode bytes pc = .ok (.ireturn, 1)) (hc : cells ≤ R.cells) (hs : slots ≤ R.slots) (hq : Q (some (.int z)) h) : Go p e below s R n0 Q (T.setTop (mkF m pc ls (.int z :: rest))) :=
  X.retG hd rfl rfl (Or.inl ⟨rfl, Or.inl rfl, z, rfl⟩) hc hs hq
theorem Wk.retL (X : Wk Z l p e R s m args below meth c own nm bytes maxL (some .long) n0 T h cells slots) {z : Int64} (hd : decode bytes pc = .ok (.lreturn, 1)) (hc : cells ≤ R.cells) (hs : slots ≤ R.slots) (hq : Q (some (.long z)) h) : Go p e below s R n0 Q (T.setTop (mkF m pc ls (.long z :: rest))) :=
  X.retG hd rfl rfl (Or.inr (Or.inl ⟨rfl, rfl, z, rfl⟩)) hc hs hq
theorem Wk.retA (X : Wk Z l p e R s m args below meth c own nm bytes maxL ret n0 T h cells slots) {t : FieldType} {w : Value} (hd : decode bytes pc = .ok (.areturn, 1)) (hret : ret = some t) (ht : t.isReference = true) (hw : w.isRef = true) (hc : cells ≤ R.cells) (hs : slots ≤ R.slots) (hq : Q (some w) h) : Go p e below s R n0 Q (T.setTop (mkF m pc ls (w :: rest))) :=
  X.retG hd hret (by rcases ref_cases hw with rfl | ⟨z, rfl⟩ <;> cases t <;> first | rfl | simp [FieldType.isReference] at ht) (Or.inr (Or.inr (Or.inr (Or.inr ⟨rfl, ht, hw⟩)))) hc hs hq
theorem Wk.retZ (X : Wk Z l p e R s m args below meth c own nm bytes maxL (some .boolean) n0 T h cells slots) {z : Int32} (hd : decode bytes pc = .ok (.ireturn, 1)) (hc : cells ≤ R.cells) (hs : slots ≤ R.slots) (hz : z = 0 ∨ z = 1) (hq : Q (some (.int z)) h) : Go p e below s R n0 Q (T.setTop (mkF m pc ls (.int z :: rest))) :=
  X.retG hd rfl (by rcases hz with rfl | rfl <;> rfl) (Or.inl ⟨rfl, Or.inr (Or.inl rfl), z, rfl⟩) hc hs hq
theorem Wk.retV (X : Wk Z l p e R s m args below meth c own nm bytes maxL none n0 T h cells slots) (hd : decode bytes pc = .ok (.return_, 1)) (hc : cells ≤ R.cells) (hs : slots ≤ R.slots) (hq : Q none h) : Go p e below s R n0 Q (T.setTop (mkF m pc ls [])) := by
  obtain ⟨⟨locs, Y, N⟩, eT, hn, hx, hZ, hown, hby, hml, hr, hlk, hnm⟩ := X
  obtain ⟨fs, hl, hrun, hended, hW, hsame⟩ := Y.leave (v := none) (fun _ => rfl) hlk
  refine ⟨T.setFrames fs, none, locs, Y.returnOut hx hr (hb hby hd) hl, hrun, hended, ⟨?_, ?_, N⟩, ⟨_, rfl⟩, hW, hsame.mono hc hs⟩
  · show Q none T.heap
    rw [eT]; exact hq
  · show n0 ≤ T.heap.size
    rw [eT]; exact hn
/-! arrays: all their components by a list -/
def AV (Z : State) (h : Heap) (a : Addr) (ty : FieldType) (vs : List Value) : Prop := ∃ cl : Cell, Arr Z h a cl ty ∧ cl.slots.toList = vs ∧ vs.length < 2 ^ 31 ∧ (∀ v ∈ vs, fits ty v = true) ∧ Exa Z h a ("[" ++ ty.toString)
theorem AV.lt {a : Addr} {ty : FieldType} {vs : List Value} (A : AV Z h a ty vs) : a < h.size := by obtain ⟨cl, A, -⟩ := A; exact A.lt
theorem AV.ext {h' : Heap} {a : Addr} {ty : FieldType} {vs : List Value} (A : AV Z h a ty vs) (E : Ext h h') : AV Z h' a ty vs := by obtain ⟨cl, A, q1, q2, q3, q4⟩ := A; exact ⟨cl, A.ext E, q1, q2, q3, q4.ext E⟩
theorem AV.other {h' : Heap} {a b : Addr} {sl : Nat} {v : Value} {ty : FieldType} {vs : List Value} (A : AV Z h a ty vs) (W : Wr h h' b sl v) (ne : a ≠ b) : AV Z h' a ty vs := by obtain ⟨cl, A, q1, q2, q3, q4⟩ := A; exact ⟨cl, A.other W ne, q1, q2, q3, q4.wr W⟩
theorem AV.keep {h' : Heap} {a : Addr} {ws : List Addr} {ty : FieldType} {vs : List Value} (A : AV Z h a ty vs) (K : Keep h h' ws) (ne : a ∉ ws) : AV Z h' a ty vs := by obtain ⟨cl, A, q1, q2, q3, q4⟩ := A; exact ⟨cl, ⟨K.2.1 a cl A.1 ne, A.2⟩, q1, q2, q3, q4.keep K⟩
theorem AV.arv {a : Addr} {ty : FieldType} {vs : List Value} (A : AV Z h a ty vs) (d : Value) : ∃ k, Arv Z h a k ty vs.length.toInt32 vs d := by
  obtain ⟨cl, A, rfl, q2, q3, q4⟩ := A
  have hz : ¬ cl.slots.toList.length.toInt32 < 0 := by rw [Int32.lt_iff_toInt_lt, len_toInt q2]; show ¬ ((_ : Int) < (0 : Int)); omega
  have hs : cl.slots.size = cl.slots.toList.length.toInt32.toNatClampNeg := by
    have := nat_of hz; rw [len_toInt q2] at this; simp only [Array.length_toList] at *; omega
  refine ⟨cl.cls, cl, A, rfl, hs, hz, fun i hi => ?_, fun i hi => ?_⟩
  · rw [List.getD_eq_getElem?_getD, Array.getElem?_toList, Array.getElem?_eq_getElem hi]; rfl
  · rw [List.getD_eq_getElem?_getD, Array.getElem?_toList, Array.getElem?_eq_getElem hi]; exact q3 _ (by simp)
theorem AV.of_arv {a : Addr} {k : ClassId} {ty : FieldType} {vs : List Value} {d : Value} {z : Int32} (A : Arv Z h a k ty z vs d) (hl : z.toNatClampNeg = vs.length) (E : Exa Z h a ("[" ++ ty.toString)) : AV Z h a ty vs := by
  obtain ⟨cl, A, -, S, hz, H, G⟩ := A
  have e : cl.slots.toList = vs := by
    refine List.ext_getElem? fun i => ?_
    rw [Array.getElem?_toList]
    by_cases hi : i < cl.slots.size
    · rw [H i hi, List.getD_eq_getElem?_getD, List.getElem?_eq_getElem (by omega)]; rfl
    · rw [Array.getElem?_eq_none (by omega), List.getElem?_eq_none (by omega)]
  refine ⟨cl, A, e, by rw [← hl]; exact (back32 hz).2, fun v hv => ?_, E⟩
  obtain ⟨i, hi, rfl⟩ := List.getElem_of_mem hv
  have q := G i (by omega)
  rwa [List.getD_eq_getElem?_getD, List.getElem?_eq_getElem hi] at q
theorem AV.exa {a : Addr} {ty : FieldType} {vs : List Value} (A : AV Z h a ty vs) : Exa Z h a ("[" ++ ty.toString) := by obtain ⟨cl, -, -, -, -, E⟩ := A; exact E
theorem fits_default {ty : FieldType} : fits ty (defaultValue ty) = true := by cases ty <;> rfl
theorem Wk.newarr (X : Wk Z l p e R s m args below meth c own nm bytes maxL ret n0 T h cells slots) (pc' cap : Nat) {aty : ArrayType} {ty : FieldType} {n : Int32} (w : (Jvm.Cond.arrayClass ty).before a0 Z = true) (hty : newarray.typeOf aty = ty) (hD : De bytes pc (.newarray aty) 2 pc' = true) (hn : ¬ n < 0) (hcap : n.toNatClampNeg ≤ cap) (hrm : (decide (cap * 8 ≤ 536870912) && (decide (cells + 1 ≤ R.cells) && decide (slots + cap ≤ R.slots))) = true)
    (k : ∀ T' h', Wk Z l p e R s m args below meth c own nm bytes maxL ret n0 T' h' (cells + 1) (slots + cap) → Ext h h' → AV Z h' h.size ty (List.replicate n.toNatClampNeg (defaultValue ty)) → Go p e below s R n0 Q (T'.setTop (mkF m pc' ls (.ref h.size :: rest)))) : Go p e below s R n0 Q (T.setTop (mkF m pc ls (.int n :: rest))) := by
  obtain ⟨⟨locs, Y, N⟩, eT, hn0, hx, hZ, hown, hby, hml, hrt, hlk, hnm⟩ := X
  obtain ⟨hd, rfl⟩ := De.spec hD
  subst hty
  simp only [Bool.and_eq_true, decide_eq_true_eq] at hrm
  obtain ⟨T', h', cA, Y', e', E, A, E2, stp⟩ := newPE Y hx hZ w eT (g := mkF m pc ls (.int n :: rest)) rfl (hb hby hd) rfl hn hcap hrm.1 hrm.2.1 hrm.2.2 (ad := "[" ++ (newarray.typeOf aty).toString) rfl
  refine (k T' h' ⟨⟨locs, Y', N⟩, e', Nat.le_trans hn0 E.1, hx, hZ, hown, hby, hml, hrt, hlk, hnm⟩ E ⟨_, A, by simp [newA], ?_, ?_, E2⟩).lift stp
  · rw [List.length_replicate]; exact (back32 hn).2
  · intro v hv
    rw [(List.mem_replicate.mp hv).2]; exact fits_default
theorem Wk.baload (X : Wk Z l p e R s m args below meth c own nm bytes maxL ret n0 T h cells slots) (pc' : Nat) {a : Addr} {vs : List Value} {j : Int32} {v : Value} (A : AV Z h a .byte vs) (hD : De bytes pc .baload 1 pc' = true) (hj : ¬ j < 0) (hv : vs[j.toNatClampNeg]? = some v) (k : Go p e below s R n0 Q (T.setTop (mkF m pc' ls (v :: rest)))) : Go p e below s R n0 Q (T.setTop (mkF m pc ls (.int j :: .ref a :: rest))) := by
  obtain ⟨⟨locs, Y, N⟩, eT, hn, hx, hZ, hown, hby, hml, hrt, hlk, hnm⟩ := X
  obtain ⟨hd, rfl⟩ := De.spec hD
  obtain ⟨cl, A, rfl, q2, q3, q4⟩ := A
  rw [Array.getElem?_toList] at hv
  have hlt := (Array.getElem?_eq_some_iff.mp hv).1
  exact k.lift fun t k => Y.baloadBytes hx (by rw [eT]; exact A.1) (State.isArrayOf_alike hZ.alike A.2.1) A.2.2 (fun q => q.elim hj fun q => absurd hlt (Nat.not_lt.mpr q)) hv (g := mkF m pc ls (.int j :: .ref a :: rest)) rfl rfl (hb hby hd) t k
theorem Wk.iaload (X : Wk Z l p e R s m args below meth c own nm bytes maxL ret n0 T h cells slots) (pc' : Nat) {a : Addr} {vs : List Value} {j : Int32} {v : Value} (A : AV Z h a .int vs) (hD : De bytes pc .iaload 1 pc' = true) (hj : ¬ j < 0) (hv : vs[j.toNatClampNeg]? = some v) (k : Go p e below s R n0 Q (T.setTop (mkF m pc' ls (v :: rest)))) : Go p e below s R n0 Q (T.setTop (mkF m pc ls (.int j :: .ref a :: rest))) := by
  obtain ⟨⟨locs, Y, N⟩, eT, hn, hx, hZ, hown, hby, hml, hrt, hlk, hnm⟩ := X
  obtain ⟨hd, rfl⟩ := De.spec hD
  obtain ⟨cl, A, rfl, q2, q3, q4⟩ := A
  rw [Array.getElem?_toList] at hv
  have hlt := (Array.getElem?_eq_some_iff.mp hv).1
  exact k.lift fun t k => Y.iaload hx (by rw [eT]; exact A.1) (State.isArrayOf_alike hZ.alike A.2.1) A.2.2 (fun q => q.elim hj fun q => absurd hlt (Nat.not_lt.mpr q)) hv (g := mkF m pc ls (.int j :: .ref a :: rest)) rfl rfl (hb hby hd) t k
theorem Wk.laload (X : Wk Z l p e R s m args below meth c own nm bytes maxL ret n0 T h cells slots) (pc' : Nat) {a : Addr} {vs : List Value} {j : Int32} {v : Value} (A : AV Z h a .long vs) (hD : De bytes pc .laload 1 pc' = true) (hj : ¬ j < 0) (hv : vs[j.toNatClampNeg]? = some v) (k : Go p e below s R n0 Q (T.setTop (mkF m pc' ls (v :: rest)))) : Go p e below s R n0 Q (T.setTop (mkF m pc ls (.int j :: .ref a :: rest))) := by
  obtain ⟨⟨locs, Y, N⟩, eT, hn, hx, hZ, hown, hby, hml, hrt, hlk, hnm⟩ := X
  obtain ⟨hd, rfl⟩ := De.spec hD
  obtain ⟨cl, A, rfl, q2, q3, q4⟩ := A
  rw [Array.getElem?_toList] at hv
  have hlt := (Array.getElem?_eq_some_iff.mp hv).1
  exact k.lift fun t k => Y.laload hx (by rw [eT]; exact A.1) (State.isArrayOf_alike hZ.alike A.2.1) A.2.2 (fun q => q.elim hj fun q => absurd hlt (Nat.not_lt.mpr q)) hv (g := mkF m pc ls (.int j :: .ref a :: rest)) rfl rfl (hb hby hd) t k
theorem Wk.saload (X : Wk Z l p e R s m args below meth c own nm bytes maxL ret n0 T h cells slots) (pc' : Nat) {a : Addr} {vs : List Value} {j : Int32} {v : Value} (A : AV Z h a .short vs) (hD : De bytes pc .saload 1 pc' = true) (hj : ¬ j < 0) (hv : vs[j.toNatClampNeg]? = some v) (k : Go p e below s R n0 Q (T.setTop (mkF m pc' ls (v :: rest)))) : Go p e below s R n0 Q (T.setTop (mkF m pc ls (.int j :: .ref a :: rest))) := by
  obtain ⟨⟨locs, Y, N⟩, eT, hn, hx, hZ, hown, hby, hml, hrt, hlk, hnm⟩ := X
  obtain ⟨hd, rfl⟩ := De.spec hD
  obtain ⟨cl, A, rfl, q2, q3, q4⟩ := A
  rw [Array.getElem?_toList] at hv
  have hlt := (Array.getElem?_eq_some_iff.mp hv).1
  exact k.lift fun t k => Y.saload hx (by rw [eT]; exact A.1) (State.isArrayOf_alike hZ.alike A.2.1) A.2.2 (fun q => q.elim hj fun q => absurd hlt (Nat.not_lt.mpr q)) hv (g := mkF m pc ls (.int j :: .ref a :: rest)) rfl rfl (hb hby hd) t k
theorem Wk.alen (X : Wk Z l p e R s m args below meth c own nm bytes maxL ret n0 T h cells slots) (pc' : Nat) {a : Addr} {vs : List Value} {ty : FieldType} {n : Int32} (A : AV Z h a ty vs) (hD : De bytes pc .arraylength 1 pc' = true) (hl : vs.length.toInt32 = n) (k : Go p e below s R n0 Q (T.setTop (mkF m pc' ls (.int n :: rest)))) : Go p e below s R n0 Q (T.setTop (mkF m pc ls (.ref a :: rest))) := by
  obtain ⟨⟨locs, Y, N⟩, eT, hn, hx, hZ, hown, hby, hml, hrt, hlk, hnm⟩ := X
  obtain ⟨hd, rfl⟩ := De.spec hD
  obtain ⟨cl, A, rfl, q2, q3, q4⟩ := A
  subst hl
  exact k.lift fun t k => Y.arraylength hx (by rw [eT]; exact A.1) (State.isArrayOf_alike hZ.alike A.2.1) (g := mkF m pc ls (.ref a :: rest)) rfl rfl (hb hby hd) t (by simpa using k)
theorem Wk.bastore (X : Wk Z l p e R s m args below meth c own nm bytes maxL ret n0 T h cells slots) (pc' : Nat) {a : Addr} {vs : List Value} {j : Int32} {x x' : Int32} (hx' : nar .byte x = x') (A : AV Z h a .byte vs) (hD : De bytes pc .bastore 1 pc' = true) (hj : ¬ j < 0) (hl : j.toNatClampNeg < vs.length) (ha : n0 ≤ a)
    (k : ∀ T' h', Wk Z l p e R s m args below meth c own nm bytes maxL ret n0 T' h' cells slots → Wr h h' a j.toNatClampNeg (.int x') → AV Z h' a .byte (vs.set j.toNatClampNeg (.int x')) → Go p e below s R n0 Q (T'.setTop (mkF m pc' ls rest))) : Go p e below s R n0 Q (T.setTop (mkF m pc ls (.int x :: .int j :: .ref a :: rest))) := by
  obtain ⟨⟨locs, Y, N⟩, eT, hn, hx, hZ, hown, hby, hml, hrt, hlk, hnm⟩ := X
  obtain ⟨hd, rfl⟩ := De.spec hD
  obtain ⟨cl, A, rfl, q2, q3, q4⟩ := A
  subst hx'
  rw [Array.length_toList] at hl
  obtain ⟨T', h', Y', e', W, stp⟩ := stB Y hx hZ eT A (fun q => q.elim hj fun q => absurd hl (Nat.not_lt.mpr q)) (g := mkF m pc ls (.int x :: .int j :: .ref a :: rest)) rfl rfl (hb hby hd)
  refine (k T' h' ⟨⟨_, Y', Fr.snoc Y' N ha⟩, e', by rw [W.size]; exact hn, hx, hZ, hown, hby, hml, hrt, hlk, hnm⟩ W ⟨_, Arr.same W A, by simp [Cell.setSlot], by simpa using q2, fun v hv => ?_, q4.wr W⟩).lift stp
  rcases List.mem_or_eq_of_mem_set hv with q | rfl
  · exact q3 _ q
  · exact fits_nar_byte _
theorem Wk.iastore (X : Wk Z l p e R s m args below meth c own nm bytes maxL ret n0 T h cells slots) (pc' : Nat) {a : Addr} {vs : List Value} {j : Int32} {x : Int32} (A : AV Z h a .int vs) (hD : De bytes pc .iastore 1 pc' = true) (hj : ¬ j < 0) (hl : j.toNatClampNeg < vs.length) (ha : n0 ≤ a)
    (k : ∀ T' h', Wk Z l p e R s m args below meth c own nm bytes maxL ret n0 T' h' cells slots → Wr h h' a j.toNatClampNeg (.int x) → AV Z h' a .int (vs.set j.toNatClampNeg (.int x)) → Go p e below s R n0 Q (T'.setTop (mkF m pc' ls rest))) : Go p e below s R n0 Q (T.setTop (mkF m pc ls (.int x :: .int j :: .ref a :: rest))) := by
  obtain ⟨⟨locs, Y, N⟩, eT, hn, hx, hZ, hown, hby, hml, hrt, hlk, hnm⟩ := X
  obtain ⟨hd, rfl⟩ := De.spec hD
  obtain ⟨cl, A, rfl, q2, q3, q4⟩ := A
  rw [Array.length_toList] at hl
  obtain ⟨T', h', Y', e', W, stp⟩ := stI Y hx hZ eT A (fun q => q.elim hj fun q => absurd hl (Nat.not_lt.mpr q)) (g := mkF m pc ls (.int x :: .int j :: .ref a :: rest)) rfl rfl (hb hby hd)
  refine (k T' h' ⟨⟨_, Y', Fr.snoc Y' N ha⟩, e', by rw [W.size]; exact hn, hx, hZ, hown, hby, hml, hrt, hlk, hnm⟩ W ⟨_, Arr.same W A, by simp [Cell.setSlot], by simpa using q2, fun v hv => ?_, q4.wr W⟩).lift stp
  rcases List.mem_or_eq_of_mem_set hv with q | rfl
  · exact q3 _ q
  · rfl
theorem Wk.lastore (X : Wk Z l p e R s m args below meth c own nm bytes maxL ret n0 T h cells slots) (pc' : Nat) {a : Addr} {vs : List Value} {j : Int32} {x : Int64} (A : AV Z h a .long vs) (hD : De bytes pc .lastore 1 pc' = true) (hj : ¬ j < 0) (hl : j.toNatClampNeg < vs.length) (ha : n0 ≤ a)
    (k : ∀ T' h', Wk Z l p e R s m args below meth c own nm bytes maxL ret n0 T' h' cells slots → Wr h h' a j.toNatClampNeg (.long x) → AV Z h' a .long (vs.set j.toNatClampNeg (.long x)) → Go p e below s R n0 Q (T'.setTop (mkF m pc' ls rest))) : Go p e below s R n0 Q (T.setTop (mkF m pc ls (.long x :: .int j :: .ref a :: rest))) := by
  obtain ⟨⟨locs, Y, N⟩, eT, hn, hx, hZ, hown, hby, hml, hrt, hlk, hnm⟩ := X
  obtain ⟨hd, rfl⟩ := De.spec hD
  obtain ⟨cl, A, rfl, q2, q3, q4⟩ := A
  rw [Array.length_toList] at hl
  obtain ⟨T', h', Y', e', W, stp⟩ := stJ Y hx hZ eT A (fun q => q.elim hj fun q => absurd hl (Nat.not_lt.mpr q)) (g := mkF m pc ls (.long x :: .int j :: .ref a :: rest)) rfl rfl (hb hby hd)
  refine (k T' h' ⟨⟨_, Y', Fr.snoc Y' N ha⟩, e', by rw [W.size]; exact hn, hx, hZ, hown, hby, hml, hrt, hlk, hnm⟩ W ⟨_, Arr.same W A, by simp [Cell.setSlot], by simpa using q2, fun v hv => ?_, q4.wr W⟩).lift stp
  rcases List.mem_or_eq_of_mem_set hv with q | rfl
  · exact q3 _ q
  · rfl
theorem Wk.sastore (X : Wk Z l p e R s m args below meth c own nm bytes maxL ret n0 T h cells slots) (pc' : Nat) {a : Addr} {vs : List Value} {j : Int32} {x x' : Int32} (hx' : nar .short x = x') (A : AV Z h a .short vs) (hD : De bytes pc .sastore 1 pc' = true) (hj : ¬ j < 0) (hl : j.toNatClampNeg < vs.length) (ha : n0 ≤ a)
    (k : ∀ T' h', Wk Z l p e R s m args below meth c own nm bytes maxL ret n0 T' h' cells slots → Wr h h' a j.toNatClampNeg (.int x') → AV Z h' a .short (vs.set j.toNatClampNeg (.int x')) → Go p e below s R n0 Q (T'.setTop (mkF m pc' ls rest))) : Go p e below s R n0 Q (T.setTop (mkF m pc ls (.int x :: .int j :: .ref a :: rest))) := by
  obtain ⟨⟨locs, Y, N⟩, eT, hn, hx, hZ, hown, hby, hml, hrt, hlk, hnm⟩ := X
  obtain ⟨hd, rfl⟩ := De.spec hD
  obtain ⟨cl, A, rfl, q2, q3, q4⟩ := A
  subst hx'
  rw [Array.length_toList] at hl
  obtain ⟨T', h', Y', e', W, stp⟩ := stS Y hx hZ eT A (fun q => q.elim hj fun q => absurd hl (Nat.not_lt.mpr q)) (g := mkF m pc ls (.int x :: .int j :: .ref a :: rest)) rfl rfl (hb hby hd)
  refine (k T' h' ⟨⟨_, Y', Fr.snoc Y' N ha⟩, e', by rw [W.size]; exact hn, hx, hZ, hown, hby, hml, hrt, hlk, hnm⟩ W ⟨_, Arr.same W A, by simp [Cell.setSlot], by simpa using q2, fun v hv => ?_, q4.wr W⟩).lift stp
  rcases List.mem_or_eq_of_mem_set hv with q | rfl
  · exact q3 _ q
  · exact fits_nar_short _
theorem Wk.getf (X : Wk Z l p e R s m args below meth c own nm bytes maxL ret n0 T h cells slots) (pc' : Nat) {index : Nat} {O n d : String} {a : Addr} {v : Value} (w : (Jvm.Cond.fieldLink own index O n d).before a0 Z = true) (F : Fld Z h a O n d v) (hD : De bytes pc (.getfield index) 3 pc' = true)
    (k : ∀ T', Wk Z l p e R s m args below meth c own nm bytes maxL ret n0 T' h cells slots → Go p e below s R n0 Q (T'.setTop (mkF m pc' ls (v :: rest)))) : Go p e below s R n0 Q (T.setTop (mkF m pc ls (.ref a :: rest))) := by
  obtain ⟨⟨locs, Y, N⟩, eT, hn, hx, hZ, hown, hby, hml, hrt, hlk, hnm⟩ := X
  obtain ⟨hd, rfl⟩ := De.spec hD
  obtain ⟨T', Y', e', stp⟩ := getF Y hx hZ hown (host := "") (Or.inl w) Via.refl eT F (g := mkF m pc ls (.ref a :: rest)) rfl rfl (hb hby hd)
  exact (k T' ⟨⟨_, Y', N⟩, e', hn, hx, hZ, hown, hby, hml, hrt, hlk, hnm⟩).lift stp
theorem Wk.putf (X : Wk Z l p e R s m args below meth c own nm bytes maxL ret n0 T h cells slots) (pc' : Nat) {index kk : Nat} {O n d C : String} {a : Addr} {v old : Value} {ty : FieldType} (w : (Jvm.Cond.fieldLink own index O n d).before a0 Z = true) (F : Fld Z h a O n d old) (E : Exa Z h a C) (L : (Jvm.Cond.lays C O n d).before a0 Z = true ∨ ((Jvm.Cond.laysFinal C O n d).before a0 Z = true ∧ own = O ∧ nm = "<init>")) (wi : (Jvm.Cond.instantiable C kk).before a0 Z = true) (hty : parseFieldDescriptor d = some ty) (hnw : narrow ty v = v) (hf : fits ty v = true) (ha : n0 ≤ a) (hD : De bytes pc (.putfield index) 3 pc' = true)
    (k : ∀ T' h', Wk Z l p e R s m args below meth c own nm bytes maxL ret n0 T' h' cells slots → Wr h h' a (RoadKit.slotOf Z O n d) v → Go p e below s R n0 Q (T'.setTop (mkF m pc' ls rest))) : Go p e below s R n0 Q (T.setTop (mkF m pc ls (v :: .ref a :: rest))) := by
  obtain ⟨⟨locs, Y, N⟩, eT, hn, hx, hZ, hown, hby, hml, hrt, hlk, hnm⟩ := X
  obtain ⟨hd, rfl⟩ := De.spec hD
  obtain ⟨T', h', Y', e', W, stp⟩ := putF Y hx hZ hown (host := "") (Or.inl w) Via.refl eT F E (L.imp id fun q => ⟨q.1, q.2.1, hnm.trans q.2.2⟩) wi hty hnw hf (g := mkF m pc ls (v :: .ref a :: rest)) rfl rfl (hb hby hd)
  exact (k T' h' ⟨⟨_, Y', Fr.snoc Y' N ha⟩, e', by rw [W.size]; exact hn, hx, hZ, hown, hby, hml, hrt, hlk, hnm⟩ W).lift stp
theorem Wk.newobj (X : Wk Z l p e R s m args below meth c own nm bytes maxL ret n0 T h cells slots) (pc' : Nat) {index n : Nat} {C : String} (w : (Jvm.Cond.classLink own index C).before a0 Z = true) (wi : (Jvm.Cond.instantiable C n).before a0 Z = true) (wz : (Jvm.Cond.initialized C).before a0 Z = true) (hD : De bytes pc (.new index) 3 pc' = true) (hrm : (decide (cells + 1 ≤ R.cells) && decide (slots + n ≤ R.slots)) = true)
    (k : ∀ T' h', Wk Z l p e R s m args below meth c own nm bytes maxL ret n0 T' h' (cells + 1) (slots + n) → Ext h h' → Exa Z h' h.size C → (∀ {O nm d : String} {ty : FieldType}, Laid Z a0 C O nm d → parseFieldDescriptor d = some ty → Fld Z h' h.size O nm d (defaultValue ty)) → Go p e below s R n0 Q (T'.setTop (mkF m pc' ls (.ref h.size :: st)))) : Go p e below s R n0 Q (T.setTop (mkF m pc ls st)) := by
  obtain ⟨⟨locs, Y, N⟩, eT, hn, hx, hZ, hown, hby, hml, hrt, hlk, hnm⟩ := X
  obtain ⟨hd, rfl⟩ := De.spec hD
  simp only [Bool.and_eq_true, decide_eq_true_eq] at hrm
  obtain ⟨T', h', Y', e', E, A, D, -, stp⟩ := newO Y hx hZ hown w wi wz eT (g := mkF m pc ls st) rfl (hb hby hd) hrm.1 hrm.2
  exact (k T' h' ⟨⟨_, Y', N⟩, e', Nat.le_trans hn E.1, hx, hZ, hown, hby, hml, hrt, hlk, hnm⟩ E A D).lift stp
theorem Wk.initO (X : Wk Z l p e R s m args below meth c own nm bytes maxL ret n0 T h cells slots) (pc' W : Nat) {index : Nat} {a : Addr} (w1 : (Jvm.Cond.methodLink own index Lib.objectInit).before a0 Z = true) (w2 : (Jvm.Cond.instanceMethod Lib.objectInit).before a0 Z = true) (w3 : (Jvm.Cond.code Lib.objectInit ⟨#[0xb1]⟩ 1 none).before a0 Z = true) (hsz : ls.size = maxL) (hW : (rest.map fun v => v.category).sum = W) (hD : De bytes pc (.invokespecial index) 3 pc' = true) (hrm : (decide (1 ≤ R.frames) && decide (W + 12 ≤ R.locals)) = true)
    (k : ∀ T', Wk Z l p e R s m args below meth c own nm bytes maxL ret n0 T' h cells slots → Go p e below s R n0 Q (T'.setTop (mkF m pc' ls rest))) : Go p e below s R n0 Q (T.setTop (mkF m pc ls (.ref a :: rest))) := by
  obtain ⟨⟨locs, Y, N⟩, eT, hn, hx, hZ, hown, hby, hml, hrt, hlk, hnm⟩ := X
  obtain ⟨hd, rfl⟩ := De.spec hD
  simp only [Bool.and_eq_true, decide_eq_true_eq] at hrm
  obtain ⟨T', Y', e', stp⟩ := RoadKit.initO Y hx hZ hown w1 w2 w3 eT (g := mkF m pc ls (.ref a :: rest)) rfl (hsz.trans hml.symm) rfl (hb hby hd) hrm.1 (W := W) (by show 2 * 0 + _ ≤ _; omega) hrm.2
  exact (k T' ⟨⟨_, Y', N⟩, e', hn, hx, hZ, hown, hby, hml, hrt, hlk, hnm⟩).lift stp
theorem Wk.callS (X : Wk Z l p e R s m args below meth c own nm bytes maxL ret n0 T h cells slots) (pc' W : Nat) {y : MethodName} {yb : ByteArray} {yml : Nat} {yret : Option FieldType} {rm : Room} {Q' : Option Value → Heap → Prop} {argsL : List Value} {ps : List FieldType} {r : Option FieldType} {index : Nat} (K : Cnt l Z y yb yml yret rm n0 argsL.toArray h Q') (w1 : (Jvm.Cond.methodLink own index y).before a0 Z = true) (w2 : (Jvm.Cond.static y).before a0 Z = true) (w3 : (Jvm.Cond.initialized y.cls).before a0 Z = true) (w4 : (Jvm.Cond.code y yb yml yret).before a0 Z = true) (hy : (decide (y.cls ≠ "java/lang/invoke/MethodHandle") && decide (y.cls ≠ "java/lang/invoke/VarHandle")) = true) (hpd : parseMethodDescriptor y.desc = some ⟨ps, r⟩) (hlen : argsL.length = ps.length) (hst : st = argsL.reverse ++ rest) (hsz : ls.size = maxL) (hW : (rest.map fun v => v.category).sum = W) (hD : De bytes pc (.invokestatic index) 3 pc' = true) (hrm : (decide (rm.frames + 1 ≤ R.frames) && (decide (W + (yml + 11) + rm.locals ≤ R.locals) && (decide (cells + rm.cells ≤ R.cells) && decide (slots + rm.slots ≤ R.slots)))) = true)
    (k : ∀ T' h' v, Wk Z l p e R s m args below meth c own nm bytes maxL ret n0 T' h' (cells + rm.cells) (slots + rm.slots) → Q' v h' → Go p e below s R n0 Q (T'.setTop (mkF m pc' ls (v.toList ++ rest)))) : Go p e below s R n0 Q (T.setTop (mkF m pc ls st)) := by
  obtain ⟨⟨locs, Y, N⟩, eT, hn, hx, hZ, hown, hby, hml, hrt, hlk, hnm⟩ := X
  obtain ⟨hd, rfl⟩ := De.spec hD
  simp only [Bool.and_eq_true, decide_eq_true_eq] at hrm hy
  obtain ⟨v, _, ⟨U', L', c', s'⟩, -, Y', ⟨Lc, hq, el, ec, es⟩, stp⟩ := Jvm.LawKit.callS Y hx (y := y) hown (mvT hZ w1) (mvT hZ w2) (mvT hZ w3) (mvT hZ w4) hy (backOf (W := W) (Q := fun v h L => Q' v h ∧ n0 ≤ h.size ∧ Fr n0 L) (K []) hZ w4 w3 hrm.1 hrm.2.1) (g := mkF m pc ls st) rfl (hsz.trans hml.symm) (argsL := argsL) (rest := rest) (lenOf hpd hlen) hst (by show 2 * 0 + _ ≤ _; omega) (hb hby hd) (fun _ _ => ⟨rfl, eT, hrm.2.2.1, hrm.2.2.2⟩)
  dsimp only [Pt.U, Pt.locs, Pt.cells, Pt.slots] at Y' el ec es stp hq
  subst el ec es
  exact (k U' U'.heap v ⟨⟨_, Y', N.app hq.2.2⟩, rfl, hq.2.1, hx, hZ, hown, hby, hml, hrt, hlk, hnm⟩ hq.1).lift stp
theorem Wk.callI (X : Wk Z l p e R s m args below meth c own nm bytes maxL ret n0 T h cells slots) (pc' W : Nat) {y : MethodName} {yb : ByteArray} {yml : Nat} {rm : Room} {Q' : Option Value → Heap → Prop} {argsL : List Value} {ps : List FieldType} {r : Option FieldType} {index : Nat} {a : Addr} (K : Cnt l Z y yb yml none rm n0 (.ref a :: argsL).toArray h Q') (hnm' : y.name = "<init>") (w1 : (Jvm.Cond.methodLink own index y).before a0 Z = true) (w2 : (Jvm.Cond.instanceMethod y).before a0 Z = true) (w3 : (Jvm.Cond.initialized y.cls).before a0 Z = true) (w4 : (Jvm.Cond.code y yb yml none).before a0 Z = true) (hy : (decide (y.cls ≠ "java/lang/invoke/MethodHandle") && decide (y.cls ≠ "java/lang/invoke/VarHandle")) = true) (hpd : parseMethodDescriptor y.desc = some ⟨ps, r⟩) (hlen : argsL.length = ps.length) (hst : st = argsL.reverse ++ .ref a :: rest) (hsz : ls.size = maxL) (hW : (rest.map fun v => v.category).sum = W) (hD : De bytes pc (.invokespecial index) 3 pc' = true) (hrm : (decide (rm.frames + 1 ≤ R.frames) && (decide (W + (yml + 11) + rm.locals ≤ R.locals) && (decide (cells + rm.cells ≤ R.cells) && decide (slots + rm.slots ≤ R.slots)))) = true)
    (k : ∀ T' h' v, Wk Z l p e R s m args below meth c own nm bytes maxL ret n0 T' h' (cells + rm.cells) (slots + rm.slots) → Q' v h' → Go p e below s R n0 Q (T'.setTop (mkF m pc' ls (v.toList ++ rest)))) : Go p e below s R n0 Q (T.setTop (mkF m pc ls st)) := by
  obtain ⟨⟨locs, Y, N⟩, eT, hn, hx, hZ, hown, hby, hml, hrt, hlk, hnm⟩ := X
  obtain ⟨hd, rfl⟩ := De.spec hD
  simp only [Bool.and_eq_true, decide_eq_true_eq] at hrm hy
  obtain ⟨v, _, ⟨U', L', c', s'⟩, -, Y', ⟨Lc, hq, el, ec, es⟩, stp⟩ := Y.specialBack hx (y := y) hnm' hown (mvT hZ w1) (mvT hZ w2) (mvT hZ w4) hy (backOf (W := W) (Q := fun v h L => Q' v h ∧ n0 ≤ h.size ∧ Fr n0 L) (K []) hZ w4 w3 hrm.1 hrm.2.1) (g := mkF m pc ls st) rfl (hsz.trans hml.symm) (Steps.refl _) (a := a) (argsL := argsL) (rest := rest) (lenOf hpd hlen) hst (by show 2 * 0 + _ ≤ _; omega) (hb hby hd) (fun _ _ => ⟨rfl, eT, hrm.2.2.1, hrm.2.2.2⟩)
  dsimp only [Pt.U, Pt.locs, Pt.cells, Pt.slots] at Y' el ec es stp hq
  subst el ec es
  exact (k U' U'.heap v ⟨⟨_, Y', N.app hq.2.2⟩, rfl, hq.2.1, hx, hZ, hown, hby, hml, hrt, hlk, hnm⟩ hq.1).lift fun _ k => stp.trans k
theorem Wk.callV (X : Wk Z l p e R s m args below meth c own nm bytes maxL ret n0 T h cells slots) (pc' W : Nat) {y : MethodName} {yb : ByteArray} {yml : Nat} {yret : Option FieldType} {rm : Room} {Q' : Option Value → Heap → Prop} {argsL : List Value} {ps : List FieldType} {r : Option FieldType} {index : Nat} {b : Addr} {C : String} (E : Exa Z h b C) (K : Cnt l Z y yb yml yret rm n0 (.ref b :: argsL).toArray h Q') (w1 : (Jvm.Cond.methodLink own index y).before a0 Z = true) (w2 : (Jvm.Cond.declares y).before a0 Z = true) (w5 : (Jvm.Cond.selects C y y).before a0 Z = true) (w6 : (Jvm.Cond.instanceMethod y).before a0 Z = true) (w3 : (Jvm.Cond.initialized y.cls).before a0 Z = true) (w4 : (Jvm.Cond.code y yb yml yret).before a0 Z = true) (hy : (decide (y.cls ≠ "java/lang/invoke/MethodHandle") && decide (y.cls ≠ "java/lang/invoke/VarHandle")) = true) (hpd : parseMethodDescriptor y.desc = some ⟨ps, r⟩) (hlen : argsL.length = ps.length) (hst : st = argsL.reverse ++ .ref b :: rest) (hsz : ls.size = maxL) (hW : (rest.map fun v => v.category).sum = W) (hD : De bytes pc (.invokevirtual index) 3 pc' = true) (hrm : (decide (rm.frames + 1 ≤ R.frames) && (decide (W + (yml + 11) + rm.locals ≤ R.locals) && (decide (cells + rm.cells ≤ R.cells) && decide (slots + rm.slots ≤ R.slots)))) = true)
    (k : ∀ T' h' v, Wk Z l p e R s m args below meth c own nm bytes maxL ret n0 T' h' (cells + rm.cells) (slots + rm.slots) → Q' v h' → Go p e below s R n0 Q (T'.setTop (mkF m pc' ls (v.toList ++ rest)))) : Go p e below s R n0 Q (T.setTop (mkF m pc ls st)) := by
  obtain ⟨⟨locs, Y, N⟩, eT, hn, hx, hZ, hown, hby, hml, hrt, hlk, hnm⟩ := X
  obtain ⟨hd, rfl⟩ := De.spec hD
  simp only [Bool.and_eq_true, decide_eq_true_eq] at hrm hy
  obtain ⟨cq, kq, qa, qb, qc⟩ := isOf hZ eT E
  obtain ⟨v, _, ⟨U', L', c', s'⟩, -, Y', ⟨Lc, hq, el, ec, es⟩, stp⟩ := Y.virtualBack hx (y := y) (z := y) hown (mvT hZ w1) (mvT hZ w2) (notFace_of_selects (args := #[]) (mvT hZ w5)) (mvT hZ w5) (mvT hZ w6) hy (backOf (W := W) (Q := fun v h L => Q' v h ∧ n0 ≤ h.size ∧ Fr n0 L) (K []) hZ w4 w3 hrm.1 hrm.2.1) qa qc (g := mkF m pc ls st) rfl (hsz.trans hml.symm) (Steps.refl _) (argsL := argsL) (rest := rest) (lenOf hpd hlen) hst (by show 2 * 0 + _ ≤ _; omega) (hb hby hd) (fun _ _ => ⟨rfl, eT, hrm.2.2.1, hrm.2.2.2⟩)
  dsimp only [Pt.U, Pt.locs, Pt.cells, Pt.slots] at Y' el ec es stp hq
  subst el ec es
  exact (k U' U'.heap v ⟨⟨_, Y', N.app hq.2.2⟩, rfl, hq.2.1, hx, hZ, hown, hby, hml, hrt, hlk, hnm⟩ hq.1).lift fun _ k => stp.trans k
theorem Wk.callF (X : Wk Z l p e R s m args below meth c own nm bytes maxL ret n0 T h cells slots) (pc' W : Nat) {z : MethodName} {y : MethodName} {yb : ByteArray} {yml : Nat} {yret : Option FieldType} {rm : Room} {Q' : Option Value → Heap → Prop} {argsL : List Value} {ps : List FieldType} {r : Option FieldType} {index count : Nat} {b : Addr} {C : String} (E : Exa Z h b C) (K : Cnt l Z z yb yml yret rm n0 (.ref b :: argsL).toArray h Q') (w1 : (Jvm.Cond.methodLink own index y).before a0 Z = true) (w2 : (Jvm.Cond.declares y).before a0 Z = true) (w7 : (Jvm.Cond.interfaceMethod y.cls y.cls y.name y.desc).before a0 Z = true) (w5 : (Jvm.Cond.selects C y z).before a0 Z = true) (w6 : (Jvm.Cond.instanceMethod z).before a0 Z = true) (w8 : (Jvm.Cond.publicMethod z).before a0 Z = true) (w9 : (Jvm.Cond.unhidden C y.name y.desc).before a0 Z = true) (w10 : (Jvm.Cond.castable C y.cls).before a0 Z = true) (hfa : (Jvm.Cond.interfaceMethod y.cls y.cls y.name y.desc).faceAtom = true) (w3 : (Jvm.Cond.initialized z.cls).before a0 Z = true) (w4 : (Jvm.Cond.code z yb yml yret).before a0 Z = true) (hy : (decide (y.cls ≠ "java/lang/invoke/MethodHandle") && decide (y.cls ≠ "java/lang/invoke/VarHandle")) = true) (hpd : parseMethodDescriptor y.desc = some ⟨ps, r⟩) (hlen : argsL.length = ps.length) (hst : st = argsL.reverse ++ .ref b :: rest) (hsz : ls.size = maxL) (hW : (rest.map fun v => v.category).sum = W) (hD : De bytes pc (.invokeinterface index count) 5 pc' = true) (hrm : (decide (rm.frames + 1 ≤ R.frames) && (decide (W + (yml + 11) + rm.locals ≤ R.locals) && (decide (cells + rm.cells ≤ R.cells) && decide (slots + rm.slots ≤ R.slots)))) = true)
    (k : ∀ T' h' v, Wk Z l p e R s m args below meth c own nm bytes maxL ret n0 T' h' (cells + rm.cells) (slots + rm.slots) → Q' v h' → Go p e below s R n0 Q (T'.setTop (mkF m pc' ls (v.toList ++ rest)))) : Go p e below s R n0 Q (T.setTop (mkF m pc ls st)) := by
  obtain ⟨⟨locs, Y, N⟩, eT, hn, hx, hZ, hown, hby, hml, hrt, hlk, hnm⟩ := X
  obtain ⟨hd, rfl⟩ := De.spec hD
  simp only [Bool.and_eq_true, decide_eq_true_eq] at hrm hy
  obtain ⟨cq, kq, qa, qb, qc⟩ := isOf hZ eT E
  obtain ⟨v, _, ⟨U', L', c', s'⟩, -, Y', ⟨Lc, hq, el, ec, es⟩, stp⟩ := Y.interfaceBack hx (xi := y) (y := z) hown (mvT hZ w1) (mvT hZ w2) (mvT hZ w7 (by simp [Cond.onTables, Cond.keepsFace, Cond.keeps, Cond.steady, hfa])) (mvT hZ w5) (mvT hZ w6) (mvT hZ w8) (mvT hZ w9) (mvT hZ w10) hy (backOf (W := W) (Q := fun v h L => Q' v h ∧ n0 ≤ h.size ∧ Fr n0 L) (K []) hZ w4 w3 hrm.1 hrm.2.1) qa qb qc (g := mkF m pc ls st) rfl (hsz.trans hml.symm) (Steps.refl _) (argsL := argsL) (rest := rest) (lenOf hpd hlen) hst (by show 2 * 0 + _ ≤ _; omega) (hb hby hd) (fun _ _ => ⟨rfl, eT, hrm.2.2.1, hrm.2.2.2⟩)
  dsimp only [Pt.U, Pt.locs, Pt.cells, Pt.slots] at Y' el ec es stp hq
  subst el ec es
  exact (k U' U'.heap v ⟨⟨_, Y', N.app hq.2.2⟩, rfl, hq.2.1, hx, hZ, hown, hby, hml, hrt, hlk, hnm⟩ hq.1).lift fun _ k => stp.trans k
theorem Wk.clone (X : Wk Z l p e R s m args below meth c own nm bytes maxL ret n0 T h cells slots) (pc' W cap : Nat) {index : Nat} {ad : String} {a : Addr} {ty : FieldType} {vs : List Value} (A : AV Z h a ty vs) (had : "[" ++ ty.toString = ad) (w1 : (Jvm.Cond.methodLink own index ⟨ad, "clone", "()Ljava/lang/Object;"⟩).before a0 Z = true) (w2 : (Jvm.Cond.sameMethod ad "java/lang/Object" "clone" "()Ljava/lang/Object;").before a0 Z = true) (w3 : (Jvm.Cond.native ⟨"java/lang/Object", "clone", "()Ljava/lang/Object;"⟩).before a0 Z = true) (w4 : (Jvm.Cond.instanceMethod ⟨"java/lang/Object", "clone", "()Ljava/lang/Object;"⟩).before a0 Z = true) (w5 : (Jvm.Cond.selects ad ⟨ad, "clone", "()Ljava/lang/Object;"⟩ ⟨"java/lang/Object", "clone", "()Ljava/lang/Object;"⟩).before a0 Z = true) (w6 : (Jvm.Cond.castable ad "java/lang/Cloneable").before a0 Z = true) (hsz : ls.size = maxL) (hW : (rest.map fun v => v.category).sum = W) (hD : De bytes pc (.invokevirtual index) 3 pc' = true) (hcap : vs.length ≤ cap) (hrm : (decide (1 ≤ R.frames) && (decide (W + 14 ≤ R.locals) && (decide (cells + 1 ≤ R.cells) && decide (slots + cap ≤ R.slots)))) = true)
    (k : ∀ T' h', Wk Z l p e R s m args below meth c own nm bytes maxL ret n0 T' h' (cells + 1) (slots + cap) → Ext h h' → AV Z h' h.size ty vs → Go p e below s R n0 Q (T'.setTop (mkF m pc' ls (.ref h.size :: rest)))) : Go p e below s R n0 Q (T.setTop (mkF m pc ls (.ref a :: rest))) := by
  obtain ⟨⟨locs, Y, N⟩, eT, hn, hx, hZ, hown, hby, hml, hrt, hlk, hnm⟩ := X
  obtain ⟨hd, rfl⟩ := De.spec hD
  simp only [Bool.and_eq_true, decide_eq_true_eq] at hrm
  subst had
  obtain ⟨cl, A, rfl, q2, q3, q4⟩ := A
  have FC : FitC Z cl := fitC_of A fun i hi v hv => q3 v (by
    have := Array.getElem?_eq_some_iff.mp hv
    obtain ⟨_, e⟩ := this
    rw [← e]; simp)
  obtain ⟨T', h', Y', e', E, A', E', stp⟩ := cloneA Y hx hZ hown w1 w2 w3 w4 w5 w6 eT A q4 FC (g := mkF m pc ls (.ref a :: rest)) rfl (hsz.trans hml.symm) rfl (hb hby hd) hrm.1 (W := W) (cap := cap) (by show 2 * 0 + _ ≤ _; omega) hrm.2.1 (by simpa using hcap) hrm.2.2.1 hrm.2.2.2
  exact (k T' h' ⟨⟨_, Y', N⟩, e', Nat.le_trans hn E.1, hx, hZ, hown, hby, hml, hrt, hlk, hnm⟩ E ⟨_, A', rfl, q2, q3, E'⟩).lift stp
theorem Wk.cast (X : Wk Z l p e R s m args below meth c own nm bytes maxL ret n0 T h cells slots) (pc' : Nat) {index : Nat} {K : String} {a : Addr} (w : (Jvm.Cond.classLink own index K).before a0 Z = true) (E : Exa Z h a K) (hD : De bytes pc (.checkcast index) 3 pc' = true)
    (k : ∀ T', Wk Z l p e R s m args below meth c own nm bytes maxL ret n0 T' h cells slots → Go p e below s R n0 Q (T'.setTop (mkF m pc' ls (.ref a :: rest)))) : Go p e below s R n0 Q (T.setTop (mkF m pc ls (.ref a :: rest))) := by
  obtain ⟨⟨locs, Y, N⟩, eT, hn, hx, hZ, hown, hby, hml, hrt, hlk, hnm⟩ := X
  obtain ⟨hd, rfl⟩ := De.spec hD
  obtain ⟨T', Y', e', stp⟩ := castY Y hx hZ hown w eT (Ins.self E) (g := mkF m pc ls (.ref a :: rest)) rfl rfl (hb hby hd)
  exact (k T' ⟨⟨_, Y', N⟩, e', hn, hx, hZ, hown, hby, hml, hrt, hlk, hnm⟩).lift stp
theorem Wk.acopy (X : Wk Z l p e R s m args below meth c own nm bytes maxL ret n0 T h cells slots) (pc' W : Nat) {index : Nat} {a b : Addr} {ty : FieldType} {vs vd : List Value} {sp dp nn : Int32} (d : Value) (A : AV Z h a ty vs) (B : AV Z h b ty vd) (hp : refKind ty = false) (w1 : (Jvm.Cond.methodLink own index Jvm.Stand.acN).before a0 Z = true) (w2 : (Jvm.Cond.native Jvm.Stand.acN).before a0 Z = true) (w3 : (Jvm.Cond.static Jvm.Stand.acN).before a0 Z = true) (w4 : (Jvm.Cond.initialized "java/lang/System").before a0 Z = true) (h1 : ¬ sp < 0) (h2 : ¬ dp < 0) (h3 : ¬ nn < 0) (h4 : sp.toNatClampNeg + nn.toNatClampNeg ≤ vs.length) (h5 : dp.toNatClampNeg + nn.toNatClampNeg ≤ vd.length) (ha : n0 ≤ b) (hsz : ls.size = maxL) (hW : (rest.map fun v => v.category).sum = W) (hD : De bytes pc (.invokestatic index) 3 pc' = true) (hrm : (decide (1 ≤ R.frames) && decide (W + (nativeFrameWords "java/lang/System" "arraycopy" 5 + 11) ≤ R.locals)) = true)
    (k : ∀ T' h', Wk Z l p e R s m args below meth c own nm bytes maxL ret n0 T' h' cells slots → Keep h h' [b] → AV Z h' b ty (vd.take dp.toNatClampNeg ++ ((List.range nn.toNatClampNeg).map fun i => vs.getD (sp.toNatClampNeg + i) d) ++ vd.drop (dp.toNatClampNeg + nn.toNatClampNeg)) → Go p e below s R n0 Q (T'.setTop (mkF m pc' ls rest))) : Go p e below s R n0 Q (T.setTop (mkF m pc ls (.int nn :: .int dp :: .ref b :: .int sp :: .ref a :: rest))) := by
  obtain ⟨⟨locs, Y, N⟩, eT, hn, hx, hZ, hown, hby, hml, hrt, hlk, hnm⟩ := X
  obtain ⟨hd, rfl⟩ := De.spec hD
  simp only [Bool.and_eq_true, decide_eq_true_eq] at hrm
  have lz : ∀ {us : List Value}, us.length < 2 ^ 31 → us.length.toInt32.toNatClampNeg = us.length := fun {us} q => by
    have hz : ¬ us.length.toInt32 < 0 := by rw [Int32.lt_iff_toInt_lt, len_toInt q]; show ¬ ((_ : Int) < (0 : Int)); omega
    have := nat_of hz; rw [len_toInt q] at this; omega
  have lA : vs.length < 2 ^ 31 := by obtain ⟨_, _, _, q, _⟩ := A; exact q
  have lB : vd.length < 2 ^ 31 := by obtain ⟨_, _, _, q, _⟩ := B; exact q
  obtain ⟨k1, A'⟩ := A.arv d
  obtain ⟨k2, B'⟩ := B.arv d
  obtain ⟨T', h', L, Y', e', N', K, B2, stp⟩ := cpA Y hx hZ hown w1 w2 w3 w4 eT A' B' (Or.inl ⟨rfl, hp⟩) h1 h2 h3 (by rw [lz lA]; exact h4) (by rw [lz lB]; exact h5) rfl h5 N ha (g := mkF m pc ls (.int nn :: .int dp :: .ref b :: .int sp :: .ref a :: rest)) rfl (hsz.trans hml.symm) rfl (hb hby hd) hrm.1 (W := W) (by show 2 * 0 + _ ≤ _; omega) hrm.2
  exact (k T' h' ⟨⟨_, Y', N'⟩, e', Nat.le_trans hn K.1, hx, hZ, hown, hby, hml, hrt, hlk, hnm⟩ K (AV.of_arv B2 (by rw [lz lB]; simp; omega) (B.exa.keep K))).lift stp
theorem Wk.callP (X : Wk Z l p e R s m args below meth c own nm bytes maxL ret n0 T h cells slots) (pc' W : Nat) {y2 z2 : MethodName} {C2 : String} {y : MethodName} {yb : ByteArray} {yml : Nat} {yret : Option FieldType} {rm : Room} {Q' : Option Value → Heap → Prop} {argsL : List Value} {ps : List FieldType} {r : Option FieldType} {index : Nat} {b : Addr} {C : String} (E : Exa Z h b C) (K : Cnt l Z y yb yml yret rm n0 (.ref b :: argsL).toArray h Q') (w1 : (Jvm.Cond.methodLink own index y).before a0 Z = true) (w5 : (Jvm.Cond.selects C2 y2 z2).before a0 Z = true) (hz2 : z2.cls = y.cls) (w6 : (Jvm.Cond.instanceMethod y).before a0 Z = true) (w7 : (Jvm.Cond.privateMethod y).before a0 Z = true) (w3 : (Jvm.Cond.initialized y.cls).before a0 Z = true) (w4 : (Jvm.Cond.code y yb yml yret).before a0 Z = true) (hy : (decide (y.cls ≠ "java/lang/invoke/MethodHandle") && decide (y.cls ≠ "java/lang/invoke/VarHandle")) = true) (hpd : parseMethodDescriptor y.desc = some ⟨ps, r⟩) (hlen : argsL.length = ps.length) (hst : st = argsL.reverse ++ .ref b :: rest) (hsz : ls.size = maxL) (hW : (rest.map fun v => v.category).sum = W) (hD : De bytes pc (.invokevirtual index) 3 pc' = true) (hrm : (decide (rm.frames + 1 ≤ R.frames) && (decide (W + (yml + 11) + rm.locals ≤ R.locals) && (decide (cells + rm.cells ≤ R.cells) && decide (slots + rm.slots ≤ R.slots)))) = true)
    (k : ∀ T' h' v, Wk Z l p e R s m args below meth c own nm bytes maxL ret n0 T' h' (cells + rm.cells) (slots + rm.slots) → Q' v h' → Go p e below s R n0 Q (T'.setTop (mkF m pc' ls (v.toList ++ rest)))) : Go p e below s R n0 Q (T.setTop (mkF m pc ls st)) := by
  obtain ⟨⟨locs, Y, N⟩, eT, hn, hx, hZ, hown, hby, hml, hrt, hlk, hnm⟩ := X
  obtain ⟨hd, rfl⟩ := De.spec hD
  simp only [Bool.and_eq_true, decide_eq_true_eq] at hrm hy
  obtain ⟨cq, q, q'⟩ := E.cell
  have hpr : s.PrivateAt y := Cond.privateMethod_at (mvP hZ w7 (args := #[]))
  obtain ⟨c2, r2, m2, -, -, q3, -, kP, hkP, hkPi⟩ := Cond.selects_spec (mvT hZ w5 : (Jvm.Cond.selects C2 y2 z2).before args s = true)
  have hsel : (Jvm.Cond.selects y.cls y y).before args s = true := selects_self_of_private (by rw [← hz2]; exact findClass_of_methodNamed q3) hkP hkPi hpr (mvT hZ w6) hy
  obtain ⟨v, _, ⟨U', L', c', s'⟩, -, Y', ⟨Lc, hq, el, ec, es⟩, stp⟩ := Y.privateBack hx (y := y) hown (mvT hZ w1) (mvT hZ w6) hsel hpr (mvT hZ w4) hy (backOf (W := W) (Q := fun v h L => Q' v h ∧ n0 ≤ h.size ∧ Fr n0 L) (K []) hZ w4 w3 hrm.1 hrm.2.1) (g := mkF m pc ls st) rfl (hsz.trans hml.symm) (Steps.refl _) (a := b) (by rw [eT]; exact q) q' (argsL := argsL) (rest := rest) (lenOf hpd hlen) hst (by show 2 * 0 + _ ≤ _; omega) (hb hby hd) (fun _ _ => ⟨rfl, eT, hrm.2.2.1, hrm.2.2.2⟩)
  dsimp only [Pt.U, Pt.locs, Pt.cells, Pt.slots] at Y' el ec es stp hq
  subst el ec es
  exact (k U' U'.heap v ⟨⟨_, Y', N.app hq.2.2⟩, rfl, hq.2.1, hx, hZ, hown, hby, hml, hrt, hlk, hnm⟩ hq.1).lift fun _ k => stp.trans k
theorem Wk.tsw (X : Wk Z l p e R s m args below meth c own nm bytes maxL ret n0 T h cells slots) (t : Nat) {i : Int32} {df lo hi : Int} {offs : Array Int} {n : Nat} (hD : (decide (decode bytes pc = .ok (.tableswitch df lo hi offs, n)) && (if i.toInt < lo ∨ i.toInt > hi then decide (0 ≤ (pc : Int) + df) && decide (((pc : Int) + df).toNat = t) else (match offs[(i.toInt - lo).toNat]? with | some o => decide (0 ≤ (pc : Int) + o) && decide (((pc : Int) + o).toNat = t) | none => false))) = true) (k : Go p e below s R n0 Q (T.setTop (mkF m t ls rest))) : Go p e below s R n0 Q (T.setTop (mkF m pc ls (.int i :: rest))) := by
  obtain ⟨⟨locs, Y, N⟩, eT, hn, hx, hZ, hown, hby, r⟩ := X
  rw [Bool.and_eq_true, decide_eq_true_eq] at hD
  obtain ⟨hd, hD⟩ := hD
  split at hD
  · rename_i q
    rw [Bool.and_eq_true, decide_eq_true_eq, decide_eq_true_eq] at hD
    exact k.lift fun _ k => XS.tswOut Y.here hx rfl (pc0 := pc) (pc' := t) rfl (hb hby hd) rfl q hD.1 hD.2 k
  · rename_i q
    split at hD
    · rename_i o ho
      rw [Bool.and_eq_true, decide_eq_true_eq, decide_eq_true_eq] at hD
      exact k.lift fun _ k => XS.tswIn Y.here hx rfl (pc0 := pc) (pc' := t) rfl (hb hby hd) rfl q ho hD.1 hD.2 k
    · cases hD
end OwnLaws

theorem own_nn {j : Int32} (h : 0 ≤ j.toInt) : ¬ j < 0 := by rw [Int32.lt_iff_toInt_lt]; show ¬ _ < (0 : Int); omega
theorem own_nat {j : Int32} (h : 0 ≤ j.toInt) : (j.toNatClampNeg : Int) = j.toInt := by have := nat_of (own_nn h); omega

theorem own_rem (x d : Int32) (D : Int) (hd : d.toInt = D) (h0 : 0 < D) : 0 ≤ ((x &&& 2147483647) % d).toInt ∧ ((x &&& 2147483647) % d).toInt < D := by
  have h1 := (c_and x 2147483647 (by decide)).1
  have h2 := (c_irem (x &&& 2147483647) d D hd).1 h1
  have h3 := Int.emod_nonneg (x &&& 2147483647).toInt (b := D) (by omega)
  have h4 := Int.emod_lt_of_pos (x &&& 2147483647).toInt (b := D) (by omega)
  omega

def fMin (a b : Int32) : Int32 := if b < a then b else a
def wdf (qw qr i : Int32) : Int32 := if i < qr then qw + (1 : Int32) else qw
def shf (qw qr i : Int32) : Int32 := (i * qw) + fMin i qr
def mkf (qw qr i : Int32) : Int64 := (XT.ushrL (-1 : Int64) ((64 : Int32) - wdf qw qr i)) <<< ((shf qw qr i).toInt64 &&& 63)
def lowf (v : Int32) : Int64 := if v = 64 then -1 else ((1 : Int64) <<< (v.toInt64 &&& 63)) - 1
theorem own_fit (qc : Int32) (h : 1 ≤ qc.toInt ∧ qc.toInt ≤ 64) : (64 / qc : Int32).toInt = 64 / qc.toInt ∧ (64 % qc : Int32).toInt = 64 % qc.toInt := by
  have k : (64 : Int32).toInt = 64 := rfl
  have h1 := (c_idiv 64 qc qc.toInt rfl (by rintro rfl; have : (-1 : Int32).toInt = -1 := rfl; omega)).1 (by omega)
  have h2 := (c_irem 64 qc qc.toInt rfl).1 (by omega)
  rw [k] at h1 h2
  exact ⟨h1, h2⟩
theorem own_sh0 (qw qr : Int32) (hr : 0 ≤ qr.toInt) : shf qw qr 0 = 0 := by
  have : ¬ qr < 0 := own_nn hr
  simp [shf, fMin, this]
theorem own_shS (qw qr i : Int32) (hi : 0 ≤ i.toInt ∧ i.toInt < 64) (hr : 0 ≤ qr.toInt ∧ qr.toInt < 64) : shf qw qr i + wdf qw qr i = shf qw qr (i + 1) := by
  have k1 : (1 : Int32).toInt = 1 := rfl
  have e1 : (i + 1).toInt = i.toInt + 1 := by have := c_iadd i 1; have := rng32 (i + 1); omega
  have e2 : (i + 1) * qw = i * qw + qw := by rw [Int32.add_mul, Int32.one_mul]
  unfold shf wdf fMin
  rw [e2]
  by_cases q : i < qr
  · have q' := Int32.lt_iff_toInt_lt.mp q
    rw [if_pos q, if_neg (by rw [Int32.lt_iff_toInt_lt]; omega), if_neg (by rw [Int32.lt_iff_toInt_lt]; omega)]
    ac_rfl
  · have q' : ¬ i.toInt < qr.toInt := fun z => q (Int32.lt_iff_toInt_lt.mpr z)
    have f1 : (if qr < i then qr else i) = qr := by
      by_cases z : qr < i
      · rw [if_pos z]
      · rw [if_neg z]; rw [Int32.lt_iff_toInt_lt] at z; exact Int32.toInt_inj.mp (by omega)
    rw [if_neg q, f1, if_pos (by rw [Int32.lt_iff_toInt_lt]; omega)]
    ac_rfl
def PInv (Z : State) (h0 h : Heap) (n0 : Nat) (a1 ash aw am : Addr) (qc qw qr i : Int32) (sv wv mv : List Value) : Prop :=
  (Keep h0 h [a1] ∧ Fld Z h a1 "com/example/text_to_fingerprint/texttofingerprint/service/PigeonholeBlocks" "shifts" "[I" (.ref ash) ∧ Fld Z h a1 "com/example/text_to_fingerprint/texttofingerprint/service/PigeonholeBlocks" "widths" "[I" (.ref aw) ∧ Fld Z h a1 "com/example/text_to_fingerprint/texttofingerprint/service/PigeonholeBlocks" "masks" "[J" (.ref am)) ∧ (AV Z h ash .int sv ∧ AV Z h aw .int wv ∧ AV Z h am .long mv) ∧ (sv.length = qc.toNatClampNeg ∧ wv.length = qc.toNatClampNeg ∧ mv.length = qc.toNatClampNeg) ∧
  ((h0.size ≤ ash ∧ h0.size ≤ aw ∧ h0.size ≤ am) ∧ (ash ≠ aw ∧ ash ≠ am ∧ aw ≠ am) ∧ (a1 ≠ ash ∧ a1 ≠ aw ∧ a1 ≠ am)) ∧ (∀ j, j < i.toNatClampNeg → sv[j]? = some (.int (shf qw qr (Int32.ofNat j))) ∧ mv[j]? = some (.long (mkf qw qr (Int32.ofNat j))))
def PEnd (Z : State) (h0 h : Heap) (a1 : Addr) (qc qw qr : Int32) : Prop := Keep h0 h [a1] ∧ ∃ ash am sv mv, Fld Z h a1 "com/example/text_to_fingerprint/texttofingerprint/service/PigeonholeBlocks" "shifts" "[I" (.ref ash) ∧ Fld Z h a1 "com/example/text_to_fingerprint/texttofingerprint/service/PigeonholeBlocks" "masks" "[J" (.ref am) ∧ AV Z h ash .int sv ∧ AV Z h am .long mv ∧ ∀ j : Int32, 0 ≤ j.toInt → j.toInt < qc.toInt → sv[j.toNatClampNeg]? = some (.int (shf qw qr j)) ∧ mv[j.toNatClampNeg]? = some (.long (mkf qw qr j))
theorem own_ofNat {i : Int32} (h : 0 ≤ i.toInt) : Int32.ofNat i.toNatClampNeg = i := by
  have := (back32 (own_nn h)).1
  exact this
theorem own_ext {sv : List Value} {n k : Nat} {f : Nat → Value} {v : Value} (hl : k < sv.length) (h : ∀ j, j < k → sv[j]? = some (f j)) (hv : v = f k) : ∀ j, j < k + 1 → (sv.set k v)[j]? = some (f j) := fun j hj => by
  by_cases q : j = k
  · subst q; rw [List.getElem?_set_self hl, hv]
  · rw [List.getElem?_set_ne (fun z => q z.symm)]; exact h j (by omega)
theorem own_amt : ∀ k : Fin 64, ((UInt64.ofNat k.val).toBitVec % 64).toNat = k.val ∧ ((Int32.ofNat k.val).toInt64.toUInt64 &&& Int64.toUInt64 63) = UInt64.ofNat k.val ∧ (((Int32.ofNat k.val).toInt64 &&& 63).toBitVec.smod 64).toNat = k.val := by decide +kernel
theorem own_k {y : Int32} {k : Nat} (hy : y.toInt = k) (hk : k < 64) : y = Int32.ofNat k := by
  apply Int32.toInt_inj.mp
  show _ = (Int32.ofNat k).toInt
  rw [Int32.toInt_ofNat_small (by omega)]; exact hy
theorem own_ushr (x : Int64) {y : Int32} {k : Nat} (hy : y.toInt = k) (hk : k < 64) : (XT.ushrL x y).toBitVec = x.toBitVec >>> k := by
  rw [own_k hy hk]
  obtain ⟨h1, h2, -⟩ := own_amt ⟨k, hk⟩
  show (x.toUInt64 >>> ((Int32.ofNat k).toInt64.toUInt64 &&& Int64.toUInt64 63)).toBitVec = _
  rw [h2, UInt64.toBitVec_shiftRight, BitVec.ushiftRight_eq', h1]
  rfl
theorem own_shl (x : Int64) {y : Int32} {k : Nat} (hy : y.toInt = k) (hk : k < 64) : (x <<< (y.toInt64 &&& 63)).toBitVec = x.toBitVec <<< k := by
  rw [own_k hy hk]
  obtain ⟨-, -, h3⟩ := own_amt ⟨k, hk⟩
  rw [Int64.toBitVec_shiftLeft, BitVec.shiftLeft_eq', h3]
theorem own_low (v : Int32) {w : Nat} (hv : v.toInt = w) (h : 1 ≤ w ∧ w ≤ 64) (j : Nat) (hj : j < 64) : (lowf v).toBitVec.getLsbD j = decide (j < w) := by
  unfold lowf
  by_cases q : v = 64
  · rw [if_pos q]; subst q
    have : w = 64 := by have : (64 : Int32).toInt = 64 := rfl; omega
    subst this
    have e : (-1 : Int64).toBitVec = BitVec.allOnes 64 := by decide
    rw [e, BitVec.getLsbD_allOnes]
  · have hw : w < 64 := by
      rcases Nat.lt_or_eq_of_le h.2 with z | z
      · exact z
      · exact absurd (Int32.toInt_inj.mp (by rw [hv, z]; rfl)) q
    rw [if_neg q]
    have e : (((1 : Int64) <<< (v.toInt64 &&& 63)) - 1).toBitVec = BitVec.ofNat 64 (2 ^ w - 1) := by
      rw [Int64.toBitVec_sub, own_shl 1 hv hw]
      apply BitVec.eq_of_toNat_eq
      have e1 : (1 : Int64).toBitVec = 1#64 := rfl
      rw [e1]
      have p1 : 2 ^ w < 2 ^ 64 := Nat.pow_lt_pow_right (by decide) hw
      have p0 : 0 < 2 ^ w := Nat.pos_of_ne_zero (by simp)
      simp only [BitVec.toNat_sub, BitVec.toNat_shiftLeft, BitVec.toNat_ofNat, Nat.shiftLeft_eq, Nat.one_mul]
      have m1 : 1 % 2 ^ 64 = 1 := by decide
      rw [m1, Nat.one_mul, Nat.mod_eq_of_lt p1, Nat.mod_eq_of_lt (show 2 ^ w - 1 < 2 ^ 64 by omega)]
      have : 2 ^ 64 - 1 + 2 ^ w = 2 ^ 64 + (2 ^ w - 1) := by omega
      rw [this, Nat.add_mod_left, Nat.mod_eq_of_lt (by omega)]
    rw [e, BitVec.getLsbD_ofNat, Nat.testBit_two_pow_sub_one]
    simp [hj]
theorem own_mask (qw qr i : Int32) {w s : Nat} (hw : (wdf qw qr i).toInt = w) (hs : (shf qw qr i).toInt = s) (h : 1 ≤ w ∧ s + w ≤ 64) (j : Nat) (hj : j < 64) : (mkf qw qr i).toBitVec.getLsbD j = (decide (s ≤ j) && decide (j < s + w)) := by
  have hs64 : s < 64 := by omega
  have k64 : (64 : Int32).toInt = 64 := rfl
  have e1 : ((64 : Int32) - wdf qw qr i).toInt = ((64 - w : Nat) : Int) := by have := c_isub 64 (wdf qw qr i); have := rng32 ((64 : Int32) - wdf qw qr i); omega
  unfold mkf
  rw [own_shl _ hs hs64, own_ushr _ e1 (by omega)]
  have e : (-1 : Int64).toBitVec = BitVec.allOnes 64 := by decide
  rw [e]
  simp only [BitVec.getLsbD_shiftLeft, BitVec.getLsbD_ushiftRight, BitVec.getLsbD_allOnes]
  by_cases q : s ≤ j
  · by_cases z : j < s + w
    · simp [hj, q, z] <;> omega
    · simp [hj, q, z] <;> omega
  · simp [hj, q] <;> omega
theorem own_key (v : Int64) (qw qr i : Int32) {w s : Nat} (hw : (wdf qw qr i).toInt = w) (hs : (shf qw qr i).toInt = s) (h : 1 ≤ w ∧ s + w ≤ 64) : XT.ushrL (v &&& mkf qw qr i) (shf qw qr i) = (XT.ushrL v (shf qw qr i)) &&& lowf (wdf qw qr i) := by
  apply Int64.toBitVec_inj.mp
  rw [own_ushr _ hs (by omega), Int64.toBitVec_and, Int64.toBitVec_and, own_ushr _ hs (by omega)]
  apply BitVec.eq_of_getLsbD_eq
  intro j hj
  simp only [BitVec.getLsbD_ushiftRight, BitVec.getLsbD_and]
  rw [own_low _ hw (by omega) j hj]
  by_cases q : s + j < 64
  · rw [own_mask qw qr i hw hs h (s + j) q]
    have : decide (s ≤ s + j) = true := by simp
    rw [this]
    simp
  · rw [BitVec.getLsbD_of_ge v.toBitVec (s + j) (by omega)]
    simp
theorem own_agree (v : Int64) (qw qr i : Int32) {w s : Nat} (hw : (wdf qw qr i).toInt = w) (hs : (shf qw qr i).toInt = s) (h : 1 ≤ w ∧ s + w ≤ 64) : (v &&& mkf qw qr i) = 0 ↔ ((XT.ushrL v (shf qw qr i)) &&& lowf (wdf qw qr i)) = 0 := by
  rw [← own_key v qw qr i hw hs h]
  constructor
  · intro e; rw [e]
    apply Int64.toBitVec_inj.mp
    rw [own_ushr _ hs (by omega)]
    have : (0 : Int64).toBitVec = 0#64 := rfl
    rw [this]; simp
  · intro e
    have e' := congrArg Int64.toBitVec e
    rw [own_ushr _ hs (by omega)] at e'
    apply Int64.toBitVec_inj.mp
    apply BitVec.eq_of_getLsbD_eq
    intro j hj
    have z : (0 : Int64).toBitVec = 0#64 := rfl
    rw [z] at e' ⊢
    by_cases q : s ≤ j
    · have := congrArg (fun b => b.getLsbD (j - s)) e'
      simp only [BitVec.getLsbD_ushiftRight, BitVec.getLsbD_zero] at this
      rw [show s + (j - s) = j by omega] at this
      rw [this]; simp
    · rw [Int64.toBitVec_and, BitVec.getLsbD_and, own_mask qw qr i hw hs h j hj]
      simp [q]
theorem own_rngs (qc qb : Int32) (h : 1 ≤ qc.toInt ∧ qc.toInt ≤ 64) (hb : 0 ≤ qb.toInt ∧ qb.toInt < qc.toInt) : ∃ w s : Nat, (wdf (64 / qc) (64 % qc) qb).toInt = w ∧ (shf (64 / qc) (64 % qc) qb).toInt = s ∧ 1 ≤ w ∧ s + w ≤ 64 := by
  obtain ⟨f1, f2⟩ := own_fit qc h
  have dm := Int.mul_ediv_add_emod 64 qc.toInt
  have m0 := Int.emod_nonneg 64 (b := qc.toInt) (by omega)
  have m1 := Int.emod_lt_of_pos 64 (b := qc.toInt) (by omega)
  have d1 : 1 ≤ 64 / qc.toInt := by
    rcases Int.lt_or_le (64 / qc.toInt) 1 with z | z
    · have : 64 / qc.toInt = 0 := by have := Int.ediv_nonneg (a := 64) (b := qc.toInt) (by decide) (by omega); omega
      rw [this] at dm; omega
    · exact z
  have d2 : 64 / qc.toInt ≤ 64 := Int.ediv_le_self _ (by decide)
  generalize 64 / qc.toInt = D at *
  generalize 64 % qc.toInt = M at *
  generalize (64 / qc : Int32) = qw at *
  generalize (64 % qc : Int32) = qr at *
  have k1 : (1 : Int32).toInt = 1 := rfl
  have em := c_imul qb qw
  rw [f1] at em
  have p0 : 0 ≤ qb.toInt * D := Int.mul_nonneg hb.1 (by omega)
  have p1 : (qb.toInt + 1) * D ≤ qc.toInt * D := Int.mul_le_mul_of_nonneg_right (by omega) (by omega)
  rw [Int.add_mul, Int.one_mul] at p1
  have rm := rng32 (qb * qw)
  generalize qb.toInt * D = PD at *
  generalize qc.toInt * D = CD at *
  have em' : (qb * qw).toInt = PD := by omega
  unfold wdf shf fMin
  by_cases q : qb < qr
  · have q' := Int32.lt_iff_toInt_lt.mp q
    have a1 := c_iadd qw 1; have r1 := rng32 (qw + 1)
    have a2 := c_iadd (qb * qw) qb; have r2 := rng32 (qb * qw + qb)
    refine ⟨(D + 1).toNat, (PD + qb.toInt).toNat, ?_, ?_, ?_, ?_⟩
    · rw [if_pos q]; omega
    · rw [if_neg (by rw [Int32.lt_iff_toInt_lt]; omega)]; omega
    · omega
    · omega
  · have q' : ¬ qb.toInt < qr.toInt := fun z => q (Int32.lt_iff_toInt_lt.mpr z)
    have f : (if qr < qb then qr else qb) = qr := by
      by_cases z : qr < qb
      · rw [if_pos z]
      · rw [if_neg z]; rw [Int32.lt_iff_toInt_lt] at z; exact Int32.toInt_inj.mp (by omega)
    have a2 := c_iadd (qb * qw) qr; have r2 := rng32 (qb * qw + qr)
    refine ⟨D.toNat, (PD + qr.toInt).toNat, ?_, ?_, ?_, ?_⟩
    · rw [if_neg q]; omega
    · rw [f]; omega
    · omega
    · omega
set_option maxRecDepth 65536 in
set_option maxHeartbeats 40000000 in
theorem rm_min (l : Launch) (Z : State) (a0 : Array Value) (hw : ∀ d ∈ tables_1, d.before a0 Z = true) (p1 p2 : Int32) (h0 : Heap) (n0 : Nat) (Z0 : n0 ≤ h0.size)  :
    Cnt l Z (⟨"java/lang/Math", "min", "(II)I"⟩ : MethodName) jdk_29_method_69_code 2 (some .int) ({ frames := 0, cells := 0, slots := 0, locals := 0 } : Room) n0 #[(.int p1), (.int p2)] h0 (fun v h => v = some (.int (fMin p1 p2)) ∧ h0 = h) := by
  refine Cnt.mk (by first | exact plainFor_of_name (by first | (simp [plainName, overriddenIn]; done) | decide +kernel) | decide +kernel) Z0 ?_
  intro p e s m below meth c T X
  refine Go.cast (g' := mkF m 0 #[.val (.int p1), .val (.int p2)] []) (by first | (simp [entryFrame, mkF, argsToLocals, Value.category, maxLocals]; done) | rfl) ?_
  have hK : (∀ q ∈ ([] : List (Nat × Int32)), (Jvm.Cond.constant "java/lang/Math" q.1 q.2).before a0 Z = true) ∧ (∀ q ∈ ([] : List (Nat × Int64)), (Jvm.Cond.constantLong "java/lang/Math" q.1 q.2).before a0 Z = true) :=
    ⟨(fun q hq => nomatch hq), (fun q hq => nomatch hq)⟩
  refine X.blk hK (L := [(.iload_n 0, 1, 0, 0), (.iload_n 1, 1, 0, 0)]) (pc' := 2) (ls' := #[.val (.int p1), .val (.int p2)]) (st' := [(.int p2), (.int p1)]) (by decide +kernel) rfl ?_
  refine X.icmp .gt (7) 9 5 (by decide +kernel) (fun (c2 : p2 < p1) => ?_) (fun (c2 : ¬ p2 < p1) => ?_)
  · refine X.blk hK (L := [(.iload_n 1, 1, 0, 0)]) (pc' := 10) (ls' := #[.val (.int p1), .val (.int p2)]) (st' := [(.int p2)]) (by decide +kernel) rfl ?_
    exact X.retI (by decide +kernel) (by decide) (by decide) (by refine ⟨?_, rfl⟩; simp [fMin, c2])
  · refine X.blk hK (L := [(.iload_n 0, 1, 0, 0), (.goto 4, 3, 0, 10)]) (pc' := 10) (ls' := #[.val (.int p1), .val (.int p2)]) (st' := [(.int p1)]) (by decide +kernel) rfl ?_
    exact X.retI (by decide +kernel) (by decide) (by decide) (by refine ⟨?_, rfl⟩; simp [fMin, c2])
set_option maxRecDepth 65536 in
set_option maxHeartbeats 40000000 in
theorem rm_init (l : Launch) (Z : State) (a0 : Array Value) (hw : ∀ d ∈ tables_1, d.before a0 Z = true) (a1 : Addr) (p2 qc : Int32) (h0 : Heap) (n0 : Nat) (Z0 : n0 ≤ h0.size) (hqc : qc = p2 + 1) (rc : 1 ≤ qc.toInt ∧ qc.toInt ≤ 64) (F0 : Fld Z h0 a1 "com/example/text_to_fingerprint/texttofingerprint/service/PigeonholeBlocks" "shifts" "[I" (.null)) (F1 : Fld Z h0 a1 "com/example/text_to_fingerprint/texttofingerprint/service/PigeonholeBlocks" "widths" "[I" (.null)) (F2 : Fld Z h0 a1 "com/example/text_to_fingerprint/texttofingerprint/service/PigeonholeBlocks" "masks" "[J" (.null)) (E : Exa Z h0 a1 "com/example/text_to_fingerprint/texttofingerprint/service/PigeonholeBlocks") (ga : n0 ≤ a1) :
    Cnt l Z (⟨"com/example/text_to_fingerprint/texttofingerprint/service/PigeonholeBlocks", "<init>", "(I)V"⟩ : MethodName) prog_28_method_1_code 7 none ({ frames := 1, cells := 3, slots := 192, locals := 16 } : Room) n0 #[(.ref a1), (.int p2)] h0 (fun v h => v = none ∧ PEnd Z h0 h a1 qc (64 / qc) (64 % qc)) := by
  refine Cnt.mk (by first | exact plainFor_of_name (by first | (simp [plainName, overriddenIn]; done) | decide +kernel) | decide +kernel) Z0 ?_
  intro p e s m below meth c T X
  refine Go.cast (g' := mkF m 0 #[.val (.ref a1), .val (.int p2), .unset, .unset, .unset, .unset, .unset] []) (by first | (simp [entryFrame, mkF, argsToLocals, Value.category, maxLocals]; done) | rfl) ?_
  have hK : (∀ q ∈ ([] : List (Nat × Int32)), (Jvm.Cond.constant "com/example/text_to_fingerprint/texttofingerprint/service/PigeonholeBlocks" q.1 q.2).before a0 Z = true) ∧ (∀ q ∈ ([(22, (-1 : Int64))] : List (Nat × Int64)), (Jvm.Cond.constantLong "com/example/text_to_fingerprint/texttofingerprint/service/PigeonholeBlocks" q.1 q.2).before a0 Z = true) :=
    ⟨(fun q hq => nomatch hq), (fun q hq => by
      rcases List.mem_cons.mp hq with rfl | hq
      · exact hw _ (List.mem_of_getElem? (i := 23) rfl)
      exact nomatch hq)⟩
  have nz : qc ≠ 0 := by rintro rfl; have : (0 : Int32).toInt = 0 := rfl; omega
  obtain ⟨f1, f2⟩ := own_fit qc rc
  have m0 := Int.emod_nonneg 64 (b := qc.toInt) (by omega)
  have m1 := Int.emod_lt_of_pos 64 (b := qc.toInt) (by omega)
  have l_c : qc.toNatClampNeg ≤ 64 := by have := own_nat (j := qc) (by omega); omega
  refine X.blk hK (L := [(.aload_n 0, 1, 0, 0)]) (pc' := 1) (ls' := #[.val (.ref a1), .val (.int p2), .unset, .unset, .unset, .unset, .unset]) (st' := [(.ref a1)]) (by decide +kernel) rfl ?_
  refine X.initO 4 0 (hw _ (List.mem_of_getElem? (i := 12) rfl)) (hw _ (List.mem_of_getElem? (i := 13) rfl)) (hw _ (List.mem_of_getElem? (i := 14) rfl)) rfl rfl (by decide +kernel) (by decide) ?_
  intro T0 X0
  refine X0.blk hK (L := [(.iload_n 1, 1, 0, 0), (.iconst 1, 1, 1, 0), (.iadd, 1, 0, 0), (.istore_n 2, 1, 0, 0), (.bipush 64, 2, 64, 0), (.iload_n 2, 1, 0, 0)]) (pc' := 11) (ls' := #[.val (.ref a1), .val (.int p2), .val (.int (p2 + (1 : Int32))), .unset, .unset, .unset, .unset]) (st' := [(.int (p2 + (1 : Int32))), (.int (64 : Int32))]) (by decide +kernel) rfl ?_
  rw [← hqc]
  refine X0.idiv 12 (by decide +kernel) (nz) ?_
  refine X0.blk hK (L := [(.istore_n 3, 1, 0, 0), (.bipush 64, 2, 64, 0), (.iload_n 2, 1, 0, 0)]) (pc' := 16) (ls' := #[.val (.ref a1), .val (.int p2), .val (.int qc), .val (.int ((64 : Int32) / qc)), .unset, .unset, .unset]) (st' := [(.int qc), (.int (64 : Int32))]) (by decide +kernel) rfl ?_
  refine X0.irem 17 (by decide +kernel) (nz) ?_
  refine X0.blk hK (L := [(.istore 4, 2, 0, 0), (.aload_n 0, 1, 0, 0), (.iload_n 2, 1, 0, 0)]) (pc' := 21) (ls' := #[.val (.ref a1), .val (.int p2), .val (.int qc), .val (.int ((64 : Int32) / qc)), .val (.int ((64 : Int32) % qc)), .unset, .unset]) (st' := [(.int qc), (.ref a1)]) (by decide +kernel) rfl ?_
  generalize h_qw : (64 : Int32) / qc = qw
  generalize h_qr : (64 : Int32) % qc = qr
  rw [h_qw] at f1
  rw [h_qr] at f2
  refine X0.newarr 23 64 (aty := .int) (hw _ (List.mem_of_getElem? (i := 15) rfl)) rfl (by decide +kernel) (own_nn (by omega)) (l_c) (by decide) ?_
  intro Tn0 hn0 Xn0 En0 A0
  obtain ⟨an0, gn0⟩ : ∃ z, z = h0.size := ⟨_, rfl⟩
  rw [← gn0] at A0 ⊢
  have A0 : AV Z hn0 an0 .int (List.replicate qc.toNatClampNeg (.int 0)) := A0
  have G0_0 := F0.ext En0
  have G0_1 := F1.ext En0
  have G0_2 := F2.ext En0
  have lt0 : a1 < hn0.size := Nat.lt_of_lt_of_le G0_0.lt (Nat.le_refl _)
  refine Xn0.putf 26 (hw _ (List.mem_of_getElem? (i := 16) rfl)) G0_0 (E.ext En0) (Or.inr ⟨(hw _ (List.mem_of_getElem? (i := 17) rfl)), rfl, rfl⟩) (hw _ (List.mem_of_getElem? (i := 7) rfl)) (ty := (.array .int)) (by decide) rfl (rfl) (ga) (by decide +kernel) ?_
  intro Tp0 hp0 Xp0 Wp0
  have H0_1 := G0_1.other Wp0 (Or.inr (slot_ne (t := .array .int) (t' := .array .int) (Or.inr (hw _ (List.mem_of_getElem? (i := 19) rfl))) (Or.inr (hw _ (List.mem_of_getElem? (i := 17) rfl))) (by decide) (by decide) (by decide)))
  have H0_2 := G0_2.other Wp0 (Or.inr (slot_ne (t := .array .long) (t' := .array .int) (Or.inr (hw _ (List.mem_of_getElem? (i := 22) rfl))) (Or.inr (hw _ (List.mem_of_getElem? (i := 17) rfl))) (by decide) (by decide) (by decide)))
  have H0_0 := G0_0.same Wp0
  have d0 : a1 ≠ an0 := by rw [gn0]; exact Nat.ne_of_lt (F0.lt)
  have C0_0 := A0.other Wp0 (fun z => d0 z.symm)
  refine Xp0.blk hK (L := [(.aload_n 0, 1, 0, 0), (.iload_n 2, 1, 0, 0)]) (pc' := 28) (ls' := #[.val (.ref a1), .val (.int p2), .val (.int qc), .val (.int qw), .val (.int qr), .unset, .unset]) (st' := [(.int qc), (.ref a1)]) (by decide +kernel) rfl ?_
  refine Xp0.newarr 30 64 (aty := .int) (hw _ (List.mem_of_getElem? (i := 15) rfl)) rfl (by decide +kernel) (own_nn (by omega)) (l_c) (by decide) ?_
  intro Tn1 hn1 Xn1 En1 A1
  obtain ⟨an1, gn1⟩ : ∃ z, z = hp0.size := ⟨_, rfl⟩
  rw [← gn1] at A1 ⊢
  have A1 : AV Z hn1 an1 .int (List.replicate qc.toNatClampNeg (.int 0)) := A1
  have G1_0 := H0_0.ext En1
  have G1_1 := H0_1.ext En1
  have G1_2 := H0_2.ext En1
  have B1_0 := C0_0.ext En1
  have lt1 : a1 < hn1.size := Nat.lt_of_lt_of_le G1_0.lt (Nat.le_refl _)
  refine Xn1.putf 33 (hw _ (List.mem_of_getElem? (i := 18) rfl)) G1_1 (((E.ext En0).wr Wp0).ext En1) (Or.inr ⟨(hw _ (List.mem_of_getElem? (i := 19) rfl)), rfl, rfl⟩) (hw _ (List.mem_of_getElem? (i := 7) rfl)) (ty := (.array .int)) (by decide) rfl (rfl) (ga) (by decide +kernel) ?_
  intro Tp1 hp1 Xp1 Wp1
  have H1_0 := G1_0.other Wp1 (Or.inr (slot_ne (t := .array .int) (t' := .array .int) (Or.inr (hw _ (List.mem_of_getElem? (i := 17) rfl))) (Or.inr (hw _ (List.mem_of_getElem? (i := 19) rfl))) (by decide) (by decide) (by decide)))
  have H1_2 := G1_2.other Wp1 (Or.inr (slot_ne (t := .array .long) (t' := .array .int) (Or.inr (hw _ (List.mem_of_getElem? (i := 22) rfl))) (Or.inr (hw _ (List.mem_of_getElem? (i := 19) rfl))) (by decide) (by decide) (by decide)))
  have H1_1 := G1_1.same Wp1
  have d1 : a1 ≠ an1 := by rw [gn1]; exact Nat.ne_of_lt (H0_0.lt)
  have C1_0 := B1_0.other Wp1 (fun z => d0 z.symm)
  have C1_1 := A1.other Wp1 (fun z => d1 z.symm)
  refine Xp1.blk hK (L := [(.aload_n 0, 1, 0, 0), (.iload_n 2, 1, 0, 0)]) (pc' := 35) (ls' := #[.val (.ref a1), .val (.int p2), .val (.int qc), .val (.int qw), .val (.int qr), .unset, .unset]) (st' := [(.int qc), (.ref a1)]) (by decide +kernel) rfl ?_
  refine Xp1.newarr 37 64 (aty := .long) (hw _ (List.mem_of_getElem? (i := 20) rfl)) rfl (by decide +kernel) (own_nn (by omega)) (l_c) (by decide) ?_
  intro Tn2 hn2 Xn2 En2 A2
  obtain ⟨an2, gn2⟩ : ∃ z, z = hp1.size := ⟨_, rfl⟩
  rw [← gn2] at A2 ⊢
  have A2 : AV Z hn2 an2 .long (List.replicate qc.toNatClampNeg (.long 0)) := A2
  have G2_0 := H1_0.ext En2
  have G2_1 := H1_1.ext En2
  have G2_2 := H1_2.ext En2
  have B2_0 := C1_0.ext En2
  have B2_1 := C1_1.ext En2
  have lt2 : a1 < hn2.size := Nat.lt_of_lt_of_le G2_0.lt (Nat.le_refl _)
  refine Xn2.putf 40 (hw _ (List.mem_of_getElem? (i := 21) rfl)) G2_2 (((((E.ext En0).wr Wp0).ext En1).wr Wp1).ext En2) (Or.inr ⟨(hw _ (List.mem_of_getElem? (i := 22) rfl)), rfl, rfl⟩) (hw _ (List.mem_of_getElem? (i := 7) rfl)) (ty := (.array .long)) (by decide) rfl (rfl) (ga) (by decide +kernel) ?_
  intro Tp2 hp2 Xp2 Wp2
  have H2_0 := G2_0.other Wp2 (Or.inr (slot_ne (t := .array .int) (t' := .array .long) (Or.inr (hw _ (List.mem_of_getElem? (i := 17) rfl))) (Or.inr (hw _ (List.mem_of_getElem? (i := 22) rfl))) (by decide) (by decide) (by decide)))
  have H2_1 := G2_1.other Wp2 (Or.inr (slot_ne (t := .array .int) (t' := .array .long) (Or.inr (hw _ (List.mem_of_getElem? (i := 19) rfl))) (Or.inr (hw _ (List.mem_of_getElem? (i := 22) rfl))) (by decide) (by decide) (by decide)))
  have H2_2 := G2_2.same Wp2
  have d2 : a1 ≠ an2 := by rw [gn2]; exact Nat.ne_of_lt (H1_0.lt)
  have C2_0 := B2_0.other Wp2 (fun z => d0 z.symm)
  have C2_1 := B2_1.other Wp2 (fun z => d1 z.symm)
  have C2_2 := A2.other Wp2 (fun z => d2 z.symm)
  refine Xp2.blk hK (L := [(.iconst 0, 1, 0, 0), (.istore 5, 2, 0, 0), (.iconst 0, 1, 0, 0), (.istore 6, 2, 0, 0)]) (pc' := 46) (ls' := #[.val (.ref a1), .val (.int p2), .val (.int qc), .val (.int qw), .val (.int qr), .val (.int (0 : Int32)), .val (.int (0 : Int32))]) (st' := []) (by decide +kernel) rfl ?_
  have K1 : Keep h0 hp0 [a1] := ((Keep.refl _ _).ext En0).wr Wp0 (Or.inl (List.mem_singleton.mpr rfl))
  have K2 : Keep h0 hp1 [a1] := (K1.ext En1).wr Wp1 (Or.inl (List.mem_singleton.mpr rfl))
  have K3 : Keep h0 hp2 [a1] := (K2.ext En2).wr Wp2 (Or.inl (List.mem_singleton.mpr rfl))
  have J46 : ∀ (k : Nat) (i : Int32) (ash aw am : Addr) (sv wv mv : List Value) (TL : State) (hL : Heap), Wk Z l p e ({ frames := 1, cells := 3, slots := 192, locals := 16 } : Room) s m #[(.ref a1), (.int p2)] below meth c "com/example/text_to_fingerprint/texttofingerprint/service/PigeonholeBlocks" "<init>" prog_28_method_1_code 7 none n0 TL hL 3 192 → PInv Z h0 hL n0 a1 ash aw am qc qw qr i sv wv mv → (0 ≤ i.toInt ∧ qc.toInt - i.toInt = k) → Go p e below s ({ frames := 1, cells := 3, slots := 192, locals := 16 } : Room) n0 (fun v h => v = none ∧ PEnd Z h0 h a1 qc qw qr) (TL.setTop (mkF m 46 #[.val (.ref a1), .val (.int p2), .val (.int qc), .val (.int qw), .val (.int qr), .val (.int (shf qw qr i)), .val (.int i)] [])) := by
    intro k
    induction k with
    | zero =>
      intro i ash aw am sv wv mv TL hL XL I hi
      obtain ⟨⟨IK, IS, IW, IM⟩, ⟨AS, AW, AM⟩, ⟨lS, lW, lM⟩, ⟨⟨u1, u2, u3⟩, ⟨v1, v2, v3⟩, ⟨x1, x2, x3⟩⟩, IJ⟩ := I
      refine XL.blk hK (L := [(.iload 6, 2, 0, 0), (.iload_n 2, 1, 0, 0)]) (pc' := 49) (ls' := #[.val (.ref a1), .val (.int p2), .val (.int qc), .val (.int qw), .val (.int qr), .val (.int (shf qw qr i)), .val (.int i)]) (st' := [(.int qc), (.int i)]) (by decide +kernel) rfl ?_
      refine XL.icmp .ge (75) 124 52 (by decide +kernel) (fun (c49 : ¬ i < qc) => ?_) (fun (c49 : i < qc) => absurd c49 (by rw [Int32.lt_iff_toInt_lt]; omega : ¬ i < qc))
      exact XL.retV (by decide +kernel) (by decide) (by decide) (⟨rfl, IK, ash, am, sv, mv, IS, IM, AS, AM, fun j j0 j1 => by
            have q := IJ j.toNatClampNeg (by have := own_nat j0; have := own_nat hi.1; omega)
            rwa [own_ofNat j0] at q⟩)
    | succ k ih =>
      intro i ash aw am sv wv mv TL hL XL I hi
      obtain ⟨⟨IK, IS, IW, IM⟩, ⟨AS, AW, AM⟩, ⟨lS, lW, lM⟩, ⟨⟨u1, u2, u3⟩, ⟨v1, v2, v3⟩, ⟨x1, x2, x3⟩⟩, IJ⟩ := I
      have n_i := own_nat hi.1
      have n_c := own_nat (j := qc) (by omega)
      have l_i : i.toNatClampNeg < qc.toNatClampNeg := by omega
      refine XL.blk hK (L := [(.iload 6, 2, 0, 0), (.iload_n 2, 1, 0, 0)]) (pc' := 49) (ls' := #[.val (.ref a1), .val (.int p2), .val (.int qc), .val (.int qw), .val (.int qr), .val (.int (shf qw qr i)), .val (.int i)]) (st' := [(.int qc), (.int i)]) (by decide +kernel) rfl ?_
      refine XL.icmp .ge (75) 124 52 (by decide +kernel) (fun (c49 : ¬ i < qc) => absurd (by rw [Int32.lt_iff_toInt_lt]; omega : i < qc) c49) (fun (c49 : i < qc) => ?_)
      refine XL.blk hK (L := [(.aload_n 0, 1, 0, 0)]) (pc' := 53) (ls' := #[.val (.ref a1), .val (.int p2), .val (.int qc), .val (.int qw), .val (.int qr), .val (.int (shf qw qr i)), .val (.int i)]) (st' := [(.ref a1)]) (by decide +kernel) rfl ?_
      refine XL.getf 56 (hw _ (List.mem_of_getElem? (i := 16) rfl)) IS (by decide +kernel) ?_
      intro Ta Xa
      refine Xa.blk hK (L := [(.iload 6, 2, 0, 0), (.iload 5, 2, 0, 0)]) (pc' := 60) (ls' := #[.val (.ref a1), .val (.int p2), .val (.int qc), .val (.int qw), .val (.int qr), .val (.int (shf qw qr i)), .val (.int i)]) (st' := [(.int (shf qw qr i)), (.int i), (.ref ash)]) (by decide +kernel) rfl ?_
      refine Xa.iastore 61 AS (by decide +kernel) (own_nn hi.1) (by omega) (Nat.le_trans Z0 u1) ?_
      intro T1 h1 X1 W1 AS1
      have IS1 := IS.other W1 (Or.inl x1)
      have IW1 := IW.other W1 (Or.inl x1)
      have IM1 := IM.other W1 (Or.inl x1)
      have AW1 := AW.other W1 v1.symm
      have AM1 := AM.other W1 v2.symm
      have IK1 := IK.wr W1 (Or.inr u1)
      refine X1.blk hK (L := [(.aload_n 0, 1, 0, 0)]) (pc' := 62) (ls' := #[.val (.ref a1), .val (.int p2), .val (.int qc), .val (.int qw), .val (.int qr), .val (.int (shf qw qr i)), .val (.int i)]) (st' := [(.ref a1)]) (by decide +kernel) rfl ?_
      refine X1.getf 65 (hw _ (List.mem_of_getElem? (i := 18) rfl)) IW1 (by decide +kernel) ?_
      intro Tb Xb
      refine Xb.blk hK (L := [(.iload 6, 2, 0, 0), (.iload 6, 2, 0, 0), (.iload 4, 2, 0, 0)]) (pc' := 71) (ls' := #[.val (.ref a1), .val (.int p2), .val (.int qc), .val (.int qw), .val (.int qr), .val (.int (shf qw qr i)), .val (.int i)]) (st' := [(.int qr), (.int i), (.int i), (.ref aw)]) (by decide +kernel) rfl ?_
      have J81 : Go p e below s ({ frames := 1, cells := 3, slots := 192, locals := 16 } : Room) n0 (fun v h => v = none ∧ PEnd Z h0 h a1 qc qw qr) (Tb.setTop (mkF m 81 #[.val (.ref a1), .val (.int p2), .val (.int qc), .val (.int qw), .val (.int qr), .val (.int (shf qw qr i)), .val (.int i)] [(.int (wdf qw qr i)), (.int i), (.ref aw)])) := by
        refine Xb.iastore 82 AW1 (by decide +kernel) (own_nn hi.1) (by omega) (Nat.le_trans Z0 u2) ?_
        intro T2 h2 X2 W2 AW2
        have IS2 := IS1.other W2 (Or.inl x2)
        have IW2 := IW1.other W2 (Or.inl x2)
        have IM2 := IM1.other W2 (Or.inl x2)
        have AS2 := AS1.other W2 v1
        have AM2 := AM1.other W2 v3.symm
        have IK2 := IK1.wr W2 (Or.inr u2)
        have gw : (wv.set i.toNatClampNeg (.int (wdf qw qr i)))[i.toNatClampNeg]? = some (.int (wdf qw qr i)) := List.getElem?_set_self (by omega)
        refine X2.blk hK (L := [(.aload_n 0, 1, 0, 0)]) (pc' := 83) (ls' := #[.val (.ref a1), .val (.int p2), .val (.int qc), .val (.int qw), .val (.int qr), .val (.int (shf qw qr i)), .val (.int i)]) (st' := [(.ref a1)]) (by decide +kernel) rfl ?_
        refine X2.getf 86 (hw _ (List.mem_of_getElem? (i := 21) rfl)) IM2 (by decide +kernel) ?_
        intro Tc Xc
        refine Xc.blk hK (L := [(.iload 6, 2, 0, 0), (.ldc2_w 22, 3, 0, 0), (.bipush 64, 2, 64, 0), (.aload_n 0, 1, 0, 0)]) (pc' := 94) (ls' := #[.val (.ref a1), .val (.int p2), .val (.int qc), .val (.int qw), .val (.int qr), .val (.int (shf qw qr i)), .val (.int i)]) (st' := [(.ref a1), (.int (64 : Int32)), (.long (-1 : Int64)), (.int i), (.ref am)]) (by decide +kernel) rfl ?_
        refine Xc.getf 97 (hw _ (List.mem_of_getElem? (i := 18) rfl)) IW2 (by decide +kernel) ?_
        intro Td Xd
        refine Xd.blk hK (L := [(.iload 6, 2, 0, 0)]) (pc' := 99) (ls' := #[.val (.ref a1), .val (.int p2), .val (.int qc), .val (.int qw), .val (.int qr), .val (.int (shf qw qr i)), .val (.int i)]) (st' := [(.int i), (.ref aw), (.int (64 : Int32)), (.long (-1 : Int64)), (.int i), (.ref am)]) (by decide +kernel) rfl ?_
        refine Xd.iaload 100 AW2 (by decide +kernel) (own_nn hi.1) (gw) ?_
        refine Xd.blk hK (L := [(.isub, 1, 0, 0), (.lushr, 1, 0, 0), (.iload 5, 2, 0, 0), (.lshl, 1, 0, 0)]) (pc' := 105) (ls' := #[.val (.ref a1), .val (.int p2), .val (.int qc), .val (.int qw), .val (.int qr), .val (.int (shf qw qr i)), .val (.int i)]) (st' := [(.long (mkf qw qr i)), (.int i), (.ref am)]) (by decide +kernel) rfl ?_
        refine Xd.lastore 106 AM2 (by decide +kernel) (own_nn hi.1) (by omega) (Nat.le_trans Z0 u3) ?_
        intro T3 h3 X3 W3 AM3
        have IS3 := IS2.other W3 (Or.inl x3)
        have IW3 := IW2.other W3 (Or.inl x3)
        have IM3 := IM2.other W3 (Or.inl x3)
        have AS3 := AS2.other W3 v2
        have AW3 := AW2.other W3 v3
        have IK3 := IK2.wr W3 (Or.inr u3)
        refine X3.blk hK (L := [(.iload 5, 2, 0, 0), (.aload_n 0, 1, 0, 0)]) (pc' := 109) (ls' := #[.val (.ref a1), .val (.int p2), .val (.int qc), .val (.int qw), .val (.int qr), .val (.int (shf qw qr i)), .val (.int i)]) (st' := [(.ref a1), (.int (shf qw qr i))]) (by decide +kernel) rfl ?_
        refine X3.getf 112 (hw _ (List.mem_of_getElem? (i := 18) rfl)) IW3 (by decide +kernel) ?_
        intro Tf Xf
        refine Xf.blk hK (L := [(.iload 6, 2, 0, 0)]) (pc' := 114) (ls' := #[.val (.ref a1), .val (.int p2), .val (.int qc), .val (.int qw), .val (.int qr), .val (.int (shf qw qr i)), .val (.int i)]) (st' := [(.int i), (.ref aw), (.int (shf qw qr i))]) (by decide +kernel) rfl ?_
        refine Xf.iaload 115 AW3 (by decide +kernel) (own_nn hi.1) (gw) ?_
        refine Xf.blk hK (L := [(.iadd, 1, 0, 0), (.istore 5, 2, 0, 0), (.iinc 6 1, 3, 1, 0), (.goto (-75), 3, 0, 46)]) (pc' := 46) (ls' := #[.val (.ref a1), .val (.int p2), .val (.int qc), .val (.int qw), .val (.int qr), .val (.int ((shf qw qr i) + (wdf qw qr i))), .val (.int (i + (1 : Int32)))]) (st' := []) (by decide +kernel) rfl ?_
        have k1 : (1 : Int32).toInt = 1 := rfl
        have e1 : (i + 1).toInt = i.toInt + 1 := by have := c_iadd i 1; have := rng32 (i + 1); omega
        have n_1 := own_nat (j := i + 1) (by omega)
        rw [own_shS qw qr i (by omega) (by omega)]
        exact ih (i + 1) ash aw am _ _ _ _ _ Xf ⟨⟨IK3, IS3, IW3, IM3⟩, ⟨AS3, AW3, AM3⟩, ⟨by simpa using lS, by simpa using lW, by simpa using lM⟩, ⟨⟨u1, u2, u3⟩, ⟨v1, v2, v3⟩, ⟨x1, x2, x3⟩⟩, fun j hj => by
          have hj' : j < i.toNatClampNeg + 1 := by omega
          exact ⟨own_ext (n := 0) (f := fun j => .int (shf qw qr (Int32.ofNat j))) (by omega) (fun j h => (IJ j h).1) (by rw [own_ofNat hi.1]) j hj', own_ext (n := 0) (f := fun j => .long (mkf qw qr (Int32.ofNat j))) (by omega) (fun j h => (IJ j h).2) (by rw [own_ofNat hi.1]) j hj'⟩⟩ ⟨by omega, by omega⟩
      refine Xb.icmp .ge (9) 80 74 (by decide +kernel) (fun (c71 : ¬ i < qr) => ?_) (fun (c71 : i < qr) => ?_)
      · refine Xb.blk hK (L := [(.iload_n 3, 1, 0, 0)]) (pc' := 81) (ls' := #[.val (.ref a1), .val (.int p2), .val (.int qc), .val (.int qw), .val (.int qr), .val (.int (shf qw qr i)), .val (.int i)]) (st' := [(.int qw), (.int i), (.ref aw)]) (by decide +kernel) rfl ?_
        have J := J81
        unfold wdf at J
        rw [if_neg c71] at J
        exact J
      · refine Xb.blk hK (L := [(.iload_n 3, 1, 0, 0), (.iconst 1, 1, 1, 0), (.iadd, 1, 0, 0), (.goto 4, 3, 0, 81)]) (pc' := 81) (ls' := #[.val (.ref a1), .val (.int p2), .val (.int qc), .val (.int qw), .val (.int qr), .val (.int (shf qw qr i)), .val (.int i)]) (st' := [(.int (qw + (1 : Int32))), (.int i), (.ref aw)]) (by decide +kernel) rfl ?_
        have J := J81
        unfold wdf at J
        rw [if_pos c71] at J
        exact J
  have Iv : PInv Z h0 hp2 n0 a1 an0 an1 an2 qc qw qr 0 (List.replicate qc.toNatClampNeg (.int 0)) (List.replicate qc.toNatClampNeg (.int 0)) (List.replicate qc.toNatClampNeg (.long 0)) :=
    ⟨⟨K3, H2_0, H2_1, H2_2⟩, ⟨C2_0, C2_1, C2_2⟩, ⟨by simp, by simp, by simp⟩, ⟨⟨by omega, by rw [gn1]; exact K1.1, by rw [gn2]; exact K2.1⟩, ⟨by rw [gn1]; exact Nat.ne_of_lt C0_0.lt, by rw [gn2]; exact Nat.ne_of_lt C1_0.lt, by rw [gn2]; exact Nat.ne_of_lt C1_1.lt⟩, ⟨d0, d1, d2⟩⟩, fun j hj => absurd hj (by simp)⟩
  have J := J46 qc.toInt.toNat 0 an0 an1 an2 _ _ _ _ _ Xp2 Iv ⟨by decide, by show qc.toInt - (0 : Int) = _; omega⟩
  rw [own_sh0 qw qr (by omega)] at J
  exact J
set_option maxRecDepth 65536 in
set_option maxHeartbeats 40000000 in
theorem rm_ag (l : Launch) (Z : State) (a0 : Array Value) (hw : ∀ d ∈ tables_1, d.before a0 Z = true) (a1 am : Addr) (p2 : Int64) (p3 : Int32) (mk : Int64) (mv : List Value) (h0 : Heap) (n0 : Nat) (Z0 : n0 ≤ h0.size) (G : Fld Z h0 a1 "com/example/text_to_fingerprint/texttofingerprint/service/PigeonholeBlocks" "masks" "[J" (.ref am)) (AM : AV Z h0 am .long mv) (hj : ¬ p3 < 0) (vm : mv[p3.toNatClampNeg]? = some (.long mk)) :
    Cnt l Z (⟨"com/example/text_to_fingerprint/texttofingerprint/service/PigeonholeBlocks", "agreeOn", "(JI)Z"⟩ : MethodName) prog_28_method_6_code 4 (some .boolean) ({ frames := 0, cells := 0, slots := 0, locals := 0 } : Room) n0 #[(.ref a1), (.long p2), (.int p3)] h0 (fun v h => v = some (.int (if (p2 &&& mk) = 0 then 1 else 0)) ∧ h0 = h) := by
  refine Cnt.mk (by first | exact plainFor_of_name (by first | (simp [plainName, overriddenIn]; done) | decide +kernel) | decide +kernel) Z0 ?_
  intro p e s m below meth c T X
  refine Go.cast (g' := mkF m 0 #[.val (.ref a1), .val (.long p2), .second, .val (.int p3)] []) (by first | (simp [entryFrame, mkF, argsToLocals, Value.category, maxLocals]; done) | rfl) ?_
  have hK : (∀ q ∈ ([] : List (Nat × Int32)), (Jvm.Cond.constant "com/example/text_to_fingerprint/texttofingerprint/service/PigeonholeBlocks" q.1 q.2).before a0 Z = true) ∧ (∀ q ∈ ([(22, (-1 : Int64))] : List (Nat × Int64)), (Jvm.Cond.constantLong "com/example/text_to_fingerprint/texttofingerprint/service/PigeonholeBlocks" q.1 q.2).before a0 Z = true) :=
    ⟨(fun q hq => nomatch hq), (fun q hq => by
      rcases List.mem_cons.mp hq with rfl | hq
      · exact hw _ (List.mem_of_getElem? (i := 23) rfl)
      exact nomatch hq)⟩
  refine X.blk hK (L := [(.lload_n 1, 1, 0, 0), (.aload_n 0, 1, 0, 0)]) (pc' := 2) (ls' := #[.val (.ref a1), .val (.long p2), .second, .val (.int p3)]) (st' := [(.ref a1), (.long p2)]) (by decide +kernel) rfl ?_
  refine X.getf 5 (hw _ (List.mem_of_getElem? (i := 21) rfl)) G (by decide +kernel) ?_
  intro T1 X1
  refine X1.blk hK (L := [(.iload_n 3, 1, 0, 0)]) (pc' := 6) (ls' := #[.val (.ref a1), .val (.long p2), .second, .val (.int p3)]) (st' := [(.int p3), (.ref am), (.long p2)]) (by decide +kernel) rfl ?_
  refine X1.laload 7 AM (by decide +kernel) (hj) (vm) ?_
  refine X1.blk hK (L := [(.land, 1, 0, 0), (.lconst 0, 1, 0, 0)]) (pc' := 9) (ls' := #[.val (.ref a1), .val (.long p2), .second, .val (.int p3)]) (st' := [(.long (0 : Int64)), (.long (p2 &&& mk))]) (by decide +kernel) rfl ?_
  refine X1.lcmp .ne (7) 17 13 (by decide +kernel) (fun (c9 : ¬ (p2 &&& mk) = (0 : Int64)) => ?_) (fun (c9 : (p2 &&& mk) = (0 : Int64)) => ?_)
  · refine X1.blk hK (L := [(.iconst 0, 1, 0, 0)]) (pc' := 18) (ls' := #[.val (.ref a1), .val (.long p2), .second, .val (.int p3)]) (st' := [(.int (0 : Int32))]) (by decide +kernel) rfl ?_
    exact X1.retZ (by decide +kernel) (by decide) (by decide) (Or.inl rfl) (by refine ⟨?_, rfl⟩; simp [c9])
  · refine X1.blk hK (L := [(.iconst 1, 1, 1, 0), (.goto 4, 3, 0, 18)]) (pc' := 18) (ls' := #[.val (.ref a1), .val (.long p2), .second, .val (.int p3)]) (st' := [(.int (1 : Int32))]) (by decide +kernel) rfl ?_
    exact X1.retZ (by decide +kernel) (by decide) (by decide) (Or.inr rfl) (by refine ⟨?_, rfl⟩; simp [c9])
set_option maxRecDepth 65536 in
set_option maxHeartbeats 40000000 in
theorem rm_law (l : Launch) (Z : State) (a0 : Array Value) (hw : ∀ d ∈ tables_1, d.before a0 Z = true) (p1 p2 : Int32) (p3 : Int64) (p4 p5 : Int32) (h0 : Heap) (n0 : Nat) (Z0 : n0 ≤ h0.size)  :
    Cnt l Z x code maxLocals ret room_1 n0 #[(.int p1), (.int p2), (.long p3), (.int p4), (.int p5)] h0 (fun v h => v = some (.int 1)) := by
  refine Cnt.mk (by first | exact plainFor_of_name (by first | (simp [plainName, overriddenIn]; done) | decide +kernel) | decide +kernel) Z0 ?_
  intro p e s m below meth c T X
  refine Go.cast (g' := mkF m 0 #[.val (.int p1), .val (.int p2), .val (.long p3), .second, .val (.int p4), .val (.int p5), .unset, .unset, .unset, .unset, .unset, .unset, .unset, .unset, .unset, .unset, .unset, .unset, .unset, .unset, .unset, .unset] []) (by first | (simp [entryFrame, mkF, argsToLocals, Value.category, maxLocals]; done) | rfl) ?_
  have hK : (∀ q ∈ ([(7, (2147483647 : Int32))] : List (Nat × Int32)), (Jvm.Cond.constant "com/example/text_to_fingerprint/texttofingerprint/service/PigeonholeBlocksAgreeOnPinLaw" q.1 q.2).before a0 Z = true) ∧ (∀ q ∈ ([(14, (-1 : Int64))] : List (Nat × Int64)), (Jvm.Cond.constantLong "com/example/text_to_fingerprint/texttofingerprint/service/PigeonholeBlocksAgreeOnPinLaw" q.1 q.2).before a0 Z = true) :=
    ⟨(fun q hq => by
      rcases List.mem_cons.mp hq with rfl | hq
      · exact hw _ (List.mem_of_getElem? (i := 0) rfl)
      exact nomatch hq), (fun q hq => by
      rcases List.mem_cons.mp hq with rfl | hq
      · exact hw _ (List.mem_of_getElem? (i := 5) rfl)
      exact nomatch hq)⟩
  refine X.blk hK (L := [(.iload_n 0, 1, 0, 0), (.ldc 7, 2, 0, 0), (.iand, 1, 0, 0), (.bipush 64, 2, 64, 0)]) (pc' := 6) (ls' := #[.val (.int p1), .val (.int p2), .val (.long p3), .second, .val (.int p4), .val (.int p5), .unset, .unset, .unset, .unset, .unset, .unset, .unset, .unset, .unset, .unset, .unset, .unset, .unset, .unset, .unset, .unset]) (st' := [(.int (64 : Int32)), (.int (p1 &&& (2147483647 : Int32)))]) (by decide +kernel) rfl ?_
  refine X.irem 7 (by decide +kernel) (by decide) ?_
  generalize h_qd : (p1 &&& (2147483647 : Int32)) % (64 : Int32) = qd
  have r_d : 0 ≤ qd.toInt ∧ qd.toInt < 64 := h_qd ▸ own_rem p1 64 64 rfl (by decide)
  refine X.blk hK (L := [(.istore 6, 2, 0, 0), (.iload 6, 2, 0, 0), (.iconst 1, 1, 1, 0), (.iadd, 1, 0, 0), (.istore 7, 2, 0, 0), (.iload_n 1, 1, 0, 0), (.ldc 7, 2, 0, 0), (.iand, 1, 0, 0), (.iload 7, 2, 0, 0)]) (pc' := 21) (ls' := #[.val (.int p1), .val (.int p2), .val (.long p3), .second, .val (.int p4), .val (.int p5), .val (.int qd), .val (.int (qd + (1 : Int32))), .unset, .unset, .unset, .unset, .unset, .unset, .unset, .unset, .unset, .unset, .unset, .unset, .unset, .unset]) (st' := [(.int (qd + (1 : Int32))), (.int (p2 &&& (2147483647 : Int32)))]) (by decide +kernel) rfl ?_
  generalize h_qc : qd + (1 : Int32) = qc
  have r_c : 1 ≤ qc.toInt ∧ qc.toInt ≤ 64 := by
    rw [← h_qc]; have := c_iadd qd 1; have := rng32 (qd + 1); have k : (1 : Int32).toInt = 1 := rfl; omega
  have nz : qc ≠ 0 := by rintro rfl; have : (0 : Int32).toInt = 0 := rfl; omega
  refine X.irem 22 (by decide +kernel) (nz) ?_
  generalize h_qb : (p2 &&& (2147483647 : Int32)) % qc = qb
  have r_b : 0 ≤ qb.toInt ∧ qb.toInt < qc.toInt := h_qb ▸ own_rem p2 qc qc.toInt rfl (by omega)
  refine X.blk hK (L := [(.istore 8, 2, 0, 0), (.bipush 64, 2, 64, 0), (.iload 7, 2, 0, 0)]) (pc' := 28) (ls' := #[.val (.int p1), .val (.int p2), .val (.long p3), .second, .val (.int p4), .val (.int p5), .val (.int qd), .val (.int qc), .val (.int qb), .unset, .unset, .unset, .unset, .unset, .unset, .unset, .unset, .unset, .unset, .unset, .unset, .unset]) (st' := [(.int qc), (.int (64 : Int32))]) (by decide +kernel) rfl ?_
  refine X.idiv 29 (by decide +kernel) (nz) ?_
  refine X.blk hK (L := [(.istore 9, 2, 0, 0), (.bipush 64, 2, 64, 0), (.iload 7, 2, 0, 0)]) (pc' := 35) (ls' := #[.val (.int p1), .val (.int p2), .val (.long p3), .second, .val (.int p4), .val (.int p5), .val (.int qd), .val (.int qc), .val (.int qb), .val (.int ((64 : Int32) / qc)), .unset, .unset, .unset, .unset, .unset, .unset, .unset, .unset, .unset, .unset, .unset, .unset]) (st' := [(.int qc), (.int (64 : Int32))]) (by decide +kernel) rfl ?_
  refine X.irem 36 (by decide +kernel) (nz) ?_
  refine X.blk hK (L := [(.istore 10, 2, 0, 0), (.iload 8, 2, 0, 0), (.iload 10, 2, 0, 0)]) (pc' := 42) (ls' := #[.val (.int p1), .val (.int p2), .val (.long p3), .second, .val (.int p4), .val (.int p5), .val (.int qd), .val (.int qc), .val (.int qb), .val (.int ((64 : Int32) / qc)), .val (.int ((64 : Int32) % qc)), .unset, .unset, .unset, .unset, .unset, .unset, .unset, .unset, .unset, .unset, .unset]) (st' := [(.int ((64 : Int32) % qc)), (.int qb)]) (by decide +kernel) rfl ?_
  obtain ⟨nw, ns, hw1, hs1, hb1, hb2⟩ := own_rngs qc qb r_c r_b
  have J147 : ∀ (T1 : State), Wk Z l p e room_1 s m #[(.int p1), (.int p2), (.long p3), (.int p4), (.int p5)] below meth c "com/example/text_to_fingerprint/texttofingerprint/service/PigeonholeBlocksAgreeOnPinLaw" "law" code maxLocals ret n0 T1 h0 0 0 → ∀ (d : Int64), Go p e below s room_1 n0 (fun v h => v = some (.int 1)) (T1.setTop (mkF m 147 #[.val (.int p1), .val (.int p2), .val (.long p3), .second, .val (.int p4), .val (.int p5), .val (.int qd), .val (.int qc), .val (.int qb), .val (.int ((64 : Int32) / qc)), .val (.int ((64 : Int32) % qc)), .val (.int (wdf (64 / qc) (64 % qc) qb)), .val (.int (shf (64 / qc) (64 % qc) qb)), .val (.long (lowf (wdf (64 / qc) (64 % qc) qb))), .second, .val (.long ((lowf (wdf (64 / qc) (64 % qc) qb)) <<< ((shf (64 / qc) (64 % qc) qb).toInt64 &&& 63))), .second, .val (.int ((p4 &&& (2147483647 : Int32)) % (3 : Int32))), .val (.long d), .second, .unset, .unset] [])) := by
    intro T1 X1 d
    refine X1.blk hK (L := [(.lload 18, 2, 0, 0), (.iload 12, 2, 0, 0), (.lushr, 1, 0, 0), (.lload 13, 2, 0, 0), (.land, 1, 0, 0), (.lconst 0, 1, 0, 0)]) (pc' := 156) (ls' := #[.val (.int p1), .val (.int p2), .val (.long p3), .second, .val (.int p4), .val (.int p5), .val (.int qd), .val (.int qc), .val (.int qb), .val (.int ((64 : Int32) / qc)), .val (.int ((64 : Int32) % qc)), .val (.int (wdf (64 / qc) (64 % qc) qb)), .val (.int (shf (64 / qc) (64 % qc) qb)), .val (.long (lowf (wdf (64 / qc) (64 % qc) qb))), .second, .val (.long ((lowf (wdf (64 / qc) (64 % qc) qb)) <<< ((shf (64 / qc) (64 % qc) qb).toInt64 &&& 63))), .second, .val (.int ((p4 &&& (2147483647 : Int32)) % (3 : Int32))), .val (.long d), .second, .unset, .unset]) (st' := [(.long (0 : Int64)), (.long ((XT.ushrL d (shf (64 / qc) (64 % qc) qb)) &&& (lowf (wdf (64 / qc) (64 % qc) qb))))]) (by decide +kernel) rfl ?_
    refine X1.lcmp .ne (7) 164 160 (by decide +kernel) (fun (c156 : ¬ ((XT.ushrL d (shf (64 / qc) (64 % qc) qb)) &&& (lowf (wdf (64 / qc) (64 % qc) qb))) = (0 : Int64)) => ?_) (fun (c156 : ((XT.ushrL d (shf (64 / qc) (64 % qc) qb)) &&& (lowf (wdf (64 / qc) (64 % qc) qb))) = (0 : Int64)) => ?_)
    · refine X1.blk hK (L := [(.iconst 0, 1, 0, 0), (.istore 20, 2, 0, 0)]) (pc' := 167) (ls' := #[.val (.int p1), .val (.int p2), .val (.long p3), .second, .val (.int p4), .val (.int p5), .val (.int qd), .val (.int qc), .val (.int qb), .val (.int ((64 : Int32) / qc)), .val (.int ((64 : Int32) % qc)), .val (.int (wdf (64 / qc) (64 % qc) qb)), .val (.int (shf (64 / qc) (64 % qc) qb)), .val (.long (lowf (wdf (64 / qc) (64 % qc) qb))), .second, .val (.long ((lowf (wdf (64 / qc) (64 % qc) qb)) <<< ((shf (64 / qc) (64 % qc) qb).toInt64 &&& 63))), .second, .val (.int ((p4 &&& (2147483647 : Int32)) % (3 : Int32))), .val (.long d), .second, .val (.int (0 : Int32)), .unset]) (st' := []) (by decide +kernel) rfl ?_
      refine X1.newobj 170 (hw _ (List.mem_of_getElem? (i := 6) rfl)) (hw _ (List.mem_of_getElem? (i := 7) rfl)) (hw _ (List.mem_of_getElem? (i := 8) rfl)) (by decide +kernel) (by decide) ?_
      intro Tn hn Xn En Bn Dn
      obtain ⟨an, gn⟩ : ∃ z, z = h0.size := ⟨_, rfl⟩
      rw [← gn] at Bn ⊢
      simp only [← gn] at Dn
      refine Xn.blk hK (L := [(.dup, 1, 0, 0), (.iload 6, 2, 0, 0)]) (pc' := 173) (ls' := #[.val (.int p1), .val (.int p2), .val (.long p3), .second, .val (.int p4), .val (.int p5), .val (.int qd), .val (.int qc), .val (.int qb), .val (.int ((64 : Int32) / qc)), .val (.int ((64 : Int32) % qc)), .val (.int (wdf (64 / qc) (64 % qc) qb)), .val (.int (shf (64 / qc) (64 % qc) qb)), .val (.long (lowf (wdf (64 / qc) (64 % qc) qb))), .second, .val (.long ((lowf (wdf (64 / qc) (64 % qc) qb)) <<< ((shf (64 / qc) (64 % qc) qb).toInt64 &&& 63))), .second, .val (.int ((p4 &&& (2147483647 : Int32)) % (3 : Int32))), .val (.long d), .second, .val (.int (0 : Int32)), .unset]) (st' := [(.int qd), (.ref an), (.ref an)]) (by decide +kernel) rfl ?_
      refine Xn.callI 176 1 (argsL := [(.int qd)]) (rest := [(.ref an)]) (rm_init l Z a0 hw an qd qc hn n0 Xn.size h_qc.symm r_c (Dn (Or.inr (hw _ (List.mem_of_getElem? (i := 17) rfl))) (ty := .array .int) (by decide)) (Dn (Or.inr (hw _ (List.mem_of_getElem? (i := 19) rfl))) (ty := .array .int) (by decide)) (Dn (Or.inr (hw _ (List.mem_of_getElem? (i := 22) rfl))) (ty := .array .long) (by decide)) Bn (by rw [gn]; exact X1.size)) rfl (hw _ (List.mem_of_getElem? (i := 9) rfl)) (hw _ (List.mem_of_getElem? (i := 10) rfl)) (hw _ (List.mem_of_getElem? (i := 8) rfl)) (hw _ (List.mem_of_getElem? (i := 11) rfl)) (by decide) (ps := [.int]) (r := none) (by decide +kernel) rfl rfl rfl rfl (by decide +kernel) (by decide) ?_
      rintro Ti hi vi Xi ⟨rfl, Ki, ash, am, sv, mv, FS, FM, AS, AM, HJ⟩
      show Go p e below s _ n0 _ (Ti.setTop (mkF m 176 #[.val (.int p1), .val (.int p2), .val (.long p3), .second, .val (.int p4), .val (.int p5), .val (.int qd), .val (.int qc), .val (.int qb), .val (.int ((64 : Int32) / qc)), .val (.int ((64 : Int32) % qc)), .val (.int (wdf (64 / qc) (64 % qc) qb)), .val (.int (shf (64 / qc) (64 % qc) qb)), .val (.long (lowf (wdf (64 / qc) (64 % qc) qb))), .second, .val (.long ((lowf (wdf (64 / qc) (64 % qc) qb)) <<< ((shf (64 / qc) (64 % qc) qb).toInt64 &&& 63))), .second, .val (.int ((p4 &&& (2147483647 : Int32)) % (3 : Int32))), .val (.long d), .second, .val (.int (0 : Int32)), .unset] [(.ref an)]))
      refine Xi.blk hK (L := [(.astore 21, 2, 0, 0), (.aload 21, 2, 0, 0), (.lload 18, 2, 0, 0), (.iload 8, 2, 0, 0)]) (pc' := 184) (ls' := #[.val (.int p1), .val (.int p2), .val (.long p3), .second, .val (.int p4), .val (.int p5), .val (.int qd), .val (.int qc), .val (.int qb), .val (.int ((64 : Int32) / qc)), .val (.int ((64 : Int32) % qc)), .val (.int (wdf (64 / qc) (64 % qc) qb)), .val (.int (shf (64 / qc) (64 % qc) qb)), .val (.long (lowf (wdf (64 / qc) (64 % qc) qb))), .second, .val (.long ((lowf (wdf (64 / qc) (64 % qc) qb)) <<< ((shf (64 / qc) (64 % qc) qb).toInt64 &&& 63))), .second, .val (.int ((p4 &&& (2147483647 : Int32)) % (3 : Int32))), .val (.long d), .second, .val (.int (0 : Int32)), .val (.ref an)]) (st' := [(.int qb), (.long d), (.ref an)]) (by decide +kernel) rfl ?_
      obtain ⟨j1, j2⟩ := HJ qb r_b.1 r_b.2
      refine Xi.callV 187 0 (argsL := [(.long d), (.int qb)]) (rest := []) (Bn.keep Ki) (rm_ag l Z a0 hw an am d qb _ mv hi n0 Xi.size FM AM (own_nn r_b.1) j2) (hw _ (List.mem_of_getElem? (i := 24) rfl)) (hw _ (List.mem_of_getElem? (i := 25) rfl)) (hw _ (List.mem_of_getElem? (i := 27) rfl)) (hw _ (List.mem_of_getElem? (i := 26) rfl)) (hw _ (List.mem_of_getElem? (i := 8) rfl)) (hw _ (List.mem_of_getElem? (i := 28) rfl)) (by decide) (ps := [.long, .int]) (r := some .boolean) (by decide +kernel) rfl rfl rfl rfl (by decide +kernel) (by decide) ?_
      rintro Tk hk vk Xk ⟨rfl, rfl⟩
      show Go p e below s _ n0 _ (Tk.setTop (mkF m 187 #[.val (.int p1), .val (.int p2), .val (.long p3), .second, .val (.int p4), .val (.int p5), .val (.int qd), .val (.int qc), .val (.int qb), .val (.int ((64 : Int32) / qc)), .val (.int ((64 : Int32) % qc)), .val (.int (wdf (64 / qc) (64 % qc) qb)), .val (.int (shf (64 / qc) (64 % qc) qb)), .val (.long (lowf (wdf (64 / qc) (64 % qc) qb))), .second, .val (.long ((lowf (wdf (64 / qc) (64 % qc) qb)) <<< ((shf (64 / qc) (64 % qc) qb).toInt64 &&& 63))), .second, .val (.int ((p4 &&& (2147483647 : Int32)) % (3 : Int32))), .val (.long d), .second, .val (.int (0 : Int32)), .val (.ref an)] [(.int (if (d &&& mkf (64 / qc) (64 % qc) qb) = 0 then (1 : Int32) else 0))]))
      refine Xk.blk hK (L := [(.iload 20, 2, 0, 0)]) (pc' := 189) (ls' := #[.val (.int p1), .val (.int p2), .val (.long p3), .second, .val (.int p4), .val (.int p5), .val (.int qd), .val (.int qc), .val (.int qb), .val (.int ((64 : Int32) / qc)), .val (.int ((64 : Int32) % qc)), .val (.int (wdf (64 / qc) (64 % qc) qb)), .val (.int (shf (64 / qc) (64 % qc) qb)), .val (.long (lowf (wdf (64 / qc) (64 % qc) qb))), .second, .val (.long ((lowf (wdf (64 / qc) (64 % qc) qb)) <<< ((shf (64 / qc) (64 % qc) qb).toInt64 &&& 63))), .second, .val (.int ((p4 &&& (2147483647 : Int32)) % (3 : Int32))), .val (.long d), .second, .val (.int (0 : Int32)), .val (.ref an)]) (st' := [(.int (0 : Int32)), (.int (if (d &&& mkf (64 / qc) (64 % qc) qb) = 0 then (1 : Int32) else 0))]) (by decide +kernel) rfl ?_
      refine Xk.icmp .ne (7) 196 192 (by decide +kernel) (fun (c189 : ¬ (if (d &&& mkf (64 / qc) (64 % qc) qb) = 0 then (1 : Int32) else 0) = (0 : Int32)) => absurd (by simp [own_agree d _ _ _ hw1 hs1 ⟨hb1, hb2⟩, c156] : (if (d &&& mkf (64 / qc) (64 % qc) qb) = 0 then (1 : Int32) else 0) = (0 : Int32)) c189) (fun (c189 : (if (d &&& mkf (64 / qc) (64 % qc) qb) = 0 then (1 : Int32) else 0) = (0 : Int32)) => ?_)
      refine Xk.blk hK (L := [(.iconst 1, 1, 1, 0), (.goto 4, 3, 0, 197)]) (pc' := 197) (ls' := #[.val (.int p1), .val (.int p2), .val (.long p3), .second, .val (.int p4), .val (.int p5), .val (.int qd), .val (.int qc), .val (.int qb), .val (.int ((64 : Int32) / qc)), .val (.int ((64 : Int32) % qc)), .val (.int (wdf (64 / qc) (64 % qc) qb)), .val (.int (shf (64 / qc) (64 % qc) qb)), .val (.long (lowf (wdf (64 / qc) (64 % qc) qb))), .second, .val (.long ((lowf (wdf (64 / qc) (64 % qc) qb)) <<< ((shf (64 / qc) (64 % qc) qb).toInt64 &&& 63))), .second, .val (.int ((p4 &&& (2147483647 : Int32)) % (3 : Int32))), .val (.long d), .second, .val (.int (0 : Int32)), .val (.ref an)]) (st' := [(.int (1 : Int32))]) (by decide +kernel) rfl ?_
      exact Xk.retZ (by decide +kernel) (by decide) (by decide) (Or.inr rfl) (rfl)
    · refine X1.blk hK (L := [(.iconst 1, 1, 1, 0), (.goto 4, 3, 0, 165), (.istore 20, 2, 0, 0)]) (pc' := 167) (ls' := #[.val (.int p1), .val (.int p2), .val (.long p3), .second, .val (.int p4), .val (.int p5), .val (.int qd), .val (.int qc), .val (.int qb), .val (.int ((64 : Int32) / qc)), .val (.int ((64 : Int32) % qc)), .val (.int (wdf (64 / qc) (64 % qc) qb)), .val (.int (shf (64 / qc) (64 % qc) qb)), .val (.long (lowf (wdf (64 / qc) (64 % qc) qb))), .second, .val (.long ((lowf (wdf (64 / qc) (64 % qc) qb)) <<< ((shf (64 / qc) (64 % qc) qb).toInt64 &&& 63))), .second, .val (.int ((p4 &&& (2147483647 : Int32)) % (3 : Int32))), .val (.long d), .second, .val (.int (1 : Int32)), .unset]) (st' := []) (by decide +kernel) rfl ?_
      refine X1.newobj 170 (hw _ (List.mem_of_getElem? (i := 6) rfl)) (hw _ (List.mem_of_getElem? (i := 7) rfl)) (hw _ (List.mem_of_getElem? (i := 8) rfl)) (by decide +kernel) (by decide) ?_
      intro Tn hn Xn En Bn Dn
      obtain ⟨an, gn⟩ : ∃ z, z = h0.size := ⟨_, rfl⟩
      rw [← gn] at Bn ⊢
      simp only [← gn] at Dn
      refine Xn.blk hK (L := [(.dup, 1, 0, 0), (.iload 6, 2, 0, 0)]) (pc' := 173) (ls' := #[.val (.int p1), .val (.int p2), .val (.long p3), .second, .val (.int p4), .val (.int p5), .val (.int qd), .val (.int qc), .val (.int qb), .val (.int ((64 : Int32) / qc)), .val (.int ((64 : Int32) % qc)), .val (.int (wdf (64 / qc) (64 % qc) qb)), .val (.int (shf (64 / qc) (64 % qc) qb)), .val (.long (lowf (wdf (64 / qc) (64 % qc) qb))), .second, .val (.long ((lowf (wdf (64 / qc) (64 % qc) qb)) <<< ((shf (64 / qc) (64 % qc) qb).toInt64 &&& 63))), .second, .val (.int ((p4 &&& (2147483647 : Int32)) % (3 : Int32))), .val (.long d), .second, .val (.int (1 : Int32)), .unset]) (st' := [(.int qd), (.ref an), (.ref an)]) (by decide +kernel) rfl ?_
      refine Xn.callI 176 1 (argsL := [(.int qd)]) (rest := [(.ref an)]) (rm_init l Z a0 hw an qd qc hn n0 Xn.size h_qc.symm r_c (Dn (Or.inr (hw _ (List.mem_of_getElem? (i := 17) rfl))) (ty := .array .int) (by decide)) (Dn (Or.inr (hw _ (List.mem_of_getElem? (i := 19) rfl))) (ty := .array .int) (by decide)) (Dn (Or.inr (hw _ (List.mem_of_getElem? (i := 22) rfl))) (ty := .array .long) (by decide)) Bn (by rw [gn]; exact X1.size)) rfl (hw _ (List.mem_of_getElem? (i := 9) rfl)) (hw _ (List.mem_of_getElem? (i := 10) rfl)) (hw _ (List.mem_of_getElem? (i := 8) rfl)) (hw _ (List.mem_of_getElem? (i := 11) rfl)) (by decide) (ps := [.int]) (r := none) (by decide +kernel) rfl rfl rfl rfl (by decide +kernel) (by decide) ?_
      rintro Ti hi vi Xi ⟨rfl, Ki, ash, am, sv, mv, FS, FM, AS, AM, HJ⟩
      show Go p e below s _ n0 _ (Ti.setTop (mkF m 176 #[.val (.int p1), .val (.int p2), .val (.long p3), .second, .val (.int p4), .val (.int p5), .val (.int qd), .val (.int qc), .val (.int qb), .val (.int ((64 : Int32) / qc)), .val (.int ((64 : Int32) % qc)), .val (.int (wdf (64 / qc) (64 % qc) qb)), .val (.int (shf (64 / qc) (64 % qc) qb)), .val (.long (lowf (wdf (64 / qc) (64 % qc) qb))), .second, .val (.long ((lowf (wdf (64 / qc) (64 % qc) qb)) <<< ((shf (64 / qc) (64 % qc) qb).toInt64 &&& 63))), .second, .val (.int ((p4 &&& (2147483647 : Int32)) % (3 : Int32))), .val (.long d), .second, .val (.int (1 : Int32)), .unset] [(.ref an)]))
      refine Xi.blk hK (L := [(.astore 21, 2, 0, 0), (.aload 21, 2, 0, 0), (.lload 18, 2, 0, 0), (.iload 8, 2, 0, 0)]) (pc' := 184) (ls' := #[.val (.int p1), .val (.int p2), .val (.long p3), .second, .val (.int p4), .val (.int p5), .val (.int qd), .val (.int qc), .val (.int qb), .val (.int ((64 : Int32) / qc)), .val (.int ((64 : Int32) % qc)), .val (.int (wdf (64 / qc) (64 % qc) qb)), .val (.int (shf (64 / qc) (64 % qc) qb)), .val (.long (lowf (wdf (64 / qc) (64 % qc) qb))), .second, .val (.long ((lowf (wdf (64 / qc) (64 % qc) qb)) <<< ((shf (64 / qc) (64 % qc) qb).toInt64 &&& 63))), .second, .val (.int ((p4 &&& (2147483647 : Int32)) % (3 : Int32))), .val (.long d), .second, .val (.int (1 : Int32)), .val (.ref an)]) (st' := [(.int qb), (.long d), (.ref an)]) (by decide +kernel) rfl ?_
      obtain ⟨j1, j2⟩ := HJ qb r_b.1 r_b.2
      refine Xi.callV 187 0 (argsL := [(.long d), (.int qb)]) (rest := []) (Bn.keep Ki) (rm_ag l Z a0 hw an am d qb _ mv hi n0 Xi.size FM AM (own_nn r_b.1) j2) (hw _ (List.mem_of_getElem? (i := 24) rfl)) (hw _ (List.mem_of_getElem? (i := 25) rfl)) (hw _ (List.mem_of_getElem? (i := 27) rfl)) (hw _ (List.mem_of_getElem? (i := 26) rfl)) (hw _ (List.mem_of_getElem? (i := 8) rfl)) (hw _ (List.mem_of_getElem? (i := 28) rfl)) (by decide) (ps := [.long, .int]) (r := some .boolean) (by decide +kernel) rfl rfl rfl rfl (by decide +kernel) (by decide) ?_
      rintro Tk hk vk Xk ⟨rfl, rfl⟩
      show Go p e below s _ n0 _ (Tk.setTop (mkF m 187 #[.val (.int p1), .val (.int p2), .val (.long p3), .second, .val (.int p4), .val (.int p5), .val (.int qd), .val (.int qc), .val (.int qb), .val (.int ((64 : Int32) / qc)), .val (.int ((64 : Int32) % qc)), .val (.int (wdf (64 / qc) (64 % qc) qb)), .val (.int (shf (64 / qc) (64 % qc) qb)), .val (.long (lowf (wdf (64 / qc) (64 % qc) qb))), .second, .val (.long ((lowf (wdf (64 / qc) (64 % qc) qb)) <<< ((shf (64 / qc) (64 % qc) qb).toInt64 &&& 63))), .second, .val (.int ((p4 &&& (2147483647 : Int32)) % (3 : Int32))), .val (.long d), .second, .val (.int (1 : Int32)), .val (.ref an)] [(.int (if (d &&& mkf (64 / qc) (64 % qc) qb) = 0 then (1 : Int32) else 0))]))
      refine Xk.blk hK (L := [(.iload 20, 2, 0, 0)]) (pc' := 189) (ls' := #[.val (.int p1), .val (.int p2), .val (.long p3), .second, .val (.int p4), .val (.int p5), .val (.int qd), .val (.int qc), .val (.int qb), .val (.int ((64 : Int32) / qc)), .val (.int ((64 : Int32) % qc)), .val (.int (wdf (64 / qc) (64 % qc) qb)), .val (.int (shf (64 / qc) (64 % qc) qb)), .val (.long (lowf (wdf (64 / qc) (64 % qc) qb))), .second, .val (.long ((lowf (wdf (64 / qc) (64 % qc) qb)) <<< ((shf (64 / qc) (64 % qc) qb).toInt64 &&& 63))), .second, .val (.int ((p4 &&& (2147483647 : Int32)) % (3 : Int32))), .val (.long d), .second, .val (.int (1 : Int32)), .val (.ref an)]) (st' := [(.int (1 : Int32)), (.int (if (d &&& mkf (64 / qc) (64 % qc) qb) = 0 then (1 : Int32) else 0))]) (by decide +kernel) rfl ?_
      refine Xk.icmp .ne (7) 196 192 (by decide +kernel) (fun (c189 : ¬ (if (d &&& mkf (64 / qc) (64 % qc) qb) = 0 then (1 : Int32) else 0) = (1 : Int32)) => absurd (by simp [own_agree d _ _ _ hw1 hs1 ⟨hb1, hb2⟩, c156] : (if (d &&& mkf (64 / qc) (64 % qc) qb) = 0 then (1 : Int32) else 0) = (1 : Int32)) c189) (fun (c189 : (if (d &&& mkf (64 / qc) (64 % qc) qb) = 0 then (1 : Int32) else 0) = (1 : Int32)) => ?_)
      refine Xk.blk hK (L := [(.iconst 1, 1, 1, 0), (.goto 4, 3, 0, 197)]) (pc' := 197) (ls' := #[.val (.int p1), .val (.int p2), .val (.long p3), .second, .val (.int p4), .val (.int p5), .val (.int qd), .val (.int qc), .val (.int qb), .val (.int ((64 : Int32) / qc)), .val (.int ((64 : Int32) % qc)), .val (.int (wdf (64 / qc) (64 % qc) qb)), .val (.int (shf (64 / qc) (64 % qc) qb)), .val (.long (lowf (wdf (64 / qc) (64 % qc) qb))), .second, .val (.long ((lowf (wdf (64 / qc) (64 % qc) qb)) <<< ((shf (64 / qc) (64 % qc) qb).toInt64 &&& 63))), .second, .val (.int ((p4 &&& (2147483647 : Int32)) % (3 : Int32))), .val (.long d), .second, .val (.int (1 : Int32)), .val (.ref an)]) (st' := [(.int (1 : Int32))]) (by decide +kernel) rfl ?_
      exact Xk.retZ (by decide +kernel) (by decide) (by decide) (Or.inr rfl) (rfl)
  have J90 : ∀ (T1 : State), Wk Z l p e room_1 s m #[(.int p1), (.int p2), (.long p3), (.int p4), (.int p5)] below meth c "com/example/text_to_fingerprint/texttofingerprint/service/PigeonholeBlocksAgreeOnPinLaw" "law" code maxLocals ret n0 T1 h0 0 0 →  Go p e below s room_1 n0 (fun v h => v = some (.int 1)) (T1.setTop (mkF m 90 #[.val (.int p1), .val (.int p2), .val (.long p3), .second, .val (.int p4), .val (.int p5), .val (.int qd), .val (.int qc), .val (.int qb), .val (.int ((64 : Int32) / qc)), .val (.int ((64 : Int32) % qc)), .val (.int (wdf (64 / qc) (64 % qc) qb)), .val (.int (shf (64 / qc) (64 % qc) qb)), .unset, .unset, .unset, .unset, .unset, .unset, .unset, .unset, .unset] [(.long (lowf (wdf (64 / qc) (64 % qc) qb)))])) := by
    intro T1 X1 
    refine X1.blk hK (L := [(.lstore 13, 2, 0, 0), (.lload 13, 2, 0, 0), (.iload 12, 2, 0, 0), (.lshl, 1, 0, 0), (.lstore 15, 2, 0, 0), (.iload 4, 2, 0, 0), (.ldc 7, 2, 0, 0), (.iand, 1, 0, 0), (.iconst 3, 1, 3, 0)]) (pc' := 105) (ls' := #[.val (.int p1), .val (.int p2), .val (.long p3), .second, .val (.int p4), .val (.int p5), .val (.int qd), .val (.int qc), .val (.int qb), .val (.int ((64 : Int32) / qc)), .val (.int ((64 : Int32) % qc)), .val (.int (wdf (64 / qc) (64 % qc) qb)), .val (.int (shf (64 / qc) (64 % qc) qb)), .val (.long (lowf (wdf (64 / qc) (64 % qc) qb))), .second, .val (.long ((lowf (wdf (64 / qc) (64 % qc) qb)) <<< ((shf (64 / qc) (64 % qc) qb).toInt64 &&& 63))), .second, .unset, .unset, .unset, .unset, .unset]) (st' := [(.int (3 : Int32)), (.int (p4 &&& (2147483647 : Int32)))]) (by decide +kernel) rfl ?_
    refine X1.irem 106 (by decide +kernel) (by decide) ?_
    refine X1.blk hK (L := [(.istore 17, 2, 0, 0), (.iload 17, 2, 0, 0)]) (pc' := 110) (ls' := #[.val (.int p1), .val (.int p2), .val (.long p3), .second, .val (.int p4), .val (.int p5), .val (.int qd), .val (.int qc), .val (.int qb), .val (.int ((64 : Int32) / qc)), .val (.int ((64 : Int32) % qc)), .val (.int (wdf (64 / qc) (64 % qc) qb)), .val (.int (shf (64 / qc) (64 % qc) qb)), .val (.long (lowf (wdf (64 / qc) (64 % qc) qb))), .second, .val (.long ((lowf (wdf (64 / qc) (64 % qc) qb)) <<< ((shf (64 / qc) (64 % qc) qb).toInt64 &&& 63))), .second, .val (.int ((p4 &&& (2147483647 : Int32)) % (3 : Int32))), .unset, .unset, .unset, .unset]) (st' := [(.int ((p4 &&& (2147483647 : Int32)) % (3 : Int32)))]) (by decide +kernel) rfl ?_
    refine X1.ifc .ne (9) 119 113 (by decide +kernel) (fun (c110 : ¬ ((p4 &&& (2147483647 : Int32)) % (3 : Int32)) = (0 : Int32)) => ?_) (fun (c110 : ((p4 &&& (2147483647 : Int32)) % (3 : Int32)) = (0 : Int32)) => ?_)
    · refine X1.blk hK (L := [(.iload 17, 2, 0, 0), (.iconst 1, 1, 1, 0)]) (pc' := 122) (ls' := #[.val (.int p1), .val (.int p2), .val (.long p3), .second, .val (.int p4), .val (.int p5), .val (.int qd), .val (.int qc), .val (.int qb), .val (.int ((64 : Int32) / qc)), .val (.int ((64 : Int32) % qc)), .val (.int (wdf (64 / qc) (64 % qc) qb)), .val (.int (shf (64 / qc) (64 % qc) qb)), .val (.long (lowf (wdf (64 / qc) (64 % qc) qb))), .second, .val (.long ((lowf (wdf (64 / qc) (64 % qc) qb)) <<< ((shf (64 / qc) (64 % qc) qb).toInt64 &&& 63))), .second, .val (.int ((p4 &&& (2147483647 : Int32)) % (3 : Int32))), .unset, .unset, .unset, .unset]) (st' := [(.int (1 : Int32)), (.int ((p4 &&& (2147483647 : Int32)) % (3 : Int32)))]) (by decide +kernel) rfl ?_
      refine X1.icmp .ne (16) 138 125 (by decide +kernel) (fun (c122 : ¬ ((p4 &&& (2147483647 : Int32)) % (3 : Int32)) = (1 : Int32)) => ?_) (fun (c122 : ((p4 &&& (2147483647 : Int32)) % (3 : Int32)) = (1 : Int32)) => ?_)
      · refine X1.blk hK (L := [(.lconst 1, 1, 0, 0), (.iload 5, 2, 0, 0), (.bipush 63, 2, 63, 0), (.iand, 1, 0, 0), (.lshl, 1, 0, 0), (.lstore 18, 2, 0, 0)]) (pc' := 147) (ls' := #[.val (.int p1), .val (.int p2), .val (.long p3), .second, .val (.int p4), .val (.int p5), .val (.int qd), .val (.int qc), .val (.int qb), .val (.int ((64 : Int32) / qc)), .val (.int ((64 : Int32) % qc)), .val (.int (wdf (64 / qc) (64 % qc) qb)), .val (.int (shf (64 / qc) (64 % qc) qb)), .val (.long (lowf (wdf (64 / qc) (64 % qc) qb))), .second, .val (.long ((lowf (wdf (64 / qc) (64 % qc) qb)) <<< ((shf (64 / qc) (64 % qc) qb).toInt64 &&& 63))), .second, .val (.int ((p4 &&& (2147483647 : Int32)) % (3 : Int32))), .val (.long ((1 : Int64) <<< ((p5 &&& (63 : Int32)).toInt64 &&& 63))), .second, .unset, .unset]) (st' := []) (by decide +kernel) rfl ?_
        exact J147 _ X1 _
      · refine X1.blk hK (L := [(.lload_n 2, 1, 0, 0), (.lload 15, 2, 0, 0), (.ldc2_w 14, 3, 0, 0), (.lxor, 1, 0, 0), (.land, 1, 0, 0), (.lstore 18, 2, 0, 0), (.goto 12, 3, 0, 147)]) (pc' := 147) (ls' := #[.val (.int p1), .val (.int p2), .val (.long p3), .second, .val (.int p4), .val (.int p5), .val (.int qd), .val (.int qc), .val (.int qb), .val (.int ((64 : Int32) / qc)), .val (.int ((64 : Int32) % qc)), .val (.int (wdf (64 / qc) (64 % qc) qb)), .val (.int (shf (64 / qc) (64 % qc) qb)), .val (.long (lowf (wdf (64 / qc) (64 % qc) qb))), .second, .val (.long ((lowf (wdf (64 / qc) (64 % qc) qb)) <<< ((shf (64 / qc) (64 % qc) qb).toInt64 &&& 63))), .second, .val (.int ((p4 &&& (2147483647 : Int32)) % (3 : Int32))), .val (.long (p3 &&& (((lowf (wdf (64 / qc) (64 % qc) qb)) <<< ((shf (64 / qc) (64 % qc) qb).toInt64 &&& 63)) ^^^ (-1 : Int64)))), .second, .unset, .unset]) (st' := []) (by decide +kernel) rfl ?_
        exact J147 _ X1 _
    · refine X1.blk hK (L := [(.lload_n 2, 1, 0, 0), (.lstore 18, 2, 0, 0), (.goto 31, 3, 0, 147)]) (pc' := 147) (ls' := #[.val (.int p1), .val (.int p2), .val (.long p3), .second, .val (.int p4), .val (.int p5), .val (.int qd), .val (.int qc), .val (.int qb), .val (.int ((64 : Int32) / qc)), .val (.int ((64 : Int32) % qc)), .val (.int (wdf (64 / qc) (64 % qc) qb)), .val (.int (shf (64 / qc) (64 % qc) qb)), .val (.long (lowf (wdf (64 / qc) (64 % qc) qb))), .second, .val (.long ((lowf (wdf (64 / qc) (64 % qc) qb)) <<< ((shf (64 / qc) (64 % qc) qb).toInt64 &&& 63))), .second, .val (.int ((p4 &&& (2147483647 : Int32)) % (3 : Int32))), .val (.long p3), .second, .unset, .unset]) (st' := []) (by decide +kernel) rfl ?_
      exact J147 _ X1 _
  have J54 : Go p e below s room_1 n0 (fun v h => v = some (.int 1)) (T.setTop (mkF m 54 #[.val (.int p1), .val (.int p2), .val (.long p3), .second, .val (.int p4), .val (.int p5), .val (.int qd), .val (.int qc), .val (.int qb), .val (.int ((64 : Int32) / qc)), .val (.int ((64 : Int32) % qc)), .unset, .unset, .unset, .unset, .unset, .unset, .unset, .unset, .unset, .unset, .unset] [(.int (wdf (64 / qc) (64 % qc) qb))])) := by
    refine X.blk hK (L := [(.istore 11, 2, 0, 0), (.iload 8, 2, 0, 0), (.iload 9, 2, 0, 0), (.imul, 1, 0, 0), (.iload 8, 2, 0, 0), (.iload 10, 2, 0, 0)]) (pc' := 65) (ls' := #[.val (.int p1), .val (.int p2), .val (.long p3), .second, .val (.int p4), .val (.int p5), .val (.int qd), .val (.int qc), .val (.int qb), .val (.int ((64 : Int32) / qc)), .val (.int ((64 : Int32) % qc)), .val (.int (wdf (64 / qc) (64 % qc) qb)), .unset, .unset, .unset, .unset, .unset, .unset, .unset, .unset, .unset, .unset]) (st' := [(.int ((64 : Int32) % qc)), (.int qb), (.int (qb * ((64 : Int32) / qc)))]) (by decide +kernel) rfl ?_
    refine X.callS 68 1 (argsL := [(.int qb), (.int ((64 : Int32) % qc))]) (rest := [(.int (qb * ((64 : Int32) / qc)))]) (rm_min l Z a0 hw qb (64 % qc) h0 n0 Z0) (hw _ (List.mem_of_getElem? (i := 1) rfl)) (hw _ (List.mem_of_getElem? (i := 2) rfl)) (hw _ (List.mem_of_getElem? (i := 3) rfl)) (hw _ (List.mem_of_getElem? (i := 4) rfl)) (by decide) (ps := [.int, .int]) (r := some .int) (by decide +kernel) rfl rfl rfl rfl (by decide +kernel) (by decide) ?_
    rintro Tm hm vm Xm ⟨rfl, rfl⟩
    show Go p e below s _ n0 _ (Tm.setTop (mkF m 68 #[.val (.int p1), .val (.int p2), .val (.long p3), .second, .val (.int p4), .val (.int p5), .val (.int qd), .val (.int qc), .val (.int qb), .val (.int ((64 : Int32) / qc)), .val (.int ((64 : Int32) % qc)), .val (.int (wdf (64 / qc) (64 % qc) qb)), .unset, .unset, .unset, .unset, .unset, .unset, .unset, .unset, .unset, .unset] [(.int (fMin qb (64 % qc))), (.int (qb * ((64 : Int32) / qc)))]))
    refine Xm.blk hK (L := [(.iadd, 1, 0, 0), (.istore 12, 2, 0, 0)]) (pc' := 71) (ls' := #[.val (.int p1), .val (.int p2), .val (.long p3), .second, .val (.int p4), .val (.int p5), .val (.int qd), .val (.int qc), .val (.int qb), .val (.int ((64 : Int32) / qc)), .val (.int ((64 : Int32) % qc)), .val (.int (wdf (64 / qc) (64 % qc) qb)), .val (.int (shf (64 / qc) (64 % qc) qb)), .unset, .unset, .unset, .unset, .unset, .unset, .unset, .unset, .unset]) (st' := []) (by decide +kernel) rfl ?_
    refine Xm.blk hK (L := [(.iload 11, 2, 0, 0), (.bipush 64, 2, 64, 0)]) (pc' := 75) (ls' := #[.val (.int p1), .val (.int p2), .val (.long p3), .second, .val (.int p4), .val (.int p5), .val (.int qd), .val (.int qc), .val (.int qb), .val (.int ((64 : Int32) / qc)), .val (.int ((64 : Int32) % qc)), .val (.int (wdf (64 / qc) (64 % qc) qb)), .val (.int (shf (64 / qc) (64 % qc) qb)), .unset, .unset, .unset, .unset, .unset, .unset, .unset, .unset, .unset]) (st' := [(.int (64 : Int32)), (.int (wdf (64 / qc) (64 % qc) qb))]) (by decide +kernel) rfl ?_
    refine Xm.icmp .ne (9) 84 78 (by decide +kernel) (fun (c75 : ¬ (wdf (64 / qc) (64 % qc) qb) = (64 : Int32)) => ?_) (fun (c75 : (wdf (64 / qc) (64 % qc) qb) = (64 : Int32)) => ?_)
    · refine Xm.blk hK (L := [(.lconst 1, 1, 0, 0), (.iload 11, 2, 0, 0), (.lshl, 1, 0, 0), (.lconst 1, 1, 0, 0), (.lsub, 1, 0, 0)]) (pc' := 90) (ls' := #[.val (.int p1), .val (.int p2), .val (.long p3), .second, .val (.int p4), .val (.int p5), .val (.int qd), .val (.int qc), .val (.int qb), .val (.int ((64 : Int32) / qc)), .val (.int ((64 : Int32) % qc)), .val (.int (wdf (64 / qc) (64 % qc) qb)), .val (.int (shf (64 / qc) (64 % qc) qb)), .unset, .unset, .unset, .unset, .unset, .unset, .unset, .unset, .unset]) (st' := [(.long (((1 : Int64) <<< ((wdf (64 / qc) (64 % qc) qb).toInt64 &&& 63)) - (1 : Int64)))]) (by decide +kernel) rfl ?_
      have J := J90 _ Xm
      unfold lowf at J
      rw [if_neg c75] at J
      exact J
    · refine Xm.blk hK (L := [(.ldc2_w 14, 3, 0, 0), (.goto 9, 3, 0, 90)]) (pc' := 90) (ls' := #[.val (.int p1), .val (.int p2), .val (.long p3), .second, .val (.int p4), .val (.int p5), .val (.int qd), .val (.int qc), .val (.int qb), .val (.int ((64 : Int32) / qc)), .val (.int ((64 : Int32) % qc)), .val (.int (wdf (64 / qc) (64 % qc) qb)), .val (.int (shf (64 / qc) (64 % qc) qb)), .unset, .unset, .unset, .unset, .unset, .unset, .unset, .unset, .unset]) (st' := [(.long (-1 : Int64))]) (by decide +kernel) rfl ?_
      have J := J90 _ Xm
      unfold lowf at J
      rw [if_pos c75] at J
      exact J
  refine X.icmp .ge (10) 52 45 (by decide +kernel) (fun (c42 : ¬ qb < ((64 : Int32) % qc)) => ?_) (fun (c42 : qb < ((64 : Int32) % qc)) => ?_)
  · refine X.blk hK (L := [(.iload 9, 2, 0, 0)]) (pc' := 54) (ls' := #[.val (.int p1), .val (.int p2), .val (.long p3), .second, .val (.int p4), .val (.int p5), .val (.int qd), .val (.int qc), .val (.int qb), .val (.int ((64 : Int32) / qc)), .val (.int ((64 : Int32) % qc)), .unset, .unset, .unset, .unset, .unset, .unset, .unset, .unset, .unset, .unset, .unset]) (st' := [(.int ((64 : Int32) / qc))]) (by decide +kernel) rfl ?_
    have J := J54
    unfold wdf at J
    rw [if_neg c42] at J
    exact J
  · refine X.blk hK (L := [(.iload 9, 2, 0, 0), (.iconst 1, 1, 1, 0), (.iadd, 1, 0, 0), (.goto 5, 3, 0, 54)]) (pc' := 54) (ls' := #[.val (.int p1), .val (.int p2), .val (.long p3), .second, .val (.int p4), .val (.int p5), .val (.int qd), .val (.int qc), .val (.int qb), .val (.int ((64 : Int32) / qc)), .val (.int ((64 : Int32) % qc)), .unset, .unset, .unset, .unset, .unset, .unset, .unset, .unset, .unset, .unset, .unset]) (st' := [(.int (((64 : Int32) / qc) + (1 : Int32)))]) (by decide +kernel) rfl ?_
    have J := J54
    unfold wdf at J
    rw [if_pos c42] at J
    exact J
set_option maxRecDepth 65536 in
set_option maxHeartbeats 40000000 in
theorem comes_1 {Post : Tables → Env → Array Value → State → Outcome → State → Prop} (hpost : ∀ tb e args s v u, (limb_1_1.after args s (.returned v) u = true ∧ limb_1_2.after args s (.returned v) u = true ∧ True) → FrameEnd s (.returned v) u (Jvm.fieldLocs frame_1_writes args s ++ Jvm.arrayLocs frame_1_arrays args s ++ Jvm.staticLocs frame_1_statics s) 16 512 → Post tb e args s (.returned v) u) :
    ArmFor flags0 classFile x code maxLocals ret World_1 tables_1 room_1 Calls_1 rest_1 Pre_1 Post := by
  intro l hfl _ _ p e ha hc hk s m args below hf hA hF happ hP
  obtain ⟨hcalls, hrest, hpre⟩ := hP
  obtain ⟨-, -, -, hnamed, -, -, -, hat⟩ := (Spec.applies_iff hf).mp happ
  obtain ⟨hg, hn⟩ := and_e (Cond.before_iff.mp (show (Jvm.Cond.and given_1 narrow_1).before args s = true from hpre))
  obtain ⟨hc0, hg⟩ := and_e hg
  obtain ⟨hk0, hg⟩ := and_e hg
  obtain ⟨hk1, hg⟩ := and_e hg
  obtain ⟨hk2, hg⟩ := and_e hg
  obtain ⟨hk3, hg⟩ := and_e hg
  have hk4 := hg
  obtain ⟨w0, w1, w2, w3, w4, rfl⟩ : ∃ w0 w1 w2 w3 w4 : Value, args = #[w0, w1, w2, w3, w4] := by
    have hs : args.size = 5 := by simpa [Cond.value, given_1] using hc0
    obtain ⟨L⟩ := args
    match L, hs with
    | [w0, w1, w2, w3, w4], _ => exact ⟨w0, w1, w2, w3, w4, rfl⟩
  have hw := fun d (hd : d ∈ tables_1) => atoms_spec (ws := Jvm.Cond.code x code maxLocals ret :: tables_1) hat d (List.mem_cons_of_mem _ hd)
  obtain ⟨i0, e0⟩ := is_v hk0
  obtain rfl : w0 = (.int i0) := Option.some.inj e0
  obtain ⟨i1, e1⟩ := is_v hk1
  obtain rfl : w1 = (.int i1) := Option.some.inj e1
  obtain ⟨i2, e2⟩ := isL_v hk2
  obtain rfl : w2 = (.long i2) := Option.some.inj e2
  obtain ⟨i3, e3⟩ := is_v hk3
  obtain rfl : w3 = (.int i3) := Option.some.inj e3
  obtain ⟨i4, e4⟩ := is_v hk4
  obtain rfl : w4 = (.int i4) := Option.some.inj e4
  obtain ⟨n, o, h1, h2, h3, v, L, rfl, ⟨hv, -, N⟩, hq⟩ := rm_law l s _ hw i0 i1 i2 i3 i4 s.heap s.heap.size (Nat.le_refl _) tables_1 p e ha hc hk s m _ below hf ((Spec.applies_iff_loose hf).mp happ).1 ⟨rfl, State.Warmed39.refl s, rfl⟩ trivial
  obtain rfl : v = some (.int 1) := hv
  refine ⟨n, _, h1, h2, h3, hpost _ _ _ _ _ _ ⟨Cond.after_iff.mpr rfl, Cond.after_iff.mpr (eq_i res_at (Term.int_eval (1)) rfl), trivial⟩ ⟨hq.1, hq.2.1, (hq.2.2.sift fun y hy => Or.inr (N y hy)).mono (by decide) (by decide)⟩⟩
theorem main_1_1 : Claimed_1_1 := comes_1 fun _ _ _ _ _ _ h hF => ⟨h.1, hF⟩
theorem main_1_2 : Claimed_1_2 := comes_1 fun _ _ _ _ _ _ h hF => ⟨h.2.1, hF⟩
end Jvm.Pilot.@@N@@
namespace Jvm.Pilot.@@N@@
open Jvm Jvm.ClassFile Sem Op Lib Jvm.Free Jvm.Stand Jvm.Pilot.@@N@@.Jvm.D
/-! MADE BY PROGRAM (witnessworld.py) out of the Statement's table words and the real class files: 12 classes; the members and pool entries that the words name. The judged class is class 1, her method 1. -/
namespace start1
open Jvm.ClassFile
def u (s : String) : CpInfo := .utf8 (stringToUtf16 s)
/-- a pool by its gaps: so many unusable entries, then the entry; so many at the end -/
def gap : Nat → List CpInfo → List CpInfo
  | 0, r => r
  | n + 1, r => .unusable :: gap n r
def poolList (es : List (Nat × CpInfo)) (last : Nat) : List CpInfo := es.foldr (fun e r => gap e.1 (e.2 :: r)) (gap last [])
def pool (es : List (Nat × CpInfo)) (last : Nat) : Array CpInfo := ⟨poolList es last⟩
def fileOf (pool : Array CpInfo) (this : Nat) (attrs : Array Attribute := #[]) (ms : Array MethodInfo := #[]) (fl : Nat := 33) (sup : Nat := 0) (ifs : Array Nat := #[]) (fds : Array FieldInfo := #[]) : ClassFile where
  minorVersion := 0
  majorVersion := 65
  constantPool := pool
  accessFlags := fl
  thisClass := this
  superClass := sup
  interfaces := ifs
  fields := fds
  methods := ms
  attributes := attrs
def plain (name : String) (sup : Option ClassId) : Class where
  name := name
  kind := .ordinary
  loader := none
  accessFlags := 33
  super := sup
  interfaces := #[]
  cf := none
  fields := #[]
  methods := #[]
  instanceTypes := #[]
  staticTypes := #[]
  resolved := #[]
  callSites := []
  init := .initialized
  statics := none
  mirror := none

def pool0 : Array CpInfo := pool [(5, u "<init>"), (0, u "()V"), (1, .class_ 10), (1, u "java/lang/Object")] 113

def k0c0 : Code := { maxStack := 0, maxLocals := 1, code := object_method_1_code, exceptionTable := #[], attributes := #[] }
def k0m0 : Method := { name := "<init>", desc := "()V", sig := { parameters := [], returnType := none }, accessFlags := 1, code := some k0c0 }
/-- java/lang/Object -/
def k0 : Class := { plain "java/lang/Object" none with
  accessFlags := 33
  interfaces := #[]
  cf := some (fileOf pool0 8 #[] #[{ accessFlags := 1, nameIndex := 5, descriptorIndex := 6, attributes := #[] }] 33 0 #[] #[])
  fields := #[]
  methods := #[k0m0]
  instanceTypes := #[]
  staticTypes := #[]
  resolved := Array.replicate 124 none
  statics := none }

def pool1 : Array CpInfo := pool [(2, .class_ 4), (1, u "java/lang/Object"), (0, u "<init>"), (0, u "()V"), (0, .integer 2147483647), (0, .methodref 9 10), (0, .class_ 11), (0, .nameAndType 12 13), (0, u "java/lang/Math"), (0, u "min"), (0, u "(II)I"), (0, .long 18446744073709551615), (1, .class_ 17), (0, u "com/example/text_to_fingerprint/texttofingerprint/service/PigeonholeBlocks"), (0, .methodref 16 19), (0, .nameAndType 5 20), (0, u "(I)V"), (0, .methodref 16 22), (0, .nameAndType 23 24), (0, u "agreeOn"), (0, u "(JI)Z"), (0, .class_ 26), (0, u "com/example/text_to_fingerprint/texttofingerprint/service/PigeonholeBlocksAgreeOnPinLaw"), (2, u "law"), (0, u "(IIJII)Z")] 3

def k1m0 : Method := { name := "<init>", desc := "()V", sig := { parameters := [], returnType := none }, accessFlags := 1, code := none }
def k1c1 : Code := { maxStack := 6, maxLocals := 22, code := code, exceptionTable := #[], attributes := #[] }
def k1m1 : Method := { name := "law", desc := "(IIJII)Z", sig := { parameters := [.int, .int, .long, .int, .int], returnType := some .boolean }, accessFlags := 9, code := some k1c1 }
/-- com/example/text_to_fingerprint/texttofingerprint/service/PigeonholeBlocksAgreeOnPinLaw -/
def k1 : Class := { plain "com/example/text_to_fingerprint/texttofingerprint/service/PigeonholeBlocksAgreeOnPinLaw" (some 0) with
  accessFlags := 49
  interfaces := #[]
  cf := some (fileOf pool1 25 #[] #[{ accessFlags := 1, nameIndex := 5, descriptorIndex := 6, attributes := #[] }, { accessFlags := 9, nameIndex := 29, descriptorIndex := 30, attributes := #[] }] 49 2 #[] #[])
  fields := #[]
  methods := #[k1m0, k1m1]
  instanceTypes := #[]
  staticTypes := #[]
  resolved := Array.replicate 34 none
  statics := none }

def pool2 : Array CpInfo := pool [(1, .class_ 2), (0, u "java/lang/Math"), (1, .class_ 6), (1, u "java/lang/Object"), (0, u "<init>"), (0, u "()V"), (89, .class_ 100), (1, u "java/lang/Math$RandomNumberGeneratorHolder"), (71, u "negativeZeroFloatBits"), (0, u "J"), (2, u "negativeZeroDoubleBits"), (24, u "min"), (43, u "$assertionsDisabled"), (0, u "Z"), (88, u "(II)I"), (2, u "twoToTheDoubleScaleDown"), (0, u "D"), (4, u "twoToTheDoubleScaleUp"), (9, u "E"), (3, u "PI"), (2, u "TAU"), (2, u "DEGREES_TO_RADIANS"), (0, u "RADIANS_TO_DEGREES")] 94

def k2m0 : Method := { name := "<init>", desc := "()V", sig := { parameters := [], returnType := none }, accessFlags := 2, code := none }
def k2c1 : Code := { maxStack := 2, maxLocals := 2, code := jdk_29_method_69_code, exceptionTable := #[], attributes := #[] }
def k2m1 : Method := { name := "min", desc := "(II)I", sig := { parameters := [.int, .int], returnType := some .int }, accessFlags := 9, code := some k2c1 }
/-- java/lang/Math -/
def k2 : Class := { plain "java/lang/Math" (some 0) with
  accessFlags := 49
  interfaces := #[]
  cf := some (fileOf pool2 1 #[.nestMembers #[98]] #[{ accessFlags := 2, nameIndex := 7, descriptorIndex := 8, attributes := #[] }, { accessFlags := 9, nameIndex := 201, descriptorIndex := 335, attributes := #[] }] 49 4 #[] #[{ accessFlags := 25, nameIndex := 354, descriptorIndex := 339, attributes := #[] }, { accessFlags := 25, nameIndex := 358, descriptorIndex := 339, attributes := #[] }, { accessFlags := 25, nameIndex := 361, descriptorIndex := 339, attributes := #[] }, { accessFlags := 26, nameIndex := 364, descriptorIndex := 339, attributes := #[] }, { accessFlags := 26, nameIndex := 365, descriptorIndex := 339, attributes := #[] }, { accessFlags := 26, nameIndex := 172, descriptorIndex := 173, attributes := #[] }, { accessFlags := 26, nameIndex := 176, descriptorIndex := 173, attributes := #[] }, { accessFlags := 8, nameIndex := 344, descriptorIndex := 339, attributes := #[] }, { accessFlags := 8, nameIndex := 338, descriptorIndex := 339, attributes := #[] }, { accessFlags := 4120, nameIndex := 245, descriptorIndex := 246, attributes := #[] }])
  fields := #[{ name := "E", type := .double, accessFlags := 25, slot := 0, constantValue := 0 }, { name := "PI", type := .double, accessFlags := 25, slot := 1, constantValue := 0 }, { name := "TAU", type := .double, accessFlags := 25, slot := 2, constantValue := 0 }, { name := "DEGREES_TO_RADIANS", type := .double, accessFlags := 26, slot := 3, constantValue := 0 }, { name := "RADIANS_TO_DEGREES", type := .double, accessFlags := 26, slot := 4, constantValue := 0 }, { name := "negativeZeroFloatBits", type := .long, accessFlags := 26, slot := 5, constantValue := 0 }, { name := "negativeZeroDoubleBits", type := .long, accessFlags := 26, slot := 6, constantValue := 0 }, { name := "twoToTheDoubleScaleUp", type := .double, accessFlags := 8, slot := 7, constantValue := 0 }, { name := "twoToTheDoubleScaleDown", type := .double, accessFlags := 8, slot := 8, constantValue := 0 }, { name := "$assertionsDisabled", type := .boolean, accessFlags := 4120, slot := 9, constantValue := 0 }]
  methods := #[k2m0, k2m1]
  instanceTypes := #[]
  staticTypes := #[.double, .double, .double, .double, .double, .long, .long, .double, .double, .boolean]
  resolved := Array.replicate 460 none
  statics := none }

def pool3 : Array CpInfo := pool [(1, .methodref 2 3), (0, .class_ 4), (0, .nameAndType 5 6), (0, u "java/lang/Object"), (0, u "<init>"), (0, u "()V"), (2, .fieldref 10 11), (0, .class_ 12), (0, .nameAndType 13 14), (0, u "com/example/text_to_fingerprint/texttofingerprint/service/PigeonholeBlocks"), (0, u "shifts"), (0, u "[I"), (0, .fieldref 10 16), (0, .nameAndType 17 14), (0, u "widths"), (0, .fieldref 10 19), (0, .nameAndType 20 21), (0, u "masks"), (0, u "[J"), (0, .long 18446744073709551615), (38, u "(I)V"), (11, u "agreeOn"), (0, u "(JI)Z")] 5

def k3c0 : Code := { maxStack := 7, maxLocals := 7, code := prog_28_method_1_code, exceptionTable := #[], attributes := #[] }
def k3m0 : Method := { name := "<init>", desc := "(I)V", sig := { parameters := [.int], returnType := none }, accessFlags := 0, code := some k3c0 }
def k3c1 : Code := { maxStack := 4, maxLocals := 4, code := prog_28_method_6_code, exceptionTable := #[], attributes := #[] }
def k3m1 : Method := { name := "agreeOn", desc := "(JI)Z", sig := { parameters := [.long, .int], returnType := some .boolean }, accessFlags := 0, code := some k3c1 }
/-- com/example/text_to_fingerprint/texttofingerprint/service/PigeonholeBlocks -/
def k3 : Class := { plain "com/example/text_to_fingerprint/texttofingerprint/service/PigeonholeBlocks" (some 0) with
  accessFlags := 48
  interfaces := #[]
  cf := some (fileOf pool3 10 #[] #[{ accessFlags := 0, nameIndex := 5, descriptorIndex := 61, attributes := #[] }, { accessFlags := 0, nameIndex := 73, descriptorIndex := 74, attributes := #[] }] 48 2 #[] #[{ accessFlags := 18, nameIndex := 13, descriptorIndex := 14, attributes := #[] }, { accessFlags := 18, nameIndex := 17, descriptorIndex := 14, attributes := #[] }, { accessFlags := 18, nameIndex := 20, descriptorIndex := 21, attributes := #[] }])
  fields := #[{ name := "shifts", type := (.array .int), accessFlags := 18, slot := 0, constantValue := 0 }, { name := "widths", type := (.array .int), accessFlags := 18, slot := 1, constantValue := 0 }, { name := "masks", type := (.array .long), accessFlags := 18, slot := 2, constantValue := 0 }]
  methods := #[k3m0, k3m1]
  instanceTypes := #[(.array .int), (.array .int), (.array .long)]
  staticTypes := #[]
  resolved := Array.replicate 80 none
  statics := none }

def pool4 : Array CpInfo := pool [(1, u "java/lang/Cloneable"), (0, .class_ 1), (0, u "java/lang/Object"), (0, .class_ 3)] 3

/-- java/lang/Cloneable -/
def k4 : Class := { plain "java/lang/Cloneable" (some 0) with
  accessFlags := 1537
  interfaces := #[]
  cf := some (fileOf pool4 2 #[] #[] 1537 4 #[] #[])
  fields := #[]
  methods := #[]
  instanceTypes := #[]
  staticTypes := #[]
  resolved := Array.replicate 8 none
  statics := none }

def pool5 : Array CpInfo := pool [(1, u "java/io/Serializable"), (0, .class_ 1), (0, u "java/lang/Object"), (0, .class_ 3)] 3

/-- java/io/Serializable -/
def k5 : Class := { plain "java/io/Serializable" (some 0) with
  accessFlags := 1537
  interfaces := #[]
  cf := some (fileOf pool5 2 #[] #[] 1537 4 #[] #[])
  fields := #[]
  methods := #[]
  instanceTypes := #[]
  staticTypes := #[]
  resolved := Array.replicate 8 none
  statics := none }

/-- the primitive byte -/
def k6 : Class := { plain "byte" none with kind := .primitive 'B', accessFlags := 0x411 }
/-- [B -/
def k7 : Class := { plain "[B" (some 0) with kind := .array 6 .byte, interfaces := #[4, 5], accessFlags := 1041 }

/-- the primitive int -/
def k8 : Class := { plain "int" none with kind := .primitive 'I', accessFlags := 0x411 }
/-- [I -/
def k9 : Class := { plain "[I" (some 0) with kind := .array 8 .int, interfaces := #[4, 5], accessFlags := 1041 }

/-- the primitive long -/
def k10 : Class := { plain "long" none with kind := .primitive 'J', accessFlags := 0x411 }
/-- [J -/
def k11 : Class := { plain "[J" (some 0) with kind := .array 10 .long, interfaces := #[4, 5], accessFlags := 1041 }

def heap : Heap := #[]
def classes : Array Class := #[k0, k1, k2, k3, k4, k5, k6, k7, k8, k9, k10, k11]
def interned : List (Array UInt16 × Addr) := []
def slotsUsed : Nat := 0
def theMethod : MethodId := ⟨1, 1⟩
def args0 : Array Value := #[.int 5, .int 9, .long 3, .int 2, .int 2]
def aboutOver (below : List Frame) : State where
  vm := { classes := classes, interned := interned.toArray }
  heap := heap
  slotsUsed := slotsUsed
  threads := #[{ frames := .invoking theMethod args0 :: below }]
def below0 : List Frame := [.native { method := ⟨0, 0⟩, args := #[] }]
def about1 : State := aboutOver below0
def p0 : Program := .bare "" "" ""
def e0 : Env := launch0.env 0 0 0
theorem w_frames : about1.frames = Frame.invoking theMethod args0 :: below0 := rfl
set_option maxRecDepth 65536 in
theorem w_args : argsFit about1.vm theMethod args0 = true := by decide +kernel
set_option maxRecDepth 65536 in
theorem w_heap : heapFits about1 = true := by decide +kernel
set_option maxRecDepth 65536 in
theorem w_runnable : about1.curStatus? = some .runnable := by decide +kernel
set_option maxRecDepth 65536 in
theorem w_alone : about1.alone = true := by decide +kernel
set_option maxRecDepth 65536 in
theorem w_named : about1.methodNamed? x = some theMethod := by decide +kernel
set_option maxRecDepth 65536 in
theorem w_hears : about1.hears theMethod below0 = true := by decide +kernel
set_option maxRecDepth 65536 in
theorem w_ripe : about1.ripe theMethod args0 below0 = true := by decide +kernel
theorem w_running : about1.status = .running := rfl
set_option maxRecDepth 65536 in
theorem w_room : about1.hasRoom e0.platform room_1 = true :=
  launch0.hasRoom_least _ room_1 (by decide +kernel) (by decide +kernel) (by decide +kernel) (by decide +kernel) (by decide +kernel) (by decide +kernel)
theorem allAtoms_all (ts : List Jvm.Cond) (a : Array Jvm.Value) (st : Jvm.State) : (allAtoms ts).before a st = ts.all (fun c => c.before a st) := by
  induction ts with
  | nil => rfl
  | cons c t ih =>
    show (Jvm.Cond.and c (allAtoms t)).before a st = _
    rw [Jvm.Cond.before_and, ih, List.all_cons]
def words1 : List Jvm.Cond := Jvm.Cond.code x code maxLocals ret :: tables_1
/-- a 'code' word, met by the world's own term for the bytes: nothing is compared byte by byte -/
theorem code_word {y : MethodName} {bytes : ByteArray} {mx : Nat} {rt : Option FieldType} {a : Array Value} {s : State} {m : MethodId} {meth : Method} {c : Code} (h1 : s.methodNamed? y = some m) (h2 : s.vm.method? m = some meth) (h3 : meth.code = some c) (h4 : c.code = bytes)
    (h5 : (c.maxLocals == mx && c.exceptionTable.isEmpty && decide (c.maxStack ≤ mostOperands) && decide (meth.sig.returnType = rt) && !meth.locks && decide (parseMethodDescriptor y.desc = some meth.sig)) = true) : (Jvm.Cond.code y bytes mx rt).before a s = true := by
  simp only [Bool.and_eq_true, beq_iff_eq, Bool.not_eq_true', decide_eq_true_eq] at h5
  obtain ⟨⟨⟨⟨⟨g1, g2⟩, g3⟩, g4⟩, g5⟩, g6⟩ := h5
  simp [Cond.before, Cond.holds, Cond.value, h1, h2, h3, h4, g1, g2, g3, g4, g5, g6]
def isCode : Jvm.Cond → Bool
  | .code _ _ _ _ => true
  | _ => false
theorem all_split {L : List Jvm.Cond} {P : Jvm.Cond → Bool} (h1 : L.all (fun c => isCode c || P c) = true) (h2 : ∀ c ∈ L.filter isCode, P c = true) : L.all P = true := by
  refine List.all_eq_true.mpr fun c hc => ?_
  have h := List.all_eq_true.mp h1 c hc
  rcases Bool.eq_false_or_eq_true (isCode c) with hi | hi
  · exact h2 c (List.mem_filter.mpr ⟨hc, hi⟩)
  · simpa [hi] using h
set_option maxRecDepth 65536 in
theorem w_c0 : (Jvm.Cond.code x code maxLocals ret).before args0 about1 = true := code_word (m := ⟨1, 1⟩) (meth := k1m1) (c := k1c1) (by decide +kernel) rfl rfl rfl (by decide +kernel)
set_option maxRecDepth 65536 in
theorem w_c1 : (Jvm.Cond.code ({ cls := "java/lang/Math", name := "min", desc := "(II)I" } : Jvm.MethodName) jdk_29_method_69_code (2 : Nat) (Option.some Jvm.ClassFile.FieldType.int)).before args0 about1 = true := code_word (m := ⟨2, 1⟩) (meth := k2m1) (c := k2c1) (by decide +kernel) rfl rfl rfl (by decide +kernel)
set_option maxRecDepth 65536 in
theorem w_c2 : (Jvm.Cond.code ({ cls := "com/example/text_to_fingerprint/texttofingerprint/service/PigeonholeBlocks", name := "<init>", desc := "(I)V" } : Jvm.MethodName) prog_28_method_1_code (7 : Nat) (Option.none : Option Jvm.ClassFile.FieldType)).before args0 about1 = true := code_word (m := ⟨3, 0⟩) (meth := k3m0) (c := k3c0) (by decide +kernel) rfl rfl rfl (by decide +kernel)
set_option maxRecDepth 65536 in
theorem w_c3 : (Jvm.Cond.code ({ cls := "java/lang/Object", name := "<init>", desc := "()V" } : Jvm.MethodName) object_method_1_code (1 : Nat) (Option.none : Option Jvm.ClassFile.FieldType)).before args0 about1 = true := code_word (m := ⟨0, 0⟩) (meth := k0m0) (c := k0c0) (by decide +kernel) rfl rfl rfl (by decide +kernel)
set_option maxRecDepth 65536 in
theorem w_c4 : (Jvm.Cond.code ({ cls := "com/example/text_to_fingerprint/texttofingerprint/service/PigeonholeBlocks", name := "agreeOn", desc := "(JI)Z" } : Jvm.MethodName) prog_28_method_6_code (4 : Nat) (Option.some Jvm.ClassFile.FieldType.boolean)).before args0 about1 = true := code_word (m := ⟨3, 1⟩) (meth := k3m1) (c := k3c1) (by decide +kernel) rfl rfl rfl (by decide +kernel)
def codes1 : List Jvm.Cond := [Jvm.Cond.code x code maxLocals ret, Jvm.Cond.code ({ cls := "java/lang/Math", name := "min", desc := "(II)I" } : Jvm.MethodName) jdk_29_method_69_code (2 : Nat) (Option.some Jvm.ClassFile.FieldType.int), Jvm.Cond.code ({ cls := "com/example/text_to_fingerprint/texttofingerprint/service/PigeonholeBlocks", name := "<init>", desc := "(I)V" } : Jvm.MethodName) prog_28_method_1_code (7 : Nat) (Option.none : Option Jvm.ClassFile.FieldType), Jvm.Cond.code ({ cls := "java/lang/Object", name := "<init>", desc := "()V" } : Jvm.MethodName) object_method_1_code (1 : Nat) (Option.none : Option Jvm.ClassFile.FieldType), Jvm.Cond.code ({ cls := "com/example/text_to_fingerprint/texttofingerprint/service/PigeonholeBlocks", name := "agreeOn", desc := "(JI)Z" } : Jvm.MethodName) prog_28_method_6_code (4 : Nat) (Option.some Jvm.ClassFile.FieldType.boolean)]
set_option maxRecDepth 65536 in
theorem codes_eq : words1.filter isCode = codes1 := rfl
theorem w_codes : ∀ c ∈ words1.filter isCode, c.before args0 about1 = true := by
  rw [codes_eq]
  intro c hc
  simp only [codes1, List.mem_cons, List.not_mem_nil, or_false] at hc
  rcases hc with rfl | rfl | rfl | rfl | rfl
  · exact w_c0
  · exact w_c1
  · exact w_c2
  · exact w_c3
  · exact w_c4
set_option maxRecDepth 65536 in
theorem w_t1 : (words1.take 24).all (fun c => isCode c || c.before args0 about1) = true := by decide +kernel
set_option maxRecDepth 65536 in
theorem w_t2 : (words1.drop 24).all (fun c => isCode c || c.before args0 about1) = true := by decide +kernel
theorem w_tables : (allAtoms (Jvm.Cond.code x code maxLocals ret :: tables_1)).before args0 about1 = true := by
  rw [allAtoms_all]
  show words1.all (fun c => c.before args0 about1) = true
  refine all_split ?_ w_codes
  rw [← List.take_append_drop 24 words1, List.all_append, w_t1, w_t2]
  rfl
set_option maxRecDepth 65536 in
theorem w_case : (Jvm.Cond.and given_1 narrow_1).before args0 about1 = true := by decide +kernel
theorem w_applies : (headSpec (Jvm.Cond.code x code maxLocals ret :: tables_1) room_1).applies x e0.platform about1 = true :=
  (Spec.applies_iff w_frames).mpr ⟨w_running, w_runnable, w_alone, w_named, w_hears, w_ripe, w_room, w_tables⟩
theorem atStart : AtStart classFile x code maxLocals ret World_1 tables_1 room_1 Calls_1 rest_1 Pre_1 launch0 p0 e0 about1 theMethod args0 below0 :=
  ⟨lists_1, trivial, launch0.admits_env _ _ _, launch0.least_env, fairChoices_fair.cas, fairChoices_fair.clock, w_frames, w_args, w_heap, w_applies, trivial, trivial, w_case⟩
end start1
theorem witness_1 : WitnessClaimed_1 := ⟨start1.p0, start1.e0, start1.about1, start1.theMethod, start1.args0, start1.below0, start1.atStart⟩
end Jvm.Pilot.@@N@@
