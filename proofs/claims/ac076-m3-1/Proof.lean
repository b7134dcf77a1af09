import JvmDerived
import JvmDerived.Pilot.@@N@@Statement
import JvmDerived.Pilot.@@N@@Code
set_option linter.unusedVariables false
set_option linter.unusedSimpArgs false
namespace Jvm.Pilot.@@N@@
open Jvm Jvm.ClassFile Sem Op Lib Jvm.Free Jvm.Stand Jvm.LawKit Jvm.RoadKit Bundle Jvm.Pilot.@@N@@.Jvm.D

/-! THE OWN LAYER. 1. Straight roads by evaluation: an instruction, its length, the int that it brings, where a goto leads -/
abbrev El := Instr × Nat × Int32 × Nat
def okc (i : Instr) (n : Nat) (k : Int32) (t pc : Nat) : Bool :=
  match i with
  | .iload _ => n == 2
  | .lload _ => n == 2
  | .aload _ => n == 2
  | .istore _ => n == 2
  | .lstore _ => n == 2
  | .astore _ => n == 2
  | .bipush j => n == 2 && decide ((Int8.ofInt j).toInt32 = k)
  | .sipush j => n == 3 && decide ((Int16.ofInt j).toInt32 = k)
  | .iconst j => n == 1 && decide (Int32.ofInt j = k)
  | .iinc _ j => n == 3 && decide (Int32.ofInt j = k)
  | .goto o => n == 3 && (decide (0 ≤ (pc : Int) + o) && decide (((pc : Int) + o).toNat = t))
  | .ldc _ => n == 2
  | .ldc2_w _ => n == 3
  | _ => n == 1
def nx (i : Instr) (n t pc : Nat) : Nat := match i with | .goto _ => t | _ => pc + n
def Dec (b : ByteArray) : List El → Nat → Nat → Bool
  | [], pc, pc' => pc == pc'
  | (i, n, k, t) :: L, pc, pc' => decide (decode b pc = .ok (i, n)) && (okc i n k t pc && Dec b L (nx i n t pc) pc')
def own_look {α : Type} : List (Nat × α) → Nat → Option α
  | [], _ => none
  | q :: r, i => if i = q.1 then some q.2 else own_look r i
theorem own_look_mem {α : Type} : ∀ (L : List (Nat × α)) (i : Nat) (v : α), own_look L i = some v → (i, v) ∈ L
  | [], _, _, h => nomatch h
  | q :: r, i, v, h => by
    unfold own_look at h
    split at h
    · rename_i e; cases h; subst e; exact List.mem_cons_self ..
    · exact List.mem_cons_of_mem _ (own_look_mem r i v h)
def pV (KI : List (Nat × Int32)) (KJ : List (Nat × Int64)) (i : Instr) (k : Int32) (ls : Array Slot) (st : List Value) : Option (Array Slot × List Value) :=
  match i with
  | .iload_n a => match ls[a.val]? with | some (.val (.int v)) => some (ls, .int v :: st) | _ => none
  | .iload a => match ls[a]? with | some (.val (.int v)) => some (ls, .int v :: st) | _ => none
  | .lload_n a => match ls[a.val]? with | some (.val (.long v)) => some (ls, .long v :: st) | _ => none
  | .lload a => match ls[a]? with | some (.val (.long v)) => some (ls, .long v :: st) | _ => none
  | .aload_n a => match ls[a.val]? with | some (.val (.ref v)) => some (ls, .ref v :: st) | some (.val .null) => some (ls, .null :: st) | _ => none
  | .aload a => match ls[a]? with | some (.val (.ref v)) => some (ls, .ref v :: st) | some (.val .null) => some (ls, .null :: st) | _ => none
  | .istore_n a => match st with | .int x :: r => (match storeLocals ls a.val (.int x) with | some l2 => some (l2, r) | none => none) | _ => none
  | .istore a => match st with | .int x :: r => (match storeLocals ls a (.int x) with | some l2 => some (l2, r) | none => none) | _ => none
  | .lstore_n a => match st with | .long x :: r => (match storeLocals ls a.val (.long x) with | some l2 => some (l2, r) | none => none) | _ => none
  | .lstore a => match st with | .long x :: r => (match storeLocals ls a (.long x) with | some l2 => some (l2, r) | none => none) | _ => none
  | .astore_n a => match st with | .ref x :: r => (match storeLocals ls a.val (.ref x) with | some l2 => some (l2, r) | none => none) | .null :: r => (match storeLocals ls a.val .null with | some l2 => some (l2, r) | none => none) | _ => none
  | .astore a => match st with | .ref x :: r => (match storeLocals ls a (.ref x) with | some l2 => some (l2, r) | none => none) | .null :: r => (match storeLocals ls a .null with | some l2 => some (l2, r) | none => none) | _ => none
  | .iconst j => some (ls, .int k :: st)
  | .bipush j => some (ls, .int k :: st)
  | .sipush j => some (ls, .int k :: st)
  | .lconst j => match j with | 0 => some (ls, .long 0 :: st) | 1 => some (ls, .long 1 :: st)
  | .aconst_null => some (ls, .null :: st)
  | .iadd => match st with | .int y :: .int x :: r => some (ls, .int (x + y) :: r) | _ => none
  | .isub => match st with | .int y :: .int x :: r => some (ls, .int (x - y) :: r) | _ => none
  | .imul => match st with | .int y :: .int x :: r => some (ls, .int (x * y) :: r) | _ => none
  | .iand => match st with | .int y :: .int x :: r => some (ls, .int (x &&& y) :: r) | _ => none
  | .ior => match st with | .int y :: .int x :: r => some (ls, .int (x ||| y) :: r) | _ => none
  | .ixor => match st with | .int y :: .int x :: r => some (ls, .int (x ^^^ y) :: r) | _ => none
  | .ishl => match st with | .int y :: .int x :: r => some (ls, .int (x <<< (y &&& 31)) :: r) | _ => none
  | .ishr => match st with | .int y :: .int x :: r => some (ls, .int (x >>> (y &&& 31)) :: r) | _ => none
  | .iushr => match st with | .int y :: .int x :: r => some (ls, .int (XT.ushr x y) :: r) | _ => none
  | .ladd => match st with | .long y :: .long x :: r => some (ls, .long (x + y) :: r) | _ => none
  | .lsub => match st with | .long y :: .long x :: r => some (ls, .long (x - y) :: r) | _ => none
  | .lmul => match st with | .long y :: .long x :: r => some (ls, .long (x * y) :: r) | _ => none
  | .land => match st with | .long y :: .long x :: r => some (ls, .long (x &&& y) :: r) | _ => none
  | .lor => match st with | .long y :: .long x :: r => some (ls, .long (x ||| y) :: r) | _ => none
  | .lxor => match st with | .long y :: .long x :: r => some (ls, .long (x ^^^ y) :: r) | _ => none
  | .lshl => match st with | .int y :: .long x :: r => some (ls, .long (x <<< (y.toInt64 &&& 63)) :: r) | _ => none
  | .lushr => match st with | .int y :: .long x :: r => some (ls, .long (XT.ushrL x y) :: r) | _ => none
  | .lshr => match st with | .int y :: .long x :: r => some (ls, .long (x >>> (y.toInt64 &&& 63)) :: r) | _ => none
  | .ineg => match st with | .int x :: r => some (ls, .int (-x) :: r) | _ => none
  | .lneg => match st with | .long x :: r => some (ls, .long (-x) :: r) | _ => none
  | .i2l => match st with | .int x :: r => some (ls, .long x.toInt64 :: r) | _ => none
  | .l2i => match st with | .long x :: r => some (ls, .int x.toInt32 :: r) | _ => none
  | .i2b => match st with | .int x :: r => some (ls, .int x.toInt8.toInt32 :: r) | _ => none
  | .i2s => match st with | .int x :: r => some (ls, .int x.toInt16.toInt32 :: r) | _ => none
  | .dup => match st with | .int x :: r => some (ls, .int x :: .int x :: r) | .ref x :: r => some (ls, .ref x :: .ref x :: r) | _ => none
  | .dup2 => match st with | .int x :: .ref y :: r => some (ls, .int x :: .ref y :: .int x :: .ref y :: r) | .long x :: r => some (ls, .long x :: .long x :: r) | _ => none
  | .dup_x2 => match st with | .int x :: .int y :: .ref z :: r => some (ls, .int x :: .int y :: .ref z :: .int x :: r) | _ => none
  | .goto o => some (ls, st)
  | .iinc a j => match ls[a]? with | some (.val (.int v)) => (match storeLocals ls a (.int (v + k)) with | some l2 => some (l2, st) | none => none) | _ => none
  | .ldc a => match own_look KI a with | some v => some (ls, .int v :: st) | none => none
  | .ldc2_w a => match own_look KJ a with | some v => some (ls, .long v :: st) | none => none
  | _ => none
def prun (KI : List (Nat × Int32)) (KJ : List (Nat × Int64)) : List El → Array Slot → List Value → Option (Array Slot × List Value)
  | [], ls, st => some (ls, st)
  | (i, _, k, _) :: L, ls, st => match pV KI KJ i k ls st with | some (l2, s2) => prun KI KJ L l2 s2 | none => none
theorem own_dupX2 {tb : Tables} [Ours tb] {e : Env} {below : List Frame} {T target : State} {m : MethodId} {c : Code} {g : JFrame} (h : At T m c below) (hx : tb.exec = Jvm.exec) (hg : g.method = m) {x y z : Value} {rest : List Value} (hd : decode c.code g.pc = .ok (.dup_x2, 1)) (hs : g.stack = x :: y :: z :: rest) (h1 : x.category = 1) (h2 : y.category = 1) (h3 : z.category = 1)
    (hr : Steps tb e below (T.setTop { g with pc := g.pc + 1, stack := x :: y :: z :: x :: rest }) target) : Steps tb e below (T.setTop g) target := by
  subst hg
  jvm_step h [h.top, hx, hd, hs, h1, h2, h3, dup_x2.wp_sem]
  exact hr
section OwnSteps
variable {p : Program} {l : Launch} {e : Env} {R : Room} {s : State} {m : MethodId} {args : Array Value} {below : List Frame} {meth : Method} {c : Code} {T : State} {locs : List Loc} {cells slots : Nat} {Z : State} {a0 : Array Value} {own : String} {KI : List (Nat × Int32)} {KJ : List (Nat × Int64)}
set_option maxHeartbeats 4000000 in
theorem pV_ok (X : Stand p l e R s m args below meth c T locs cells slots) (hx : p.tables.exec = Jvm.exec) (hZ : Z.Warmed39 s.vm) (hown : s.vm.findClass own = some m.cls) (hKI : ∀ q ∈ KI, (Jvm.Cond.constant own q.1 q.2).before a0 Z = true) (hKJ : ∀ q ∈ KJ, (Jvm.Cond.constantLong own q.1 q.2).before a0 Z = true)
    {pc n t : Nat} {i : Instr} {k : Int32} {ls ls' : Array Slot} {st st' : List Value} (hd : decode c.code pc = .ok (i, n)) (ho : okc i n k t pc = true) (h : pV KI KJ i k ls st = some (ls', st')) {target : State}
    (hr : Steps p.tables e below (T.setTop (mkF m (nx i n t pc) ls' st')) target) : Steps p.tables e below (T.setTop (mkF m pc ls st)) target := by
  cases i
  case iload_n a =>
    simp only [okc, beq_iff_eq] at ho
    subst ho
    simp only [pV] at h
    split at h
    · cases h
      exact XS.iloadN X.here hx rfl hd (by assumption) hr
    · cases h
  case iload a =>
    simp only [okc, beq_iff_eq] at ho
    subst ho
    simp only [pV] at h
    split at h
    · cases h
      exact XS.iload X.here hx rfl hd (by assumption) hr
    · cases h
  case lload_n a =>
    simp only [okc, beq_iff_eq] at ho
    subst ho
    simp only [pV] at h
    split at h
    · cases h
      exact XT.lloadN X.here hx rfl hd (by assumption) hr
    · cases h
  case lload a =>
    simp only [okc, beq_iff_eq] at ho
    subst ho
    simp only [pV] at h
    split at h
    · cases h
      exact XT.lload X.here hx rfl hd (by assumption) hr
    · cases h
  case aload_n a =>
    simp only [okc, beq_iff_eq] at ho
    subst ho
    simp only [pV] at h
    split at h
    · cases h
      exact XS.aloadN X.here hx rfl hd (by assumption) rfl hr
    · cases h
      exact XS.aloadN X.here hx rfl hd (by assumption) rfl hr
    · cases h
  case aload a =>
    simp only [okc, beq_iff_eq] at ho
    subst ho
    simp only [pV] at h
    split at h
    · cases h
      exact XS.aload X.here hx rfl hd (by assumption) rfl hr
    · cases h
      exact XS.aload X.here hx rfl hd (by assumption) rfl hr
    · cases h
  case istore_n a =>
    simp only [okc, beq_iff_eq] at ho
    subst ho
    simp only [pV] at h
    split at h
    · split at h
      · cases h
        exact XS.istoreN X.here hx rfl hd rfl (by assumption) hr
      · cases h
    · cases h
  case istore a =>
    simp only [okc, beq_iff_eq] at ho
    subst ho
    simp only [pV] at h
    split at h
    · split at h
      · cases h
        exact XS.istore X.here hx rfl hd rfl (by assumption) hr
      · cases h
    · cases h
  case lstore_n a =>
    simp only [okc, beq_iff_eq] at ho
    subst ho
    simp only [pV] at h
    split at h
    · split at h
      · cases h
        exact XT.lstoreN X.here hx rfl hd rfl (by assumption) hr
      · cases h
    · cases h
  case lstore a =>
    simp only [okc, beq_iff_eq] at ho
    subst ho
    simp only [pV] at h
    split at h
    · split at h
      · cases h
        exact XT.lstore X.here hx rfl hd rfl (by assumption) hr
      · cases h
    · cases h
  case astore_n a =>
    simp only [okc, beq_iff_eq] at ho
    subst ho
    simp only [pV] at h
    split at h
    · split at h
      · cases h
        exact XS.astoreN X.here hx rfl hd rfl rfl (by assumption) hr
      · cases h
    · split at h
      · cases h
        exact XS.astoreN X.here hx rfl hd rfl rfl (by assumption) hr
      · cases h
    · cases h
  case astore a =>
    simp only [okc, beq_iff_eq] at ho
    subst ho
    simp only [pV] at h
    split at h
    · split at h
      · cases h
        exact XS.astore X.here hx rfl hd rfl rfl (by assumption) hr
      · cases h
    · split at h
      · cases h
        exact XS.astore X.here hx rfl hd rfl rfl (by assumption) hr
      · cases h
    · cases h
  case iconst j =>
    simp only [okc, Bool.and_eq_true, beq_iff_eq, decide_eq_true_eq] at ho
    obtain ⟨rfl, rfl⟩ := ho
    simp only [pV] at h
    cases h
    exact XS.iconst X.here hx rfl hd hr
  case bipush j =>
    simp only [okc, Bool.and_eq_true, beq_iff_eq, decide_eq_true_eq] at ho
    obtain ⟨rfl, rfl⟩ := ho
    simp only [pV] at h
    cases h
    exact XS.bipush X.here hx rfl hd hr
  case sipush j =>
    simp only [okc, Bool.and_eq_true, beq_iff_eq, decide_eq_true_eq] at ho
    obtain ⟨rfl, rfl⟩ := ho
    simp only [pV] at h
    cases h
    exact XS.sipush X.here hx rfl hd hr
  case lconst j =>
    simp only [okc, beq_iff_eq] at ho
    subst ho
    simp only [pV] at h
    split at h
    · cases h
      exact XT.lconst X.here hx rfl hd hr
    · cases h
      exact XT.lconst X.here hx rfl hd hr
  case aconst_null =>
    simp only [okc, beq_iff_eq] at ho
    subst ho
    simp only [pV] at h
    cases h
    exact XS.aconstNull X.here hx rfl hd hr
  case iadd =>
    simp only [okc, beq_iff_eq] at ho
    subst ho
    simp only [pV] at h
    split at h
    · cases h
      exact XS.iadd X.here hx rfl hd rfl hr
    · cases h
  case isub =>
    simp only [okc, beq_iff_eq] at ho
    subst ho
    simp only [pV] at h
    split at h
    · cases h
      exact XS.isub X.here hx rfl hd rfl hr
    · cases h
  case imul =>
    simp only [okc, beq_iff_eq] at ho
    subst ho
    simp only [pV] at h
    split at h
    · cases h
      exact XS.imul X.here hx rfl hd rfl hr
    · cases h
  case iand =>
    simp only [okc, beq_iff_eq] at ho
    subst ho
    simp only [pV] at h
    split at h
    · cases h
      exact XS.iand X.here hx rfl hd rfl hr
    · cases h
  case ior =>
    simp only [okc, beq_iff_eq] at ho
    subst ho
    simp only [pV] at h
    split at h
    · cases h
      exact XT.ior X.here hx rfl hd rfl hr
    · cases h
  case ixor =>
    simp only [okc, beq_iff_eq] at ho
    subst ho
    simp only [pV] at h
    split at h
    · cases h
      exact XT.ixor X.here hx rfl hd rfl hr
    · cases h
  case ishl =>
    simp only [okc, beq_iff_eq] at ho
    subst ho
    simp only [pV] at h
    split at h
    · cases h
      exact XT.ishl X.here hx rfl hd rfl hr
    · cases h
  case ishr =>
    simp only [okc, beq_iff_eq] at ho
    subst ho
    simp only [pV] at h
    split at h
    · cases h
      exact XT.ishr X.here hx rfl hd rfl hr
    · cases h
  case iushr =>
    simp only [okc, beq_iff_eq] at ho
    subst ho
    simp only [pV] at h
    split at h
    · cases h
      exact XT.iushr X.here hx rfl hd rfl hr
    · cases h
  case ladd =>
    simp only [okc, beq_iff_eq] at ho
    subst ho
    simp only [pV] at h
    split at h
    · cases h
      exact XT.ladd X.here hx rfl hd rfl hr
    · cases h
  case lsub =>
    simp only [okc, beq_iff_eq] at ho
    subst ho
    simp only [pV] at h
    split at h
    · cases h
      exact XT.lsub X.here hx rfl hd rfl hr
    · cases h
  case lmul =>
    simp only [okc, beq_iff_eq] at ho
    subst ho
    simp only [pV] at h
    split at h
    · cases h
      exact XT.lmul X.here hx rfl hd rfl hr
    · cases h
  case land =>
    simp only [okc, beq_iff_eq] at ho
    subst ho
    simp only [pV] at h
    split at h
    · cases h
      exact XT.land X.here hx rfl hd rfl hr
    · cases h
  case lor =>
    simp only [okc, beq_iff_eq] at ho
    subst ho
    simp only [pV] at h
    split at h
    · cases h
      exact XT.lor X.here hx rfl hd rfl hr
    · cases h
  case lxor =>
    simp only [okc, beq_iff_eq] at ho
    subst ho
    simp only [pV] at h
    split at h
    · cases h
      exact XT.lxor X.here hx rfl hd rfl hr
    · cases h
  case lshl =>
    simp only [okc, beq_iff_eq] at ho
    subst ho
    simp only [pV] at h
    split at h
    · cases h
      exact XT.lshl X.here hx rfl hd rfl hr
    · cases h
  case lushr =>
    simp only [okc, beq_iff_eq] at ho
    subst ho
    simp only [pV] at h
    split at h
    · cases h
      exact XT.lushr X.here hx rfl hd rfl hr
    · cases h
  case lshr =>
    simp only [okc, beq_iff_eq] at ho
    subst ho
    simp only [pV] at h
    split at h
    · cases h
      exact XT.lshr X.here hx rfl hd rfl hr
    · cases h
  case ineg =>
    simp only [okc, beq_iff_eq] at ho
    subst ho
    simp only [pV] at h
    split at h
    · cases h
      exact XS.ineg X.here hx rfl hd rfl hr
    · cases h
  case lneg =>
    simp only [okc, beq_iff_eq] at ho
    subst ho
    simp only [pV] at h
    split at h
    · cases h
      exact XT.lneg X.here hx rfl hd rfl hr
    · cases h
  case i2l =>
    simp only [okc, beq_iff_eq] at ho
    subst ho
    simp only [pV] at h
    split at h
    · cases h
      exact XT.i2l X.here hx rfl hd rfl hr
    · cases h
  case l2i =>
    simp only [okc, beq_iff_eq] at ho
    subst ho
    simp only [pV] at h
    split at h
    · cases h
      exact XT.l2i X.here hx rfl hd rfl hr
    · cases h
  case i2b =>
    simp only [okc, beq_iff_eq] at ho
    subst ho
    simp only [pV] at h
    split at h
    · cases h
      exact XT.i2b X.here hx rfl hd rfl hr
    · cases h
  case i2s =>
    simp only [okc, beq_iff_eq] at ho
    subst ho
    simp only [pV] at h
    split at h
    · cases h
      exact XT.i2s X.here hx rfl hd rfl hr
    · cases h
  case dup =>
    simp only [okc, beq_iff_eq] at ho
    subst ho
    simp only [pV] at h
    split at h
    · cases h
      exact XS.dup X.here hx rfl hd rfl rfl hr
    · cases h
      exact XS.dup X.here hx rfl hd rfl rfl hr
    · cases h
  case dup2 =>
    simp only [okc, beq_iff_eq] at ho
    subst ho
    simp only [pV] at h
    split at h
    · cases h
      exact XT.dup2 X.here hx rfl hd rfl rfl rfl hr
    · cases h
      exact XT.dup2L X.here hx rfl hd rfl hr
    · cases h
  case dup_x2 =>
    simp only [okc, beq_iff_eq] at ho
    subst ho
    simp only [pV] at h
    split at h
    · cases h
      exact own_dupX2 X.here hx rfl hd rfl rfl rfl rfl hr
    · cases h
  case goto o =>
    simp only [okc, Bool.and_eq_true, beq_iff_eq, decide_eq_true_eq] at ho
    obtain ⟨rfl, h1, h2⟩ := ho
    simp only [pV] at h
    cases h
    exact XS.goto X.here hx rfl (pc0 := pc) (pc' := t) rfl hd h1 h2 hr
  case iinc a j =>
    simp only [okc, Bool.and_eq_true, beq_iff_eq, decide_eq_true_eq] at ho
    obtain ⟨rfl, rfl⟩ := ho
    simp only [pV] at h
    split at h
    · split at h
      · cases h
        exact XS.iinc X.here hx rfl hd (by assumption) (by assumption) hr
      · cases h
    · cases h
  case ldc a =>
    simp only [okc, beq_iff_eq] at ho
    subst ho
    simp only [pV] at h
    split at h
    · rename_i v q
      cases h
      exact X.ldcInt hx hown (mv hZ (hKI _ (own_look_mem _ _ _ q))) (g := mkF m pc ls st) rfl hd _ hr
    · cases h
  case ldc2_w a =>
    simp only [okc, beq_iff_eq] at ho
    subst ho
    simp only [pV] at h
    split at h
    · rename_i v q
      cases h
      exact X.ldc2Long hx hown (mv hZ (hKJ _ (own_look_mem _ _ _ q))) (g := mkF m pc ls st) rfl hd _ hr
    · cases h
  all_goals exact nomatch (show (none : Option (Array Slot × List Value)) = some (ls', st') from h)
theorem prun_ok (X : Stand p l e R s m args below meth c T locs cells slots) (hx : p.tables.exec = Jvm.exec) (hZ : Z.Warmed39 s.vm) (hown : s.vm.findClass own = some m.cls) (hKI : ∀ q ∈ KI, (Jvm.Cond.constant own q.1 q.2).before a0 Z = true) (hKJ : ∀ q ∈ KJ, (Jvm.Cond.constantLong own q.1 q.2).before a0 Z = true) {target : State} {pc' : Nat} {ls' : Array Slot} {st' : List Value} :
    ∀ (L : List El) (pc : Nat) (ls : Array Slot) (st : List Value), Dec c.code L pc pc' = true → prun KI KJ L ls st = some (ls', st') → Steps p.tables e below (T.setTop (mkF m pc' ls' st')) target → Steps p.tables e below (T.setTop (mkF m pc ls st)) target
  | [], pc, ls, st, hD, h, hr => by
    simp only [Dec, beq_iff_eq] at hD
    simp only [prun] at h
    cases h; subst hD
    exact hr
  | (i, n, k, t) :: L, pc, ls, st, hD, h, hr => by
    simp only [Dec, Bool.and_eq_true, decide_eq_true_eq] at hD
    simp only [prun] at h
    split at h
    · rename_i l2 s2 q
      exact pV_ok X hx hZ hown hKI hKJ hD.1 hD.2.1 q (prun_ok X hx hZ hown hKI hKJ L _ l2 s2 hD.2.2 h hr)
    · cases h
end OwnSteps
/-! 2. Where a walk stands (Wk), that it comes to its end (Go), a method's contract (Cnt) -/
def Wk (Z : State) (l : Launch) (p : Program) (e : Env) (R : Room) (s : State) (m : MethodId) (args : Array Value) (below : List Frame) (meth : Method) (c : Code) (own nm : String) (bytes : ByteArray) (maxL : Nat) (ret : Option FieldType) (n0 : Nat) (T : State) (h : Heap) (cells slots : Nat) : Prop :=
  (∃ locs, Stand p l e R s m args below meth c T locs cells slots ∧ Fr n0 locs) ∧ T.heap = h ∧ n0 ≤ h.size ∧ p.tables.exec = Jvm.exec ∧ Z.Warmed39 s.vm ∧ s.vm.findClass own = some m.cls ∧ c.code = bytes ∧ c.maxLocals = maxL ∧ meth.sig.returnType = ret ∧ meth.locks = false ∧ meth.name = nm
def Go (p : Program) (e : Env) (below : List Frame) (s : State) (R : Room) (n0 : Nat) (Q : Option Value → Heap → Prop) (A : State) : Prop :=
  ∃ (s₂ : State) (v : Option Value) (L : List Loc), Steps p.tables e below A s₂ ∧ s₂.status = .running ∧ Ended s₂ below (.returned v) ∧ (Q v s₂.heap ∧ n0 ≤ s₂.heap.size ∧ Fr n0 L) ∧ FrameEnd s (.returned v) s₂ L R.cells R.slots
def Cnt (l : Launch) (Z : State) (y : MethodName) (bytes : ByteArray) (maxL : Nat) (ret : Option FieldType) (rm : Room) (n0 : Nat) (as' : Array Value) (h : Heap) (Q : Option Value → Heap → Prop) : Prop :=
  ∀ ws : List Jvm.Cond, MetFree l y (head1 (Jvm.Cond.code y bytes maxL ret :: ws) rm) (fun a U => a = as' ∧ Z.Warmed39 U.vm ∧ U.heap = h) (fun _ _ _ _ _ => True) (fun _ U o U' => ∃ v L, o = .returned v ∧ (Q v U'.heap ∧ n0 ≤ U'.heap.size ∧ Fr n0 L) ∧ FrameEnd U o U' L rm.cells rm.slots)
theorem Cnt.mk {l : Launch} {Z : State} {y : MethodName} {bytes : ByteArray} {maxL : Nat} {ret : Option FieldType} {rm : Room} {n0 : Nat} {as' : Array Value} {h : Heap} {Q : Option Value → Heap → Prop} (hn : plainFor y = true) (hh : n0 ≤ h.size)
    (H : ∀ p e s m below meth c T, Wk Z l p e rm s m as' below meth c y.cls y.name bytes maxL ret n0 T h 0 0 → Go p e below s rm n0 Q (T.setTop (entryFrame m as' maxL))) : Cnt l Z y bytes maxL ret rm n0 as' h Q := by
  intro ws
  refine MetFree.of_bodySF hn hisR ?_
  intro p e s m args below meth c s₁ Bd hml hP hK
  obtain ⟨rfl, hZ, hq⟩ := hP
  have hX : Stand p l e rm s m args below meth c s₁ [] 0 0 := Stand.of_body Bd
  obtain ⟨s₂, v, L, h1, h2, h3, h4, h5⟩ := H p e s m below meth c s₁ ⟨⟨[], hX, Fr.nil n0⟩, by rw [← hq, Bd.state]; rfl, hh, Bd.exec, hZ, findClass_of_methodNamed Bd.named, Bd.bytes, hml, Bd.returns, Bd.notSynchronized, (name_of_methodNamed Bd.named Bd.method).1⟩
  exact ⟨s₂, _, h1, h2, h3, v, L, rfl, h4, h5⟩
section OwnLaws
variable {Z : State} {l : Launch} {p : Program} {e : Env} {R : Room} {s : State} {m : MethodId} {args : Array Value} {below : List Frame} {meth : Method} {c : Code} {own nm : String} {bytes : ByteArray} {maxL : Nat} {ret : Option FieldType} {n0 : Nat} {T : State} {h : Heap} {cells slots : Nat} {Q : Option Value → Heap → Prop} {a0 : Array Value} {pc : Nat} {ls : Array Slot} {st rest : List Value}
theorem Go.lift {A A' : State} (k : ∀ t, Steps p.tables e below A' t → Steps p.tables e below A t) (g : Go p e below s R n0 Q A') : Go p e below s R n0 Q A := by
  obtain ⟨s2, v, L, h1, r⟩ := g
  exact ⟨s2, v, L, k _ h1, r⟩
theorem Go.cast {g g' : JFrame} (q : g = g') (k : Go p e below s R n0 Q (T.setTop g')) : Go p e below s R n0 Q (T.setTop g) := q ▸ k
theorem Wk.blk (X : Wk Z l p e R s m args below meth c own nm bytes maxL ret n0 T h cells slots) {KI : List (Nat × Int32)} {KJ : List (Nat × Int64)} (hK : (∀ q ∈ KI, (Jvm.Cond.constant own q.1 q.2).before a0 Z = true) ∧ (∀ q ∈ KJ, (Jvm.Cond.constantLong own q.1 q.2).before a0 Z = true)) {L : List El} {pc' : Nat} {ls' : Array Slot} {st' : List Value}
    (hD : Dec bytes L pc pc' = true) (hr : prun KI KJ L ls st = some (ls', st')) (g : Go p e below s R n0 Q (T.setTop (mkF m pc' ls' st'))) : Go p e below s R n0 Q (T.setTop (mkF m pc ls st)) := by
  obtain ⟨⟨locs, Y, N⟩, eT, hn, hx, hZ, hown, hby, hml, hrt, hlk, hnm⟩ := X
  subst hby
  exact g.lift fun t k => prun_ok Y hx hZ hown hK.1 hK.2 L pc ls st hD hr k
theorem Wk.more (X : Wk Z l p e R s m args below meth c own nm bytes maxL ret n0 T h cells slots) {c' s' : Nat} (h1 : cells ≤ c') (h2 : slots ≤ s') : Wk Z l p e R s m args below meth c own nm bytes maxL ret n0 T h c' s' := by
  obtain ⟨⟨locs, Y, N⟩, r⟩ := X
  exact ⟨⟨locs, Y.more h1 h2, N⟩, r⟩
theorem Wk.size (X : Wk Z l p e R s m args below meth c own nm bytes maxL ret n0 T h cells slots) : n0 ≤ h.size := X.2.2.1
/-! branches -/
def cT (cd : ClassFile.Cond) (x y : Int32) : Prop := match cd with | .eq => x = y | .ne => ¬ x = y | .lt => x < y | .ge => ¬ x < y | .gt => y < x | .le => ¬ y < x
def cF (cd : ClassFile.Cond) (x y : Int32) : Prop := match cd with | .eq => ¬ x = y | .ne => x = y | .lt => ¬ x < y | .ge => x < y | .gt => ¬ y < x | .le => y < x
theorem cT_cF (cd : ClassFile.Cond) (x y : Int32) : (if_icmp.holds cd x y = true ∧ cT cd x y) ∨ (if_icmp.holds cd x y = false ∧ cF cd x y) := by
  cases cd <;> simp only [cT, cF]
  · by_cases q : x = y
    · exact Or.inl ⟨(teq q).1, q⟩
    · exact Or.inr ⟨(feq q).1, q⟩
  · by_cases q : x = y
    · exact Or.inr ⟨(teq q).2, q⟩
    · exact Or.inl ⟨(feq q).2, q⟩
  all_goals first
    | (by_cases q : x < y
       · first | exact Or.inl ⟨(tlt q).1, q⟩ | exact Or.inr ⟨(tlt q).2.1, q⟩
       · first | exact Or.inr ⟨(flt q).1, q⟩ | exact Or.inl ⟨(flt q).2.1, q⟩)
    | (by_cases q : y < x
       · first | exact Or.inl ⟨(tlt q).2.2.1, q⟩ | exact Or.inr ⟨(tlt q).2.2.2, q⟩
       · first | exact Or.inr ⟨(flt q).2.2.1, q⟩ | exact Or.inl ⟨(flt q).2.2.2, q⟩)
def lT (cd : ClassFile.Cond) (x y : Int64) : Prop := match cd with | .eq => x = y | .ne => ¬ x = y | .lt => x < y | .ge => ¬ x < y | .gt => y < x | .le => ¬ y < x
def lF (cd : ClassFile.Cond) (x y : Int64) : Prop := match cd with | .eq => ¬ x = y | .ne => x = y | .lt => ¬ x < y | .ge => x < y | .gt => ¬ y < x | .le => y < x
theorem cmpL_W (x y : Int64) : XT.cmpL x y = lcmpW x y := rfl
theorem lT_lF (cd : ClassFile.Cond) (x y : Int64) : (if_icmp.holds cd (XT.cmpL x y) 0 = true ∧ lT cd x y) ∨ (if_icmp.holds cd (XT.cmpL x y) 0 = false ∧ lF cd x y) := by
  rw [cmpL_W]
  rcases cT_cF cd (lcmpW x y) 0 with ⟨a, b⟩ | ⟨a, b⟩
  · refine Or.inl ⟨a, ?_⟩
    cases cd <;> simp only [cT, lT] at b ⊢
    all_goals first | exact (lw_eq x y).mp b | exact fun q => b ((lw_eq x y).mpr q) | exact (lw_lt x y).mp b | exact fun q => b ((lw_lt x y).mpr q) | exact (lw_gt x y).mp b | exact fun q => b ((lw_gt x y).mpr q)
  · refine Or.inr ⟨a, ?_⟩
    cases cd <;> simp only [cF, lF] at b ⊢
    all_goals first | exact (lw_eq x y).mp b | exact fun q => b ((lw_eq x y).mpr q) | exact (lw_lt x y).mp b | exact fun q => b ((lw_lt x y).mpr q) | exact (lw_gt x y).mp b | exact fun q => b ((lw_gt x y).mpr q)
def DecB (b : ByteArray) (pc : Nat) (i : Instr) (o : Int) (t : Nat) : Bool := decide (decode b pc = .ok (i, 3)) && (decide (0 ≤ (pc : Int) + o) && decide (((pc : Int) + o).toNat = t))
theorem DecB.spec {b : ByteArray} {i : Instr} {o : Int} {t : Nat} (hD : DecB b pc i o t = true) : decode b pc = .ok (i, 3) ∧ 0 ≤ (pc : Int) + o ∧ ((pc : Int) + o).toNat = t := by
  simpa only [DecB, Bool.and_eq_true, decide_eq_true_eq] using hD
theorem Wk.icmp (X : Wk Z l p e R s m args below meth c own nm bytes maxL ret n0 T h cells slots) (cd : ClassFile.Cond) (o : Int) (t f : Nat) {x y : Int32} (hD : (DecB bytes pc (.if_icmp cd o) o t && pc + 3 == f) = true)
    (ky : cT cd x y → Go p e below s R n0 Q (T.setTop (mkF m t ls rest))) (kn : cF cd x y → Go p e below s R n0 Q (T.setTop (mkF m f ls rest))) : Go p e below s R n0 Q (T.setTop (mkF m pc ls (.int y :: .int x :: rest))) := by
  obtain ⟨⟨locs, Y, N⟩, eT, hn, hx, hZ, hown, hby, r⟩ := X
  simp only [Bool.and_eq_true, beq_iff_eq] at hD
  obtain ⟨hD, rfl⟩ := hD
  obtain ⟨hd, h1, h2⟩ := DecB.spec hD
  rcases cT_cF cd x y with ⟨a, b⟩ | ⟨a, b⟩
  · exact (ky b).lift fun _ k => XS.icmpYes Y.here hx rfl (pc0 := pc) (pc' := t) rfl (hb hby hd) rfl a h1 h2 k
  · exact (kn b).lift fun _ k => XS.icmpNo Y.here hx rfl (hb hby hd) rfl a k
theorem Wk.ifc (X : Wk Z l p e R s m args below meth c own nm bytes maxL ret n0 T h cells slots) (cd : ClassFile.Cond) (o : Int) (t f : Nat) {x : Int32} (hD : (DecB bytes pc (.ifCond cd o) o t && pc + 3 == f) = true)
    (ky : cT cd x 0 → Go p e below s R n0 Q (T.setTop (mkF m t ls rest))) (kn : cF cd x 0 → Go p e below s R n0 Q (T.setTop (mkF m f ls rest))) : Go p e below s R n0 Q (T.setTop (mkF m pc ls (.int x :: rest))) := by
  obtain ⟨⟨locs, Y, N⟩, eT, hn, hx, hZ, hown, hby, r⟩ := X
  simp only [Bool.and_eq_true, beq_iff_eq] at hD
  obtain ⟨hD, rfl⟩ := hD
  obtain ⟨hd, h1, h2⟩ := DecB.spec hD
  rcases cT_cF cd x 0 with ⟨a, b⟩ | ⟨a, b⟩
  · exact (ky b).lift fun _ k => XS.ifYes Y.here hx rfl (pc0 := pc) (pc' := t) rfl (hb hby hd) rfl ((if0 _ _).trans a) h1 h2 k
  · exact (kn b).lift fun _ k => XS.ifNo Y.here hx rfl (hb hby hd) rfl ((if0 _ _).trans a) k
theorem Wk.lcmp (X : Wk Z l p e R s m args below meth c own nm bytes maxL ret n0 T h cells slots) (cd : ClassFile.Cond) (o : Int) (t f : Nat) {x y : Int64} (hD : (decide (decode bytes pc = .ok (.lcmp, 1)) && (DecB bytes (pc + 1) (.ifCond cd o) o t && pc + 4 == f)) = true)
    (ky : lT cd x y → Go p e below s R n0 Q (T.setTop (mkF m t ls rest))) (kn : lF cd x y → Go p e below s R n0 Q (T.setTop (mkF m f ls rest))) : Go p e below s R n0 Q (T.setTop (mkF m pc ls (.long y :: .long x :: rest))) := by
  obtain ⟨⟨locs, Y, N⟩, eT, hn, hx, hZ, hown, hby, r⟩ := X
  simp only [Bool.and_eq_true, beq_iff_eq, decide_eq_true_eq] at hD
  obtain ⟨hL, hD, rfl⟩ := hD
  obtain ⟨hd, h1, h2⟩ := DecB.spec hD
  rcases lT_lF cd x y with ⟨a, b⟩ | ⟨a, b⟩
  · exact (ky b).lift fun _ k => XT.lcmp Y.here hx rfl (hb hby hL) rfl (XS.ifYes Y.here hx rfl (pc0 := pc + 1) (pc' := t) rfl (hb hby hd) rfl ((if0 _ _).trans a) h1 h2 k)
  · exact (kn b).lift fun _ k => XT.lcmp Y.here hx rfl (hb hby hL) rfl (XS.ifNo Y.here hx rfl (hb hby hd) rfl ((if0 _ _).trans a) k)
theorem Wk.ifnullY (X : Wk Z l p e R s m args below meth c own nm bytes maxL ret n0 T h cells slots) (o : Int) (t : Nat) (hD : DecB bytes pc (.ifnull o) o t = true) (k : Go p e below s R n0 Q (T.setTop (mkF m t ls rest))) : Go p e below s R n0 Q (T.setTop (mkF m pc ls (.null :: rest))) := by
  obtain ⟨⟨locs, Y, N⟩, eT, hn, hx, hZ, hown, hby, r⟩ := X
  obtain ⟨hd, h1, h2⟩ := DecB.spec hD
  exact k.lift fun _ k => XS.ifnullYes Y.here hx rfl (pc0 := pc) (pc' := t) rfl (hb hby hd) rfl h1 h2 k
theorem Wk.ifnullN (X : Wk Z l p e R s m args below meth c own nm bytes maxL ret n0 T h cells slots) (o : Int) (f : Nat) {a : Addr} (hD : (decide (decode bytes pc = .ok (.ifnull o, 3)) && pc + 3 == f) = true) (k : Go p e below s R n0 Q (T.setTop (mkF m f ls rest))) : Go p e below s R n0 Q (T.setTop (mkF m pc ls (.ref a :: rest))) := by
  obtain ⟨⟨locs, Y, N⟩, eT, hn, hx, hZ, hown, hby, r⟩ := X
  simp only [Bool.and_eq_true, beq_iff_eq, decide_eq_true_eq] at hD
  obtain ⟨hd, rfl⟩ := hD
  exact k.lift fun _ k => XS.ifnullNo Y.here hx rfl (hb hby hd) rfl k
theorem Wk.ifnnY (X : Wk Z l p e R s m args below meth c own nm bytes maxL ret n0 T h cells slots) (o : Int) (t : Nat) {a : Addr} (hD : DecB bytes pc (.ifnonnull o) o t = true) (k : Go p e below s R n0 Q (T.setTop (mkF m t ls rest))) : Go p e below s R n0 Q (T.setTop (mkF m pc ls (.ref a :: rest))) := by
  obtain ⟨⟨locs, Y, N⟩, eT, hn, hx, hZ, hown, hby, r⟩ := X
  obtain ⟨hd, h1, h2⟩ := DecB.spec hD
  exact k.lift fun _ k => XT.ifnonnullYes Y.here hx rfl (pc0 := pc) (pc' := t) rfl (hb hby hd) rfl h1 h2 k
theorem Wk.ifnnN (X : Wk Z l p e R s m args below meth c own nm bytes maxL ret n0 T h cells slots) (o : Int) (f : Nat) (hD : (decide (decode bytes pc = .ok (.ifnonnull o, 3)) && pc + 3 == f) = true) (k : Go p e below s R n0 Q (T.setTop (mkF m f ls rest))) : Go p e below s R n0 Q (T.setTop (mkF m pc ls (.null :: rest))) := by
  obtain ⟨⟨locs, Y, N⟩, eT, hn, hx, hZ, hown, hby, r⟩ := X
  simp only [Bool.and_eq_true, beq_iff_eq, decide_eq_true_eq] at hD
  obtain ⟨hd, rfl⟩ := hD
  exact k.lift fun _ k => XT.ifnonnullNo Y.here hx rfl (hb hby hd) rfl k
/-- two references that differ: if_acmpne is taken, if_acmpeq isn't -/
theorem Wk.acmpNeT (X : Wk Z l p e R s m args below meth c own nm bytes maxL ret n0 T h cells slots) (o : Int) (t : Nat) {a b : Addr} (hne : a ≠ b) (hD : DecB bytes pc (.if_acmp .ne o) o t = true) (k : Go p e below s R n0 Q (T.setTop (mkF m t ls rest))) : Go p e below s R n0 Q (T.setTop (mkF m pc ls (.ref b :: .ref a :: rest))) := by
  obtain ⟨⟨locs, Y, N⟩, eT, hn, hx, hZ, hown, hby, r⟩ := X
  obtain ⟨hd, h1, h2⟩ := DecB.spec hD
  exact k.lift fun _ k => XT.acmpYes Y.here hx rfl (pc0 := pc) (pc' := t) rfl (hb hby hd) rfl rfl rfl (by simp [XT.acmp, hne]) h1 h2 k
theorem Wk.acmpEqF (X : Wk Z l p e R s m args below meth c own nm bytes maxL ret n0 T h cells slots) (o : Int) (f : Nat) {a b : Addr} (hne : a ≠ b) (hD : (decide (decode bytes pc = .ok (.if_acmp .eq o, 3)) && pc + 3 == f) = true) (k : Go p e below s R n0 Q (T.setTop (mkF m f ls rest))) : Go p e below s R n0 Q (T.setTop (mkF m pc ls (.ref b :: .ref a :: rest))) := by
  obtain ⟨⟨locs, Y, N⟩, eT, hn, hx, hZ, hown, hby, r⟩ := X
  simp only [Bool.and_eq_true, beq_iff_eq, decide_eq_true_eq] at hD
  obtain ⟨hd, rfl⟩ := hD
  exact k.lift fun _ k => XT.acmpNo Y.here hx rfl (hb hby hd) rfl rfl rfl (by simp [XT.acmp, hne]) k
/-! division -/
def De (b : ByteArray) (pc : Nat) (i : Instr) (n pc' : Nat) : Bool := decide (decode b pc = .ok (i, n)) && pc + n == pc'
theorem De.spec {b : ByteArray} {i : Instr} {n pc' : Nat} (hD : De b pc i n pc' = true) : decode b pc = .ok (i, n) ∧ pc + n = pc' := by
  simpa only [De, Bool.and_eq_true, decide_eq_true_eq, beq_iff_eq] using hD
theorem Wk.irem (X : Wk Z l p e R s m args below meth c own nm bytes maxL ret n0 T h cells slots) (pc' : Nat) {x y : Int32} (hD : De bytes pc .irem 1 pc' = true) (hy : y ≠ 0) (k : Go p e below s R n0 Q (T.setTop (mkF m pc' ls (.int (x % y) :: rest)))) : Go p e below s R n0 Q (T.setTop (mkF m pc ls (.int y :: .int x :: rest))) := by
  obtain ⟨⟨locs, Y, N⟩, eT, hn, hx, hZ, hown, hby, r⟩ := X
  obtain ⟨hd, rfl⟩ := De.spec hD
  exact k.lift fun _ k => iremM Y hx rfl (hb hby hd) rfl hy k
theorem Wk.idiv (X : Wk Z l p e R s m args below meth c own nm bytes maxL ret n0 T h cells slots) (pc' : Nat) {x y : Int32} (hD : De bytes pc .idiv 1 pc' = true) (hy : y ≠ 0) (k : Go p e below s R n0 Q (T.setTop (mkF m pc' ls (.int (x / y) :: rest)))) : Go p e below s R n0 Q (T.setTop (mkF m pc ls (.int y :: .int x :: rest))) := by
  obtain ⟨⟨locs, Y, N⟩, eT, hn, hx, hZ, hown, hby, r⟩ := X
  obtain ⟨hd, rfl⟩ := De.spec hD
  exact k.lift fun _ k => XS.idiv Y.here hx rfl (hb hby hd) rfl hy k
theorem Wk.ldiv (X : Wk Z l p e R s m args below meth c own nm bytes maxL ret n0 T h cells slots) (pc' : Nat) {x y : Int64} (hD : De bytes pc .ldiv 1 pc' = true) (hy : y ≠ 0) (k : Go p e below s R n0 Q (T.setTop (mkF m pc' ls (.long (x / y) :: rest)))) : Go p e below s R n0 Q (T.setTop (mkF m pc ls (.long y :: .long x :: rest))) := by
  obtain ⟨⟨locs, Y, N⟩, eT, hn, hx, hZ, hown, hby, r⟩ := X
  obtain ⟨hd, rfl⟩ := De.spec hD
  exact k.lift fun _ k => XT.ldiv Y.here hx rfl (hb hby hd) rfl hy k
theorem Wk.lrem (X : Wk Z l p e R s m args below meth c own nm bytes maxL ret n0 T h cells slots) (pc' : Nat) {x y : Int64} (hD : De bytes pc .lrem 1 pc' = true) (hy : y ≠ 0) (k : Go p e below s R n0 Q (T.setTop (mkF m pc' ls (.long (x % y) :: rest)))) : Go p e below s R n0 Q (T.setTop (mkF m pc ls (.long y :: .long x :: rest))) := by
  obtain ⟨⟨locs, Y, N⟩, eT, hn, hx, hZ, hown, hby, r⟩ := X
  obtain ⟨hd, rfl⟩ := De.spec hD
  exact k.lift fun _ k => XT.lrem Y.here hx rfl (hb hby hd) rfl hy (by rw [lrem_mod]; exact k)
/-! returns -/
theorem Wk.retG (X : Wk Z l p e R s m args below meth c own nm bytes maxL ret n0 T h cells slots) {i : Instr} {t : FieldType} {w : Value} (hd : decode bytes pc = .ok (i, 1)) (hret : ret = some t) (hnw : narrow t w = w)
    (hi : (i = .ireturn ∧ (t = .int ∨ t = .boolean ∨ t = .byte ∨ t = .char ∨ t = .short) ∧ ∃ z, w = .int z) ∨ (i = .lreturn ∧ t = .long ∧ ∃ z, w = .long z) ∨ (i = .dreturn ∧ t = .double ∧ ∃ z, w = .double z) ∨ (i = .freturn ∧ t = .float ∧ ∃ z, w = .float z) ∨ (i = .areturn ∧ t.isReference = true ∧ w.isRef = true))
    (hc : cells ≤ R.cells) (hs : slots ≤ R.slots) (hq : Q (some w) h) : Go p e below s R n0 Q (T.setTop (mkF m pc ls (w :: rest))) := by
  obtain ⟨⟨locs, Y, N⟩, eT, hn, hx, hZ, hown, hby, hml, hr, hlk, hnm⟩ := X
  obtain ⟨fs, hl, hrun, hended, hW, hsame⟩ := Y.leave (v := some w) (fun q => by rw [hr, hret] at q; cases q) hlk
  refine ⟨T.setFrames fs, some w, locs, retOut Y hx (hr.trans hret) hnw hi (hb hby hd) hl, hrun, hended, ⟨?_, ?_, N⟩, ⟨_, rfl⟩, hW, hsame.mono hc hs⟩
  · show Q (some w) T.heap
    rw [eT]; exact hq
  · show n0 ≤ T.heap.size
    rw [eT]; exact hn
theorem Wk.retI (X : Wk Z l p e R s m args below meth c own nm bytes maxL (some .int) n0 T h cells slots) {z : Int32} (hd : decode bytes pc = .ok (.ireturn, 1)) (hc : cells ≤ R.cells) (hs : slots ≤ R.slots) (hq : Q (some (.int z)) h) : Go p e below s R n0 Q (T.setTop (mkF m pc ls (.int z :: rest))) :=
  X.retG hd rfl rfl (Or.inl ⟨rfl, Or.inl rfl, z, rfl⟩) hc hs hq
theorem Wk.retL (X : Wk Z l p e R s m args below meth c own nm bytes maxL (some .long) n0 T h cells slots) {z : Int64} (hd : decode bytes pc = .ok (.lreturn, 1)) (hc : cells ≤ R.cells) (hs : slots ≤ R.slots) (hq : Q (some (.long z)) h) : Go p e below s R n0 Q (T.setTop (mkF m pc ls (.long z :: rest))) :=
  X.retG hd rfl rfl (Or.inr (Or.inl ⟨rfl, rfl, z, rfl⟩)) hc hs hq
theorem Wk.retA (X : Wk Z l p e R s m args below meth c own nm bytes maxL ret n0 T h cells slots) {t : FieldType} {w : Value} (hd : decode bytes pc = .ok (.areturn, 1)) (hret : ret = some t) (ht : t.isReference = true) (hw : w.isRef = true) (hc : cells ≤ R.cells) (hs : slots ≤ R.slots) (hq : Q (some w) h) : Go p e below s R n0 Q (T.setTop (mkF m pc ls (w :: rest))) :=
  X.retG hd hret (by rcases ref_cases hw with rfl | ⟨z, rfl⟩ <;> cases t <;> first | rfl | simp [FieldType.isReference] at ht) (Or.inr (Or.inr (Or.inr (Or.inr ⟨rfl, ht, hw⟩)))) hc hs hq
theorem Wk.retZ (X : Wk Z l p e R s m args below meth c own nm bytes maxL (some .boolean) n0 T h cells slots) {z : Int32} (hd : decode bytes pc = .ok (.ireturn, 1)) (hc : cells ≤ R.cells) (hs : slots ≤ R.slots) (hz : z = 0 ∨ z = 1) (hq : Q (some (.int z)) h) : Go p e below s R n0 Q (T.setTop (mkF m pc ls (.int z :: rest))) :=
  X.retG hd rfl (by rcases hz with rfl | rfl <;> rfl) (Or.inl ⟨rfl, Or.inr (Or.inl rfl), z, rfl⟩) hc hs hq
theorem Wk.retV (X : Wk Z l p e R s m args below meth c own nm bytes maxL none n0 T h cells slots) (hd : decode bytes pc = .ok (.return_, 1)) (hc : cells ≤ R.cells) (hs : slots ≤ R.slots) (hq : Q none h) : Go p e below s R n0 Q (T.setTop (mkF m pc ls [])) := by
  obtain ⟨⟨locs, Y, N⟩, eT, hn, hx, hZ, hown, hby, hml, hr, hlk, hnm⟩ := X
  obtain ⟨fs, hl, hrun, hended, hW, hsame⟩ := Y.leave (v := none) (fun _ => rfl) hlk
  refine ⟨T.setFrames fs, none, locs, Y.returnOut hx hr (hb hby hd) hl, hrun, hended, ⟨?_, ?_, N⟩, ⟨_, rfl⟩, hW, hsame.mono hc hs⟩
  · show Q none T.heap
    rw [eT]; exact hq
  · show n0 ≤ T.heap.size
    rw [eT]; exact hn
/-! arrays: all their components by a list -/
def AV (Z : State) (h : Heap) (a : Addr) (ty : FieldType) (vs : List Value) : Prop := ∃ cl : Cell, Arr Z h a cl ty ∧ cl.slots.toList = vs ∧ vs.length < 2 ^ 31 ∧ (∀ v ∈ vs, fits ty v = true) ∧ Exa Z h a ("[" ++ ty.toString)
theorem AV.lt {a : Addr} {ty : FieldType} {vs : List Value} (A : AV Z h a ty vs) : a < h.size := by obtain ⟨cl, A, -⟩ := A; exact A.lt
theorem AV.ext {h' : Heap} {a : Addr} {ty : FieldType} {vs : List Value} (A : AV Z h a ty vs) (E : Ext h h') : AV Z h' a ty vs := by obtain ⟨cl, A, q1, q2, q3, q4⟩ := A; exact ⟨cl, A.ext E, q1, q2, q3, q4.ext E⟩
theorem AV.other {h' : Heap} {a b : Addr} {sl : Nat} {v : Value} {ty : FieldType} {vs : List Value} (A : AV Z h a ty vs) (W : Wr h h' b sl v) (ne : a ≠ b) : AV Z h' a ty vs := by obtain ⟨cl, A, q1, q2, q3, q4⟩ := A; exact ⟨cl, A.other W ne, q1, q2, q3, q4.wr W⟩
theorem AV.keep {h' : Heap} {a : Addr} {ws : List Addr} {ty : FieldType} {vs : List Value} (A : AV Z h a ty vs) (K : Keep h h' ws) (ne : a ∉ ws) : AV Z h' a ty vs := by obtain ⟨cl, A, q1, q2, q3, q4⟩ := A; exact ⟨cl, ⟨K.2.1 a cl A.1 ne, A.2⟩, q1, q2, q3, q4.keep K⟩
theorem AV.arv {a : Addr} {ty : FieldType} {vs : List Value} (A : AV Z h a ty vs) (d : Value) : ∃ k, Arv Z h a k ty vs.length.toInt32 vs d := by
  obtain ⟨cl, A, rfl, q2, q3, q4⟩ := A
  have hz : ¬ cl.slots.toList.length.toInt32 < 0 := by rw [Int32.lt_iff_toInt_lt, len_toInt q2]; show ¬ ((_ : Int) < (0 : Int)); omega
  have hs : cl.slots.size = cl.slots.toList.length.toInt32.toNatClampNeg := by
    have := nat_of hz; rw [len_toInt q2] at this; simp only [Array.length_toList] at *; omega
  refine ⟨cl.cls, cl, A, rfl, hs, hz, fun i hi => ?_, fun i hi => ?_⟩
  · rw [List.getD_eq_getElem?_getD, Array.getElem?_toList, Array.getElem?_eq_getElem hi]; rfl
  · rw [List.getD_eq_getElem?_getD, Array.getElem?_toList, Array.getElem?_eq_getElem hi]; exact q3 _ (by simp)
theorem AV.of_arv {a : Addr} {k : ClassId} {ty : FieldType} {vs : List Value} {d : Value} {z : Int32} (A : Arv Z h a k ty z vs d) (hl : z.toNatClampNeg = vs.length) (E : Exa Z h a ("[" ++ ty.toString)) : AV Z h a ty vs := by
  obtain ⟨cl, A, -, S, hz, H, G⟩ := A
  have e : cl.slots.toList = vs := by
    refine List.ext_getElem? fun i => ?_
    rw [Array.getElem?_toList]
    by_cases hi : i < cl.slots.size
    · rw [H i hi, List.getD_eq_getElem?_getD, List.getElem?_eq_getElem (by omega)]; rfl
    · rw [Array.getElem?_eq_none (by omega), List.getElem?_eq_none (by omega)]
  refine ⟨cl, A, e, by rw [← hl]; exact (back32 hz).2, fun v hv => ?_, E⟩
  obtain ⟨i, hi, rfl⟩ := List.getElem_of_mem hv
  have q := G i (by omega)
  rwa [List.getD_eq_getElem?_getD, List.getElem?_eq_getElem hi] at q
theorem AV.exa {a : Addr} {ty : FieldType} {vs : List Value} (A : AV Z h a ty vs) : Exa Z h a ("[" ++ ty.toString) := by obtain ⟨cl, -, -, -, -, E⟩ := A; exact E
theorem fits_default {ty : FieldType} : fits ty (defaultValue ty) = true := by cases ty <;> rfl
theorem Wk.newarr (X : Wk Z l p e R s m args below meth c own nm bytes maxL ret n0 T h cells slots) (pc' cap : Nat) {aty : ArrayType} {ty : FieldType} {n : Int32} (w : (Jvm.Cond.arrayClass ty).before a0 Z = true) (hty : newarray.typeOf aty = ty) (hD : De bytes pc (.newarray aty) 2 pc' = true) (hn : ¬ n < 0) (hcap : n.toNatClampNeg ≤ cap) (hrm : (decide (cap * 8 ≤ 536870912) && (decide (cells + 1 ≤ R.cells) && decide (slots + cap ≤ R.slots))) = true)
    (k : ∀ T' h', Wk Z l p e R s m args below meth c own nm bytes maxL ret n0 T' h' (cells + 1) (slots + cap) → Ext h h' → AV Z h' h.size ty (List.replicate n.toNatClampNeg (defaultValue ty)) → Go p e below s R n0 Q (T'.setTop (mkF m pc' ls (.ref h.size :: rest)))) : Go p e below s R n0 Q (T.setTop (mkF m pc ls (.int n :: rest))) := by
  obtain ⟨⟨locs, Y, N⟩, eT, hn0, hx, hZ, hown, hby, hml, hrt, hlk, hnm⟩ := X
  obtain ⟨hd, rfl⟩ := De.spec hD
  subst hty
  simp only [Bool.and_eq_true, decide_eq_true_eq] at hrm
  obtain ⟨T', h', cA, Y', e', E, A, E2, stp⟩ := newPE Y hx hZ w eT (g := mkF m pc ls (.int n :: rest)) rfl (hb hby hd) rfl hn hcap hrm.1 hrm.2.1 hrm.2.2 (ad := "[" ++ (newarray.typeOf aty).toString) rfl
  refine (k T' h' ⟨⟨locs, Y', N⟩, e', Nat.le_trans hn0 E.1, hx, hZ, hown, hby, hml, hrt, hlk, hnm⟩ E ⟨_, A, by simp [newA], ?_, ?_, E2⟩).lift stp
  · rw [List.length_replicate]; exact (back32 hn).2
  · intro v hv
    rw [(List.mem_replicate.mp hv).2]; exact fits_default
theorem Wk.baload (X : Wk Z l p e R s m args below meth c own nm bytes maxL ret n0 T h cells slots) (pc' : Nat) {a : Addr} {vs : List Value} {j : Int32} {v : Value} (A : AV Z h a .byte vs) (hD : De bytes pc .baload 1 pc' = true) (hj : ¬ j < 0) (hv : vs[j.toNatClampNeg]? = some v) (k : Go p e below s R n0 Q (T.setTop (mkF m pc' ls (v :: rest)))) : Go p e below s R n0 Q (T.setTop (mkF m pc ls (.int j :: .ref a :: rest))) := by
  obtain ⟨⟨locs, Y, N⟩, eT, hn, hx, hZ, hown, hby, hml, hrt, hlk, hnm⟩ := X
  obtain ⟨hd, rfl⟩ := De.spec hD
  obtain ⟨cl, A, rfl, q2, q3, q4⟩ := A
  rw [Array.getElem?_toList] at hv
  have hlt := (Array.getElem?_eq_some_iff.mp hv).1
  exact k.lift fun t k => Y.baloadBytes hx (by rw [eT]; exact A.1) (State.isArrayOf_alike hZ.alike A.2.1) A.2.2 (fun q => q.elim hj fun q => absurd hlt (Nat.not_lt.mpr q)) hv (g := mkF m pc ls (.int j :: .ref a :: rest)) rfl rfl (hb hby hd) t k
theorem Wk.iaload (X : Wk Z l p e R s m args below meth c own nm bytes maxL ret n0 T h cells slots) (pc' : Nat) {a : Addr} {vs : List Value} {j : Int32} {v : Value} (A : AV Z h a .int vs) (hD : De bytes pc .iaload 1 pc' = true) (hj : ¬ j < 0) (hv : vs[j.toNatClampNeg]? = some v) (k : Go p e below s R n0 Q (T.setTop (mkF m pc' ls (v :: rest)))) : Go p e below s R n0 Q (T.setTop (mkF m pc ls (.int j :: .ref a :: rest))) := by
  obtain ⟨⟨locs, Y, N⟩, eT, hn, hx, hZ, hown, hby, hml, hrt, hlk, hnm⟩ := X
  obtain ⟨hd, rfl⟩ := De.spec hD
  obtain ⟨cl, A, rfl, q2, q3, q4⟩ := A
  rw [Array.getElem?_toList] at hv
  have hlt := (Array.getElem?_eq_some_iff.mp hv).1
  exact k.lift fun t k => Y.iaload hx (by rw [eT]; exact A.1) (State.isArrayOf_alike hZ.alike A.2.1) A.2.2 (fun q => q.elim hj fun q => absurd hlt (Nat.not_lt.mpr q)) hv (g := mkF m pc ls (.int j :: .ref a :: rest)) rfl rfl (hb hby hd) t k
theorem Wk.laload (X : Wk Z l p e R s m args below meth c own nm bytes maxL ret n0 T h cells slots) (pc' : Nat) {a : Addr} {vs : List Value} {j : Int32} {v : Value} (A : AV Z h a .long vs) (hD : De bytes pc .laload 1 pc' = true) (hj : ¬ j < 0) (hv : vs[j.toNatClampNeg]? = some v) (k : Go p e below s R n0 Q (T.setTop (mkF m pc' ls (v :: rest)))) : Go p e below s R n0 Q (T.setTop (mkF m pc ls (.int j :: .ref a :: rest))) := by
  obtain ⟨⟨locs, Y, N⟩, eT, hn, hx, hZ, hown, hby, hml, hrt, hlk, hnm⟩ := X
  obtain ⟨hd, rfl⟩ := De.spec hD
  obtain ⟨cl, A, rfl, q2, q3, q4⟩ := A
  rw [Array.getElem?_toList] at hv
  have hlt := (Array.getElem?_eq_some_iff.mp hv).1
  exact k.lift fun t k => Y.laload hx (by rw [eT]; exact A.1) (State.isArrayOf_alike hZ.alike A.2.1) A.2.2 (fun q => q.elim hj fun q => absurd hlt (Nat.not_lt.mpr q)) hv (g := mkF m pc ls (.int j :: .ref a :: rest)) rfl rfl (hb hby hd) t k
theorem Wk.saload (X : Wk Z l p e R s m args below meth c own nm bytes maxL ret n0 T h cells slots) (pc' : Nat) {a : Addr} {vs : List Value} {j : Int32} {v : Value} (A : AV Z h a .short vs) (hD : De bytes pc .saload 1 pc' = true) (hj : ¬ j < 0) (hv : vs[j.toNatClampNeg]? = some v) (k : Go p e below s R n0 Q (T.setTop (mkF m pc' ls (v :: rest)))) : Go p e below s R n0 Q (T.setTop (mkF m pc ls (.int j :: .ref a :: rest))) := by
  obtain ⟨⟨locs, Y, N⟩, eT, hn, hx, hZ, hown, hby, hml, hrt, hlk, hnm⟩ := X
  obtain ⟨hd, rfl⟩ := De.spec hD
  obtain ⟨cl, A, rfl, q2, q3, q4⟩ := A
  rw [Array.getElem?_toList] at hv
  have hlt := (Array.getElem?_eq_some_iff.mp hv).1
  exact k.lift fun t k => Y.saload hx (by rw [eT]; exact A.1) (State.isArrayOf_alike hZ.alike A.2.1) A.2.2 (fun q => q.elim hj fun q => absurd hlt (Nat.not_lt.mpr q)) hv (g := mkF m pc ls (.int j :: .ref a :: rest)) rfl rfl (hb hby hd) t k
theorem Wk.alen (X : Wk Z l p e R s m args below meth c own nm bytes maxL ret n0 T h cells slots) (pc' : Nat) {a : Addr} {vs : List Value} {ty : FieldType} {n : Int32} (A : AV Z h a ty vs) (hD : De bytes pc .arraylength 1 pc' = true) (hl : vs.length.toInt32 = n) (k : Go p e below s R n0 Q (T.setTop (mkF m pc' ls (.int n :: rest)))) : Go p e below s R n0 Q (T.setTop (mkF m pc ls (.ref a :: rest))) := by
  obtain ⟨⟨locs, Y, N⟩, eT, hn, hx, hZ, hown, hby, hml, hrt, hlk, hnm⟩ := X
  obtain ⟨hd, rfl⟩ := De.spec hD
  obtain ⟨cl, A, rfl, q2, q3, q4⟩ := A
  subst hl
  exact k.lift fun t k => Y.arraylength hx (by rw [eT]; exact A.1) (State.isArrayOf_alike hZ.alike A.2.1) (g := mkF m pc ls (.ref a :: rest)) rfl rfl (hb hby hd) t (by simpa using k)
theorem Wk.bastore (X : Wk Z l p e R s m args below meth c own nm bytes maxL ret n0 T h cells slots) (pc' : Nat) {a : Addr} {vs : List Value} {j : Int32} {x x' : Int32} (hx' : nar .byte x = x') (A : AV Z h a .byte vs) (hD : De bytes pc .bastore 1 pc' = true) (hj : ¬ j < 0) (hl : j.toNatClampNeg < vs.length) (ha : n0 ≤ a)
    (k : ∀ T' h', Wk Z l p e R s m args below meth c own nm bytes maxL ret n0 T' h' cells slots → Wr h h' a j.toNatClampNeg (.int x') → AV Z h' a .byte (vs.set j.toNatClampNeg (.int x')) → Go p e below s R n0 Q (T'.setTop (mkF m pc' ls rest))) : Go p e below s R n0 Q (T.setTop (mkF m pc ls (.int x :: .int j :: .ref a :: rest))) := by
  obtain ⟨⟨locs, Y, N⟩, eT, hn, hx, hZ, hown, hby, hml, hrt, hlk, hnm⟩ := X
  obtain ⟨hd, rfl⟩ := De.spec hD
  obtain ⟨cl, A, rfl, q2, q3, q4⟩ := A
  subst hx'
  rw [Array.length_toList] at hl
  obtain ⟨T', h', Y', e', W, stp⟩ := stB Y hx hZ eT A (fun q => q.elim hj fun q => absurd hl (Nat.not_lt.mpr q)) (g := mkF m pc ls (.int x :: .int j :: .ref a :: rest)) rfl rfl (hb hby hd)
  refine (k T' h' ⟨⟨_, Y', Fr.snoc Y' N ha⟩, e', by rw [W.size]; exact hn, hx, hZ, hown, hby, hml, hrt, hlk, hnm⟩ W ⟨_, Arr.same W A, by simp [Cell.setSlot], by simpa using q2, fun v hv => ?_, q4.wr W⟩).lift stp
  rcases List.mem_or_eq_of_mem_set hv with q | rfl
  · exact q3 _ q
  · exact fits_nar_byte _
theorem Wk.iastore (X : Wk Z l p e R s m args below meth c own nm bytes maxL ret n0 T h cells slots) (pc' : Nat) {a : Addr} {vs : List Value} {j : Int32} {x : Int32} (A : AV Z h a .int vs) (hD : De bytes pc .iastore 1 pc' = true) (hj : ¬ j < 0) (hl : j.toNatClampNeg < vs.length) (ha : n0 ≤ a)
    (k : ∀ T' h', Wk Z l p e R s m args below meth c own nm bytes maxL ret n0 T' h' cells slots → Wr h h' a j.toNatClampNeg (.int x) → AV Z h' a .int (vs.set j.toNatClampNeg (.int x)) → Go p e below s R n0 Q (T'.setTop (mkF m pc' ls rest))) : Go p e below s R n0 Q (T.setTop (mkF m pc ls (.int x :: .int j :: .ref a :: rest))) := by
  obtain ⟨⟨locs, Y, N⟩, eT, hn, hx, hZ, hown, hby, hml, hrt, hlk, hnm⟩ := X
  obtain ⟨hd, rfl⟩ := De.spec hD
  obtain ⟨cl, A, rfl, q2, q3, q4⟩ := A
  rw [Array.length_toList] at hl
  obtain ⟨T', h', Y', e', W, stp⟩ := stI Y hx hZ eT A (fun q => q.elim hj fun q => absurd hl (Nat.not_lt.mpr q)) (g := mkF m pc ls (.int x :: .int j :: .ref a :: rest)) rfl rfl (hb hby hd)
  refine (k T' h' ⟨⟨_, Y', Fr.snoc Y' N ha⟩, e', by rw [W.size]; exact hn, hx, hZ, hown, hby, hml, hrt, hlk, hnm⟩ W ⟨_, Arr.same W A, by simp [Cell.setSlot], by simpa using q2, fun v hv => ?_, q4.wr W⟩).lift stp
  rcases List.mem_or_eq_of_mem_set hv with q | rfl
  · exact q3 _ q
  · rfl
theorem Wk.lastore (X : Wk Z l p e R s m args below meth c own nm bytes maxL ret n0 T h cells slots) (pc' : Nat) {a : Addr} {vs : List Value} {j : Int32} {x : Int64} (A : AV Z h a .long vs) (hD : De bytes pc .lastore 1 pc' = true) (hj : ¬ j < 0) (hl : j.toNatClampNeg < vs.length) (ha : n0 ≤ a)
    (k : ∀ T' h', Wk Z l p e R s m args below meth c own nm bytes maxL ret n0 T' h' cells slots → Wr h h' a j.toNatClampNeg (.long x) → AV Z h' a .long (vs.set j.toNatClampNeg (.long x)) → Go p e below s R n0 Q (T'.setTop (mkF m pc' ls rest))) : Go p e below s R n0 Q (T.setTop (mkF m pc ls (.long x :: .int j :: .ref a :: rest))) := by
  obtain ⟨⟨locs, Y, N⟩, eT, hn, hx, hZ, hown, hby, hml, hrt, hlk, hnm⟩ := X
  obtain ⟨hd, rfl⟩ := De.spec hD
  obtain ⟨cl, A, rfl, q2, q3, q4⟩ := A
  rw [Array.length_toList] at hl
  obtain ⟨T', h', Y', e', W, stp⟩ := stJ Y hx hZ eT A (fun q => q.elim hj fun q => absurd hl (Nat.not_lt.mpr q)) (g := mkF m pc ls (.long x :: .int j :: .ref a :: rest)) rfl rfl (hb hby hd)
  refine (k T' h' ⟨⟨_, Y', Fr.snoc Y' N ha⟩, e', by rw [W.size]; exact hn, hx, hZ, hown, hby, hml, hrt, hlk, hnm⟩ W ⟨_, Arr.same W A, by simp [Cell.setSlot], by simpa using q2, fun v hv => ?_, q4.wr W⟩).lift stp
  rcases List.mem_or_eq_of_mem_set hv with q | rfl
  · exact q3 _ q
  · rfl
theorem Wk.sastore (X : Wk Z l p e R s m args below meth c own nm bytes maxL ret n0 T h cells slots) (pc' : Nat) {a : Addr} {vs : List Value} {j : Int32} {x x' : Int32} (hx' : nar .short x = x') (A : AV Z h a .short vs) (hD : De bytes pc .sastore 1 pc' = true) (hj : ¬ j < 0) (hl : j.toNatClampNeg < vs.length) (ha : n0 ≤ a)
    (k : ∀ T' h', Wk Z l p e R s m args below meth c own nm bytes maxL ret n0 T' h' cells slots → Wr h h' a j.toNatClampNeg (.int x') → AV Z h' a .short (vs.set j.toNatClampNeg (.int x')) → Go p e below s R n0 Q (T'.setTop (mkF m pc' ls rest))) : Go p e below s R n0 Q (T.setTop (mkF m pc ls (.int x :: .int j :: .ref a :: rest))) := by
  obtain ⟨⟨locs, Y, N⟩, eT, hn, hx, hZ, hown, hby, hml, hrt, hlk, hnm⟩ := X
  obtain ⟨hd, rfl⟩ := De.spec hD
  obtain ⟨cl, A, rfl, q2, q3, q4⟩ := A
  subst hx'
  rw [Array.length_toList] at hl
  obtain ⟨T', h', Y', e', W, stp⟩ := stS Y hx hZ eT A (fun q => q.elim hj fun q => absurd hl (Nat.not_lt.mpr q)) (g := mkF m pc ls (.int x :: .int j :: .ref a :: rest)) rfl rfl (hb hby hd)
  refine (k T' h' ⟨⟨_, Y', Fr.snoc Y' N ha⟩, e', by rw [W.size]; exact hn, hx, hZ, hown, hby, hml, hrt, hlk, hnm⟩ W ⟨_, Arr.same W A, by simp [Cell.setSlot], by simpa using q2, fun v hv => ?_, q4.wr W⟩).lift stp
  rcases List.mem_or_eq_of_mem_set hv with q | rfl
  · exact q3 _ q
  · exact fits_nar_short _
theorem Wk.getf (X : Wk Z l p e R s m args below meth c own nm bytes maxL ret n0 T h cells slots) (pc' : Nat) {index : Nat} {O n d : String} {a : Addr} {v : Value} (w : (Jvm.Cond.fieldLink own index O n d).before a0 Z = true) (F : Fld Z h a O n d v) (hD : De bytes pc (.getfield index) 3 pc' = true)
    (k : ∀ T', Wk Z l p e R s m args below meth c own nm bytes maxL ret n0 T' h cells slots → Go p e below s R n0 Q (T'.setTop (mkF m pc' ls (v :: rest)))) : Go p e below s R n0 Q (T.setTop (mkF m pc ls (.ref a :: rest))) := by
  obtain ⟨⟨locs, Y, N⟩, eT, hn, hx, hZ, hown, hby, hml, hrt, hlk, hnm⟩ := X
  obtain ⟨hd, rfl⟩ := De.spec hD
  obtain ⟨T', Y', e', stp⟩ := getF Y hx hZ hown (host := "") (Or.inl w) Via.refl eT F (g := mkF m pc ls (.ref a :: rest)) rfl rfl (hb hby hd)
  exact (k T' ⟨⟨_, Y', N⟩, e', hn, hx, hZ, hown, hby, hml, hrt, hlk, hnm⟩).lift stp
theorem Wk.putf (X : Wk Z l p e R s m args below meth c own nm bytes maxL ret n0 T h cells slots) (pc' : Nat) {index kk : Nat} {O n d C : String} {a : Addr} {v old : Value} {ty : FieldType} (w : (Jvm.Cond.fieldLink own index O n d).before a0 Z = true) (F : Fld Z h a O n d old) (E : Exa Z h a C) (L : (Jvm.Cond.lays C O n d).before a0 Z = true ∨ ((Jvm.Cond.laysFinal C O n d).before a0 Z = true ∧ own = O ∧ nm = "<init>")) (wi : (Jvm.Cond.instantiable C kk).before a0 Z = true) (hty : parseFieldDescriptor d = some ty) (hnw : narrow ty v = v) (hf : fits ty v = true) (ha : n0 ≤ a) (hD : De bytes pc (.putfield index) 3 pc' = true)
    (k : ∀ T' h', Wk Z l p e R s m args below meth c own nm bytes maxL ret n0 T' h' cells slots → Wr h h' a (RoadKit.slotOf Z O n d) v → Go p e below s R n0 Q (T'.setTop (mkF m pc' ls rest))) : Go p e below s R n0 Q (T.setTop (mkF m pc ls (v :: .ref a :: rest))) := by
  obtain ⟨⟨locs, Y, N⟩, eT, hn, hx, hZ, hown, hby, hml, hrt, hlk, hnm⟩ := X
  obtain ⟨hd, rfl⟩ := De.spec hD
  obtain ⟨T', h', Y', e', W, stp⟩ := putF Y hx hZ hown (host := "") (Or.inl w) Via.refl eT F E (L.imp id fun q => ⟨q.1, q.2.1, hnm.trans q.2.2⟩) wi hty hnw hf (g := mkF m pc ls (v :: .ref a :: rest)) rfl rfl (hb hby hd)
  exact (k T' h' ⟨⟨_, Y', Fr.snoc Y' N ha⟩, e', by rw [W.size]; exact hn, hx, hZ, hown, hby, hml, hrt, hlk, hnm⟩ W).lift stp
theorem Wk.newobj (X : Wk Z l p e R s m args below meth c own nm bytes maxL ret n0 T h cells slots) (pc' : Nat) {index n : Nat} {C : String} (w : (Jvm.Cond.classLink own index C).before a0 Z = true) (wi : (Jvm.Cond.instantiable C n).before a0 Z = true) (wz : (Jvm.Cond.initialized C).before a0 Z = true) (hD : De bytes pc (.new index) 3 pc' = true) (hrm : (decide (cells + 1 ≤ R.cells) && decide (slots + n ≤ R.slots)) = true)
    (k : ∀ T' h', Wk Z l p e R s m args below meth c own nm bytes maxL ret n0 T' h' (cells + 1) (slots + n) → Ext h h' → Exa Z h' h.size C → (∀ {O nm d : String} {ty : FieldType}, Laid Z a0 C O nm d → parseFieldDescriptor d = some ty → Fld Z h' h.size O nm d (defaultValue ty)) → Go p e below s R n0 Q (T'.setTop (mkF m pc' ls (.ref h.size :: st)))) : Go p e below s R n0 Q (T.setTop (mkF m pc ls st)) := by
  obtain ⟨⟨locs, Y, N⟩, eT, hn, hx, hZ, hown, hby, hml, hrt, hlk, hnm⟩ := X
  obtain ⟨hd, rfl⟩ := De.spec hD
  simp only [Bool.and_eq_true, decide_eq_true_eq] at hrm
  obtain ⟨T', h', Y', e', E, A, D, -, stp⟩ := newO Y hx hZ hown w wi wz eT (g := mkF m pc ls st) rfl (hb hby hd) hrm.1 hrm.2
  exact (k T' h' ⟨⟨_, Y', N⟩, e', Nat.le_trans hn E.1, hx, hZ, hown, hby, hml, hrt, hlk, hnm⟩ E A D).lift stp
theorem Wk.initO (X : Wk Z l p e R s m args below meth c own nm bytes maxL ret n0 T h cells slots) (pc' W : Nat) {index : Nat} {a : Addr} (w1 : (Jvm.Cond.methodLink own index Lib.objectInit).before a0 Z = true) (w2 : (Jvm.Cond.instanceMethod Lib.objectInit).before a0 Z = true) (w3 : (Jvm.Cond.code Lib.objectInit ⟨#[0xb1]⟩ 1 none).before a0 Z = true) (hsz : ls.size = maxL) (hW : (rest.map fun v => v.category).sum = W) (hD : De bytes pc (.invokespecial index) 3 pc' = true) (hrm : (decide (1 ≤ R.frames) && decide (W + 12 ≤ R.locals)) = true)
    (k : ∀ T', Wk Z l p e R s m args below meth c own nm bytes maxL ret n0 T' h cells slots → Go p e below s R n0 Q (T'.setTop (mkF m pc' ls rest))) : Go p e below s R n0 Q (T.setTop (mkF m pc ls (.ref a :: rest))) := by
  obtain ⟨⟨locs, Y, N⟩, eT, hn, hx, hZ, hown, hby, hml, hrt, hlk, hnm⟩ := X
  obtain ⟨hd, rfl⟩ := De.spec hD
  simp only [Bool.and_eq_true, decide_eq_true_eq] at hrm
  obtain ⟨T', Y', e', stp⟩ := RoadKit.initO Y hx hZ hown w1 w2 w3 eT (g := mkF m pc ls (.ref a :: rest)) rfl (hsz.trans hml.symm) rfl (hb hby hd) hrm.1 (W := W) (by show 2 * 0 + _ ≤ _; omega) hrm.2
  exact (k T' ⟨⟨_, Y', N⟩, e', hn, hx, hZ, hown, hby, hml, hrt, hlk, hnm⟩).lift stp
theorem Wk.callS (X : Wk Z l p e R s m args below meth c own nm bytes maxL ret n0 T h cells slots) (pc' W : Nat) {y : MethodName} {yb : ByteArray} {yml : Nat} {yret : Option FieldType} {rm : Room} {Q' : Option Value → Heap → Prop} {argsL : List Value} {ps : List FieldType} {r : Option FieldType} {index : Nat} (K : Cnt l Z y yb yml yret rm n0 argsL.toArray h Q') (w1 : (Jvm.Cond.methodLink own index y).before a0 Z = true) (w2 : (Jvm.Cond.static y).before a0 Z = true) (w3 : (Jvm.Cond.initialized y.cls).before a0 Z = true) (w4 : (Jvm.Cond.code y yb yml yret).before a0 Z = true) (hy : (decide (y.cls ≠ "java/lang/invoke/MethodHandle") && decide (y.cls ≠ "java/lang/invoke/VarHandle")) = true) (hpd : parseMethodDescriptor y.desc = some ⟨ps, r⟩) (hlen : argsL.length = ps.length) (hst : st = argsL.reverse ++ rest) (hsz : ls.size = maxL) (hW : (rest.map fun v => v.category).sum = W) (hD : De bytes pc (.invokestatic index) 3 pc' = true) (hrm : (decide (rm.frames + 1 ≤ R.frames) && (decide (W + (yml + 11) + rm.locals ≤ R.locals) && (decide (cells + rm.cells ≤ R.cells) && decide (slots + rm.slots ≤ R.slots)))) = true)
    (k : ∀ T' h' v, Wk Z l p e R s m args below meth c own nm bytes maxL ret n0 T' h' (cells + rm.cells) (slots + rm.slots) → Q' v h' → Go p e below s R n0 Q (T'.setTop (mkF m pc' ls (v.toList ++ rest)))) : Go p e below s R n0 Q (T.setTop (mkF m pc ls st)) := by
  obtain ⟨⟨locs, Y, N⟩, eT, hn, hx, hZ, hown, hby, hml, hrt, hlk, hnm⟩ := X
  obtain ⟨hd, rfl⟩ := De.spec hD
  simp only [Bool.and_eq_true, decide_eq_true_eq] at hrm hy
  obtain ⟨v, _, ⟨U', L', c', s'⟩, -, Y', ⟨Lc, hq, el, ec, es⟩, stp⟩ := Jvm.LawKit.callS Y hx (y := y) hown (mvT hZ w1) (mvT hZ w2) (mvT hZ w3) (mvT hZ w4) hy (backOf (W := W) (Q := fun v h L => Q' v h ∧ n0 ≤ h.size ∧ Fr n0 L) (K []) hZ w4 w3 hrm.1 hrm.2.1) (g := mkF m pc ls st) rfl (hsz.trans hml.symm) (argsL := argsL) (rest := rest) (lenOf hpd hlen) hst (by show 2 * 0 + _ ≤ _; omega) (hb hby hd) (fun _ _ => ⟨rfl, eT, hrm.2.2.1, hrm.2.2.2⟩)
  dsimp only [Pt.U, Pt.locs, Pt.cells, Pt.slots] at Y' el ec es stp hq
  subst el ec es
  exact (k U' U'.heap v ⟨⟨_, Y', N.app hq.2.2⟩, rfl, hq.2.1, hx, hZ, hown, hby, hml, hrt, hlk, hnm⟩ hq.1).lift stp
theorem Wk.callI (X : Wk Z l p e R s m args below meth c own nm bytes maxL ret n0 T h cells slots) (pc' W : Nat) {y : MethodName} {yb : ByteArray} {yml : Nat} {rm : Room} {Q' : Option Value → Heap → Prop} {argsL : List Value} {ps : List FieldType} {r : Option FieldType} {index : Nat} {a : Addr} (K : Cnt l Z y yb yml none rm n0 (.ref a :: argsL).toArray h Q') (hnm' : y.name = "<init>") (w1 : (Jvm.Cond.methodLink own index y).before a0 Z = true) (w2 : (Jvm.Cond.instanceMethod y).before a0 Z = true) (w3 : (Jvm.Cond.initialized y.cls).before a0 Z = true) (w4 : (Jvm.Cond.code y yb yml none).before a0 Z = true) (hy : (decide (y.cls ≠ "java/lang/invoke/MethodHandle") && decide (y.cls ≠ "java/lang/invoke/VarHandle")) = true) (hpd : parseMethodDescriptor y.desc = some ⟨ps, r⟩) (hlen : argsL.length = ps.length) (hst : st = argsL.reverse ++ .ref a :: rest) (hsz : ls.size = maxL) (hW : (rest.map fun v => v.category).sum = W) (hD : De bytes pc (.invokespecial index) 3 pc' = true) (hrm : (decide (rm.frames + 1 ≤ R.frames) && (decide (W + (yml + 11) + rm.locals ≤ R.locals) && (decide (cells + rm.cells ≤ R.cells) && decide (slots + rm.slots ≤ R.slots)))) = true)
    (k : ∀ T' h' v, Wk Z l p e R s m args below meth c own nm bytes maxL ret n0 T' h' (cells + rm.cells) (slots + rm.slots) → Q' v h' → Go p e below s R n0 Q (T'.setTop (mkF m pc' ls (v.toList ++ rest)))) : Go p e below s R n0 Q (T.setTop (mkF m pc ls st)) := by
  obtain ⟨⟨locs, Y, N⟩, eT, hn, hx, hZ, hown, hby, hml, hrt, hlk, hnm⟩ := X
  obtain ⟨hd, rfl⟩ := De.spec hD
  simp only [Bool.and_eq_true, decide_eq_true_eq] at hrm hy
  obtain ⟨v, _, ⟨U', L', c', s'⟩, -, Y', ⟨Lc, hq, el, ec, es⟩, stp⟩ := Y.specialBack hx (y := y) hnm' hown (mvT hZ w1) (mvT hZ w2) (mvT hZ w4) hy (backOf (W := W) (Q := fun v h L => Q' v h ∧ n0 ≤ h.size ∧ Fr n0 L) (K []) hZ w4 w3 hrm.1 hrm.2.1) (g := mkF m pc ls st) rfl (hsz.trans hml.symm) (Steps.refl _) (a := a) (argsL := argsL) (rest := rest) (lenOf hpd hlen) hst (by show 2 * 0 + _ ≤ _; omega) (hb hby hd) (fun _ _ => ⟨rfl, eT, hrm.2.2.1, hrm.2.2.2⟩)
  dsimp only [Pt.U, Pt.locs, Pt.cells, Pt.slots] at Y' el ec es stp hq
  subst el ec es
  exact (k U' U'.heap v ⟨⟨_, Y', N.app hq.2.2⟩, rfl, hq.2.1, hx, hZ, hown, hby, hml, hrt, hlk, hnm⟩ hq.1).lift fun _ k => stp.trans k
theorem Wk.callV (X : Wk Z l p e R s m args below meth c own nm bytes maxL ret n0 T h cells slots) (pc' W : Nat) {y : MethodName} {yb : ByteArray} {yml : Nat} {yret : Option FieldType} {rm : Room} {Q' : Option Value → Heap → Prop} {argsL : List Value} {ps : List FieldType} {r : Option FieldType} {index : Nat} {b : Addr} {C : String} (E : Exa Z h b C) (K : Cnt l Z y yb yml yret rm n0 (.ref b :: argsL).toArray h Q') (w1 : (Jvm.Cond.methodLink own index y).before a0 Z = true) (w2 : (Jvm.Cond.declares y).before a0 Z = true) (w5 : (Jvm.Cond.selects C y y).before a0 Z = true) (w6 : (Jvm.Cond.instanceMethod y).before a0 Z = true) (w3 : (Jvm.Cond.initialized y.cls).before a0 Z = true) (w4 : (Jvm.Cond.code y yb yml yret).before a0 Z = true) (hy : (decide (y.cls ≠ "java/lang/invoke/MethodHandle") && decide (y.cls ≠ "java/lang/invoke/VarHandle")) = true) (hpd : parseMethodDescriptor y.desc = some ⟨ps, r⟩) (hlen : argsL.length = ps.length) (hst : st = argsL.reverse ++ .ref b :: rest) (hsz : ls.size = maxL) (hW : (rest.map fun v => v.category).sum = W) (hD : De bytes pc (.invokevirtual index) 3 pc' = true) (hrm : (decide (rm.frames + 1 ≤ R.frames) && (decide (W + (yml + 11) + rm.locals ≤ R.locals) && (decide (cells + rm.cells ≤ R.cells) && decide (slots + rm.slots ≤ R.slots)))) = true)
    (k : ∀ T' h' v, Wk Z l p e R s m args below meth c own nm bytes maxL ret n0 T' h' (cells + rm.cells) (slots + rm.slots) → Q' v h' → Go p e below s R n0 Q (T'.setTop (mkF m pc' ls (v.toList ++ rest)))) : Go p e below s R n0 Q (T.setTop (mkF m pc ls st)) := by
  obtain ⟨⟨locs, Y, N⟩, eT, hn, hx, hZ, hown, hby, hml, hrt, hlk, hnm⟩ := X
  obtain ⟨hd, rfl⟩ := De.spec hD
  simp only [Bool.and_eq_true, decide_eq_true_eq] at hrm hy
  obtain ⟨cq, kq, qa, qb, qc⟩ := isOf hZ eT E
  obtain ⟨v, _, ⟨U', L', c', s'⟩, -, Y', ⟨Lc, hq, el, ec, es⟩, stp⟩ := Y.virtualBack hx (y := y) (z := y) hown (mvT hZ w1) (mvT hZ w2) (notFace_of_selects (args := #[]) (mvT hZ w5)) (mvT hZ w5) (mvT hZ w6) hy (backOf (W := W) (Q := fun v h L => Q' v h ∧ n0 ≤ h.size ∧ Fr n0 L) (K []) hZ w4 w3 hrm.1 hrm.2.1) qa qc (g := mkF m pc ls st) rfl (hsz.trans hml.symm) (Steps.refl _) (argsL := argsL) (rest := rest) (lenOf hpd hlen) hst (by show 2 * 0 + _ ≤ _; omega) (hb hby hd) (fun _ _ => ⟨rfl, eT, hrm.2.2.1, hrm.2.2.2⟩)
  dsimp only [Pt.U, Pt.locs, Pt.cells, Pt.slots] at Y' el ec es stp hq
  subst el ec es
  exact (k U' U'.heap v ⟨⟨_, Y', N.app hq.2.2⟩, rfl, hq.2.1, hx, hZ, hown, hby, hml, hrt, hlk, hnm⟩ hq.1).lift fun _ k => stp.trans k
theorem Wk.callF (X : Wk Z l p e R s m args below meth c own nm bytes maxL ret n0 T h cells slots) (pc' W : Nat) {z : MethodName} {y : MethodName} {yb : ByteArray} {yml : Nat} {yret : Option FieldType} {rm : Room} {Q' : Option Value → Heap → Prop} {argsL : List Value} {ps : List FieldType} {r : Option FieldType} {index count : Nat} {b : Addr} {C : String} (E : Exa Z h b C) (K : Cnt l Z z yb yml yret rm n0 (.ref b :: argsL).toArray h Q') (w1 : (Jvm.Cond.methodLink own index y).before a0 Z = true) (w2 : (Jvm.Cond.declares y).before a0 Z = true) (w7 : (Jvm.Cond.interfaceMethod y.cls y.cls y.name y.desc).before a0 Z = true) (w5 : (Jvm.Cond.selects C y z).before a0 Z = true) (w6 : (Jvm.Cond.instanceMethod z).before a0 Z = true) (w8 : (Jvm.Cond.publicMethod z).before a0 Z = true) (w9 : (Jvm.Cond.unhidden C y.name y.desc).before a0 Z = true) (w10 : (Jvm.Cond.castable C y.cls).before a0 Z = true) (hfa : (Jvm.Cond.interfaceMethod y.cls y.cls y.name y.desc).faceAtom = true) (w3 : (Jvm.Cond.initialized z.cls).before a0 Z = true) (w4 : (Jvm.Cond.code z yb yml yret).before a0 Z = true) (hy : (decide (y.cls ≠ "java/lang/invoke/MethodHandle") && decide (y.cls ≠ "java/lang/invoke/VarHandle")) = true) (hpd : parseMethodDescriptor y.desc = some ⟨ps, r⟩) (hlen : argsL.length = ps.length) (hst : st = argsL.reverse ++ .ref b :: rest) (hsz : ls.size = maxL) (hW : (rest.map fun v => v.category).sum = W) (hD : De bytes pc (.invokeinterface index count) 5 pc' = true) (hrm : (decide (rm.frames + 1 ≤ R.frames) && (decide (W + (yml + 11) + rm.locals ≤ R.locals) && (decide (cells + rm.cells ≤ R.cells) && decide (slots + rm.slots ≤ R.slots)))) = true)
    (k : ∀ T' h' v, Wk Z l p e R s m args below meth c own nm bytes maxL ret n0 T' h' (cells + rm.cells) (slots + rm.slots) → Q' v h' → Go p e below s R n0 Q (T'.setTop (mkF m pc' ls (v.toList ++ rest)))) : Go p e below s R n0 Q (T.setTop (mkF m pc ls st)) := by
  obtain ⟨⟨locs, Y, N⟩, eT, hn, hx, hZ, hown, hby, hml, hrt, hlk, hnm⟩ := X
  obtain ⟨hd, rfl⟩ := De.spec hD
  simp only [Bool.and_eq_true, decide_eq_true_eq] at hrm hy
  obtain ⟨cq, kq, qa, qb, qc⟩ := isOf hZ eT E
  obtain ⟨v, _, ⟨U', L', c', s'⟩, -, Y', ⟨Lc, hq, el, ec, es⟩, stp⟩ := Y.interfaceBack hx (xi := y) (y := z) hown (mvT hZ w1) (mvT hZ w2) (mvT hZ w7 (by simp [Cond.onTables, Cond.keepsFace, Cond.keeps, Cond.steady, hfa])) (mvT hZ w5) (mvT hZ w6) (mvT hZ w8) (mvT hZ w9) (mvT hZ w10) hy (backOf (W := W) (Q := fun v h L => Q' v h ∧ n0 ≤ h.size ∧ Fr n0 L) (K []) hZ w4 w3 hrm.1 hrm.2.1) qa qb qc (g := mkF m pc ls st) rfl (hsz.trans hml.symm) (Steps.refl _) (argsL := argsL) (rest := rest) (lenOf hpd hlen) hst (by show 2 * 0 + _ ≤ _; omega) (hb hby hd) (fun _ _ => ⟨rfl, eT, hrm.2.2.1, hrm.2.2.2⟩)
  dsimp only [Pt.U, Pt.locs, Pt.cells, Pt.slots] at Y' el ec es stp hq
  subst el ec es
  exact (k U' U'.heap v ⟨⟨_, Y', N.app hq.2.2⟩, rfl, hq.2.1, hx, hZ, hown, hby, hml, hrt, hlk, hnm⟩ hq.1).lift fun _ k => stp.trans k
theorem Wk.clone (X : Wk Z l p e R s m args below meth c own nm bytes maxL ret n0 T h cells slots) (pc' W cap : Nat) {index : Nat} {ad : String} {a : Addr} {ty : FieldType} {vs : List Value} (A : AV Z h a ty vs) (had : "[" ++ ty.toString = ad) (w1 : (Jvm.Cond.methodLink own index ⟨ad, "clone", "()Ljava/lang/Object;"⟩).before a0 Z = true) (w2 : (Jvm.Cond.sameMethod ad "java/lang/Object" "clone" "()Ljava/lang/Object;").before a0 Z = true) (w3 : (Jvm.Cond.native ⟨"java/lang/Object", "clone", "()Ljava/lang/Object;"⟩).before a0 Z = true) (w4 : (Jvm.Cond.instanceMethod ⟨"java/lang/Object", "clone", "()Ljava/lang/Object;"⟩).before a0 Z = true) (w5 : (Jvm.Cond.selects ad ⟨ad, "clone", "()Ljava/lang/Object;"⟩ ⟨"java/lang/Object", "clone", "()Ljava/lang/Object;"⟩).before a0 Z = true) (w6 : (Jvm.Cond.castable ad "java/lang/Cloneable").before a0 Z = true) (hsz : ls.size = maxL) (hW : (rest.map fun v => v.category).sum = W) (hD : De bytes pc (.invokevirtual index) 3 pc' = true) (hcap : vs.length ≤ cap) (hrm : (decide (1 ≤ R.frames) && (decide (W + 14 ≤ R.locals) && (decide (cells + 1 ≤ R.cells) && decide (slots + cap ≤ R.slots)))) = true)
    (k : ∀ T' h', Wk Z l p e R s m args below meth c own nm bytes maxL ret n0 T' h' (cells + 1) (slots + cap) → Ext h h' → AV Z h' h.size ty vs → Go p e below s R n0 Q (T'.setTop (mkF m pc' ls (.ref h.size :: rest)))) : Go p e below s R n0 Q (T.setTop (mkF m pc ls (.ref a :: rest))) := by
  obtain ⟨⟨locs, Y, N⟩, eT, hn, hx, hZ, hown, hby, hml, hrt, hlk, hnm⟩ := X
  obtain ⟨hd, rfl⟩ := De.spec hD
  simp only [Bool.and_eq_true, decide_eq_true_eq] at hrm
  subst had
  obtain ⟨cl, A, rfl, q2, q3, q4⟩ := A
  have FC : FitC Z cl := fitC_of A fun i hi v hv => q3 v (by
    have := Array.getElem?_eq_some_iff.mp hv
    obtain ⟨_, e⟩ := this
    rw [← e]; simp)
  obtain ⟨T', h', Y', e', E, A', E', stp⟩ := cloneA Y hx hZ hown w1 w2 w3 w4 w5 w6 eT A q4 FC (g := mkF m pc ls (.ref a :: rest)) rfl (hsz.trans hml.symm) rfl (hb hby hd) hrm.1 (W := W) (cap := cap) (by show 2 * 0 + _ ≤ _; omega) hrm.2.1 (by simpa using hcap) hrm.2.2.1 hrm.2.2.2
  exact (k T' h' ⟨⟨_, Y', N⟩, e', Nat.le_trans hn E.1, hx, hZ, hown, hby, hml, hrt, hlk, hnm⟩ E ⟨_, A', rfl, q2, q3, E'⟩).lift stp
theorem Wk.cast (X : Wk Z l p e R s m args below meth c own nm bytes maxL ret n0 T h cells slots) (pc' : Nat) {index : Nat} {K : String} {a : Addr} (w : (Jvm.Cond.classLink own index K).before a0 Z = true) (E : Exa Z h a K) (hD : De bytes pc (.checkcast index) 3 pc' = true)
    (k : ∀ T', Wk Z l p e R s m args below meth c own nm bytes maxL ret n0 T' h cells slots → Go p e below s R n0 Q (T'.setTop (mkF m pc' ls (.ref a :: rest)))) : Go p e below s R n0 Q (T.setTop (mkF m pc ls (.ref a :: rest))) := by
  obtain ⟨⟨locs, Y, N⟩, eT, hn, hx, hZ, hown, hby, hml, hrt, hlk, hnm⟩ := X
  obtain ⟨hd, rfl⟩ := De.spec hD
  obtain ⟨T', Y', e', stp⟩ := castY Y hx hZ hown w eT (Ins.self E) (g := mkF m pc ls (.ref a :: rest)) rfl rfl (hb hby hd)
  exact (k T' ⟨⟨_, Y', N⟩, e', hn, hx, hZ, hown, hby, hml, hrt, hlk, hnm⟩).lift stp
theorem Wk.acopy (X : Wk Z l p e R s m args below meth c own nm bytes maxL ret n0 T h cells slots) (pc' W : Nat) {index : Nat} {a b : Addr} {ty : FieldType} {vs vd : List Value} {sp dp nn : Int32} (d : Value) (A : AV Z h a ty vs) (B : AV Z h b ty vd) (hp : refKind ty = false) (w1 : (Jvm.Cond.methodLink own index Jvm.Stand.acN).before a0 Z = true) (w2 : (Jvm.Cond.native Jvm.Stand.acN).before a0 Z = true) (w3 : (Jvm.Cond.static Jvm.Stand.acN).before a0 Z = true) (w4 : (Jvm.Cond.initialized "java/lang/System").before a0 Z = true) (h1 : ¬ sp < 0) (h2 : ¬ dp < 0) (h3 : ¬ nn < 0) (h4 : sp.toNatClampNeg + nn.toNatClampNeg ≤ vs.length) (h5 : dp.toNatClampNeg + nn.toNatClampNeg ≤ vd.length) (ha : n0 ≤ b) (hsz : ls.size = maxL) (hW : (rest.map fun v => v.category).sum = W) (hD : De bytes pc (.invokestatic index) 3 pc' = true) (hrm : (decide (1 ≤ R.frames) && decide (W + (nativeFrameWords "java/lang/System" "arraycopy" 5 + 11) ≤ R.locals)) = true)
    (k : ∀ T' h', Wk Z l p e R s m args below meth c own nm bytes maxL ret n0 T' h' cells slots → Keep h h' [b] → AV Z h' b ty (vd.take dp.toNatClampNeg ++ ((List.range nn.toNatClampNeg).map fun i => vs.getD (sp.toNatClampNeg + i) d) ++ vd.drop (dp.toNatClampNeg + nn.toNatClampNeg)) → Go p e below s R n0 Q (T'.setTop (mkF m pc' ls rest))) : Go p e below s R n0 Q (T.setTop (mkF m pc ls (.int nn :: .int dp :: .ref b :: .int sp :: .ref a :: rest))) := by
  obtain ⟨⟨locs, Y, N⟩, eT, hn, hx, hZ, hown, hby, hml, hrt, hlk, hnm⟩ := X
  obtain ⟨hd, rfl⟩ := De.spec hD
  simp only [Bool.and_eq_true, decide_eq_true_eq] at hrm
  have lz : ∀ {us : List Value}, us.length < 2 ^ 31 → us.length.toInt32.toNatClampNeg = us.length := fun {us} q => by
    have hz : ¬ us.length.toInt32 < 0 := by rw [Int32.lt_iff_toInt_lt, len_toInt q]; show ¬ ((_ : Int) < (0 : Int)); omega
    have := nat_of hz; rw [len_toInt q] at this; omega
  have lA : vs.length < 2 ^ 31 := by obtain ⟨_, _, _, q, _⟩ := A; exact q
  have lB : vd.length < 2 ^ 31 := by obtain ⟨_, _, _, q, _⟩ := B; exact q
  obtain ⟨k1, A'⟩ := A.arv d
  obtain ⟨k2, B'⟩ := B.arv d
  obtain ⟨T', h', L, Y', e', N', K, B2, stp⟩ := cpA Y hx hZ hown w1 w2 w3 w4 eT A' B' (Or.inl ⟨rfl, hp⟩) h1 h2 h3 (by rw [lz lA]; exact h4) (by rw [lz lB]; exact h5) rfl h5 N ha (g := mkF m pc ls (.int nn :: .int dp :: .ref b :: .int sp :: .ref a :: rest)) rfl (hsz.trans hml.symm) rfl (hb hby hd) hrm.1 (W := W) (by show 2 * 0 + _ ≤ _; omega) hrm.2
  exact (k T' h' ⟨⟨_, Y', N'⟩, e', Nat.le_trans hn K.1, hx, hZ, hown, hby, hml, hrt, hlk, hnm⟩ K (AV.of_arv B2 (by rw [lz lB]; simp; omega) (B.exa.keep K))).lift stp
theorem Wk.callP (X : Wk Z l p e R s m args below meth c own nm bytes maxL ret n0 T h cells slots) (pc' W : Nat) {y2 z2 : MethodName} {C2 : String} {y : MethodName} {yb : ByteArray} {yml : Nat} {yret : Option FieldType} {rm : Room} {Q' : Option Value → Heap → Prop} {argsL : List Value} {ps : List FieldType} {r : Option FieldType} {index : Nat} {b : Addr} {C : String} (E : Exa Z h b C) (K : Cnt l Z y yb yml yret rm n0 (.ref b :: argsL).toArray h Q') (w1 : (Jvm.Cond.methodLink own index y).before a0 Z = true) (w5 : (Jvm.Cond.selects C2 y2 z2).before a0 Z = true) (hz2 : z2.cls = y.cls) (w6 : (Jvm.Cond.instanceMethod y).before a0 Z = true) (w7 : (Jvm.Cond.privateMethod y).before a0 Z = true) (w3 : (Jvm.Cond.initialized y.cls).before a0 Z = true) (w4 : (Jvm.Cond.code y yb yml yret).before a0 Z = true) (hy : (decide (y.cls ≠ "java/lang/invoke/MethodHandle") && decide (y.cls ≠ "java/lang/invoke/VarHandle")) = true) (hpd : parseMethodDescriptor y.desc = some ⟨ps, r⟩) (hlen : argsL.length = ps.length) (hst : st = argsL.reverse ++ .ref b :: rest) (hsz : ls.size = maxL) (hW : (rest.map fun v => v.category).sum = W) (hD : De bytes pc (.invokevirtual index) 3 pc' = true) (hrm : (decide (rm.frames + 1 ≤ R.frames) && (decide (W + (yml + 11) + rm.locals ≤ R.locals) && (decide (cells + rm.cells ≤ R.cells) && decide (slots + rm.slots ≤ R.slots)))) = true)
    (k : ∀ T' h' v, Wk Z l p e R s m args below meth c own nm bytes maxL ret n0 T' h' (cells + rm.cells) (slots + rm.slots) → Q' v h' → Go p e below s R n0 Q (T'.setTop (mkF m pc' ls (v.toList ++ rest)))) : Go p e below s R n0 Q (T.setTop (mkF m pc ls st)) := by
  obtain ⟨⟨locs, Y, N⟩, eT, hn, hx, hZ, hown, hby, hml, hrt, hlk, hnm⟩ := X
  obtain ⟨hd, rfl⟩ := De.spec hD
  simp only [Bool.and_eq_true, decide_eq_true_eq] at hrm hy
  obtain ⟨cq, q, q'⟩ := E.cell
  have hpr : s.PrivateAt y := Cond.privateMethod_at (mvP hZ w7 (args := #[]))
  obtain ⟨c2, r2, m2, -, -, q3, -, kP, hkP, hkPi⟩ := Cond.selects_spec (mvT hZ w5 : (Jvm.Cond.selects C2 y2 z2).before args s = true)
  have hsel : (Jvm.Cond.selects y.cls y y).before args s = true := selects_self_of_private (by rw [← hz2]; exact findClass_of_methodNamed q3) hkP hkPi hpr (mvT hZ w6) hy
  obtain ⟨v, _, ⟨U', L', c', s'⟩, -, Y', ⟨Lc, hq, el, ec, es⟩, stp⟩ := Y.privateBack hx (y := y) hown (mvT hZ w1) (mvT hZ w6) hsel hpr (mvT hZ w4) hy (backOf (W := W) (Q := fun v h L => Q' v h ∧ n0 ≤ h.size ∧ Fr n0 L) (K []) hZ w4 w3 hrm.1 hrm.2.1) (g := mkF m pc ls st) rfl (hsz.trans hml.symm) (Steps.refl _) (a := b) (by rw [eT]; exact q) q' (argsL := argsL) (rest := rest) (lenOf hpd hlen) hst (by show 2 * 0 + _ ≤ _; omega) (hb hby hd) (fun _ _ => ⟨rfl, eT, hrm.2.2.1, hrm.2.2.2⟩)
  dsimp only [Pt.U, Pt.locs, Pt.cells, Pt.slots] at Y' el ec es stp hq
  subst el ec es
  exact (k U' U'.heap v ⟨⟨_, Y', N.app hq.2.2⟩, rfl, hq.2.1, hx, hZ, hown, hby, hml, hrt, hlk, hnm⟩ hq.1).lift fun _ k => stp.trans k
theorem Wk.tsw (X : Wk Z l p e R s m args below meth c own nm bytes maxL ret n0 T h cells slots) (t : Nat) {i : Int32} {df lo hi : Int} {offs : Array Int} {n : Nat} (hD : (decide (decode bytes pc = .ok (.tableswitch df lo hi offs, n)) && (if i.toInt < lo ∨ i.toInt > hi then decide (0 ≤ (pc : Int) + df) && decide (((pc : Int) + df).toNat = t) else (match offs[(i.toInt - lo).toNat]? with | some o => decide (0 ≤ (pc : Int) + o) && decide (((pc : Int) + o).toNat = t) | none => false))) = true) (k : Go p e below s R n0 Q (T.setTop (mkF m t ls rest))) : Go p e below s R n0 Q (T.setTop (mkF m pc ls (.int i :: rest))) := by
  obtain ⟨⟨locs, Y, N⟩, eT, hn, hx, hZ, hown, hby, r⟩ := X
  rw [Bool.and_eq_true, decide_eq_true_eq] at hD
  obtain ⟨hd, hD⟩ := hD
  split at hD
  · rename_i q
    rw [Bool.and_eq_true, decide_eq_true_eq, decide_eq_true_eq] at hD
    exact k.lift fun _ k => XS.tswOut Y.here hx rfl (pc0 := pc) (pc' := t) rfl (hb hby hd) rfl q hD.1 hD.2 k
  · rename_i q
    split at hD
    · rename_i o ho
      rw [Bool.and_eq_true, decide_eq_true_eq, decide_eq_true_eq] at hD
      exact k.lift fun _ k => XS.tswIn Y.here hx rfl (pc0 := pc) (pc' := t) rfl (hb hby hd) rfl q ho hD.1 hD.2 k
    · cases hD
end OwnLaws
def sum4 (f : Nat → Nat) : Nat := f 0 + f 1 + f 2 + f 3
def Lx (D : Nat → Nat) (r q : Nat) : Prop := D r < D q ∨ (D r = D q ∧ r < q)
instance (D : Nat → Nat) (r q : Nat) : Decidable (Lx D r q) := by unfold Lx; exact inferInstance
def np (D : Nat → Nat) (q : Nat) : Nat := sum4 (fun r => if Lx D r q then 1 else 0)
theorem own_four {P : Nat → Prop} {q : Nat} (hq : q < 4) (h0 : P 0) (h1 : P 1) (h2 : P 2) (h3 : P 3) : P q := by
  match q, hq with
  | 0, _ => exact h0
  | 1, _ => exact h1
  | 2, _ => exact h2
  | 3, _ => exact h3
theorem own_Lx_trans {D : Nat → Nat} {r p q : Nat} (h1 : Lx D r p) (h2 : Lx D p q) : Lx D r q := by
  unfold Lx at *; omega
theorem own_Lx_irr {D : Nat → Nat} {q : Nat} : ¬ Lx D q q := by unfold Lx; omega
theorem own_Lx_tri (D : Nat → Nat) {p q : Nat} (h : p ≠ q) : Lx D p q ∨ Lx D q p := by unfold Lx; omega
theorem own_np_lt {D : Nat → Nat} {p q : Nat} (hp : p < 4) (h : Lx D p q) : np D p < np D q := by
  have le : ∀ r, (if Lx D r p then 1 else 0) ≤ (if Lx D r q then 1 else 0) := fun r => by
    by_cases z : Lx D r p
    · rw [if_pos z, if_pos (own_Lx_trans z h)]; exact Nat.le_refl _
    · rw [if_neg z]; exact Nat.zero_le _
  have lt : (if Lx D p p then 1 else 0) < (if Lx D p q then 1 else 0) := by rw [if_neg own_Lx_irr, if_pos h]; decide
  have l0 := le 0; have l1 := le 1; have l2 := le 2; have l3 := le 3
  unfold np sum4
  match p, hp with
  | 0, _ => simp only [] at *; omega
  | 1, _ => simp only [] at *; omega
  | 2, _ => simp only [] at *; omega
  | 3, _ => simp only [] at *; omega
theorem own_np_4 {D : Nat → Nat} {q : Nat} (hq : q < 4) : np D q < 4 := by
  have le : ∀ r, (if Lx D r q then 1 else 0) ≤ 1 := fun r => by split <;> decide
  have z : (if Lx D q q then 1 else 0) = 0 := if_neg own_Lx_irr
  have l0 := le 0; have l1 := le 1; have l2 := le 2; have l3 := le 3
  unfold np sum4
  match q, hq with
  | 0, _ => simp only [] at *; omega
  | 1, _ => simp only [] at *; omega
  | 2, _ => simp only [] at *; omega
  | 3, _ => simp only [] at *; omega
theorem own_np_inj {D : Nat → Nat} {p q : Nat} (hp : p < 4) (hq : q < 4) (h : np D p = np D q) : p = q := by
  rcases Nat.decEq p q with z | z
  · rcases own_Lx_tri D z with y | y
    · have := own_np_lt hp y; omega
    · have := own_np_lt hq y; omega
  · exact z
theorem own_pig : ∀ a b c d r : Fin 4, a ≠ b → a ≠ c → a ≠ d → b ≠ c → b ≠ d → c ≠ d → r = a ∨ r = b ∨ r = c ∨ r = d := by decide +kernel
theorem own_surj {f : Nat → Nat} (hf : ∀ q, q < 4 → f q < 4) (hi : ∀ p q, p < 4 → q < 4 → f p = f q → p = q) {r : Nat} (hr : r < 4) : ∃ q, q < 4 ∧ f q = r := by
  have ne : ∀ p q, (hp : p < 4) → (hq : q < 4) → p ≠ q → (⟨f p, hf p hp⟩ : Fin 4) ≠ ⟨f q, hf q hq⟩ := fun p q hp hq n e => n (hi p q hp hq (congrArg Fin.val e))
  have := own_pig ⟨f 0, hf 0 (by decide)⟩ ⟨f 1, hf 1 (by decide)⟩ ⟨f 2, hf 2 (by decide)⟩ ⟨f 3, hf 3 (by decide)⟩ ⟨r, hr⟩ (ne _ _ (by decide) (by decide) (by decide)) (ne _ _ (by decide) (by decide) (by decide)) (ne _ _ (by decide) (by decide) (by decide)) (ne _ _ (by decide) (by decide) (by decide)) (ne _ _ (by decide) (by decide) (by decide)) (ne _ _ (by decide) (by decide) (by decide))
  rcases this with e | e | e | e
  · exact ⟨0, by decide, (congrArg Fin.val e).symm⟩
  · exact ⟨1, by decide, (congrArg Fin.val e).symm⟩
  · exact ⟨2, by decide, (congrArg Fin.val e).symm⟩
  · exact ⟨3, by decide, (congrArg Fin.val e).symm⟩
/-- the order of positions i, j by the lowest s bits of their keys, then by place -/
def ltS (kf : Nat → Nat) (s i j : Nat) : Prop := kf i % 2 ^ s < kf j % 2 ^ s ∨ (kf i % 2 ^ s = kf j % 2 ^ s ∧ i < j)
def Srt (kf : Nat → Nat) (s : Nat) (o : Nat → Nat) : Prop := (∀ q, q < 4 → o q < 4) ∧ ∀ p q, p < q → q < 4 → ltS kf s (o p) (o q)
theorem Srt.inj {kf : Nat → Nat} {s : Nat} {o : Nat → Nat} (S : Srt kf s o) : ∀ p q, p < 4 → q < 4 → o p = o q → p = q := fun p q hp hq e => by
  rcases Nat.lt_trichotomy p q with z | z | z
  · have := S.2 p q z hq; unfold ltS at this; rw [e] at this; omega
  · exact z
  · have := S.2 q p z hp; unfold ltS at this; rw [e] at this; omega
theorem own_split (x s : Nat) : x % 2 ^ (s + 8) = (x / 2 ^ s % 256) * 2 ^ s + x % 2 ^ s := by
  rw [Nat.pow_add, Nat.mod_mul, Nat.mul_comm, Nat.add_comm]
theorem own_step_lt {kf : Nat → Nat} {s : Nat} {o : Nat → Nat} (S : Srt kf s o) {p q : Nat} (hp : p < 4) (hq : q < 4) (h : Lx (fun r => kf (o r) / 2 ^ s % 256) p q) : ltS kf (s + 8) (o p) (o q) := by
  unfold ltS
  rw [own_split, own_split]
  have m1 : kf (o p) % 2 ^ s < 2 ^ s := Nat.mod_lt _ (Nat.pos_of_ne_zero (by simp))
  have m2 : kf (o q) % 2 ^ s < 2 ^ s := Nat.mod_lt _ (Nat.pos_of_ne_zero (by simp))
  rcases h with h | ⟨h1, h2⟩
  · left
    have h' : kf (o p) / 2 ^ s % 256 + 1 ≤ kf (o q) / 2 ^ s % 256 := h
    have := Nat.mul_le_mul_right (2 ^ s) h'
    rw [Nat.add_mul, Nat.one_mul] at this
    omega
  · have h1' : kf (o p) / 2 ^ s % 256 = kf (o q) / 2 ^ s % 256 := h1
    have := S.2 p q h2 hq
    unfold ltS at this
    rw [h1']
    omega
theorem own_Srt_step {kf : Nat → Nat} {s : Nat} {o o' : Nat → Nat} (S : Srt kf s o) (h : ∀ q, q < 4 → o' (np (fun r => kf (o r) / 2 ^ s % 256) q) = o q) : Srt kf (s + 8) o' := by
  have sj := fun (r : Nat) (hr : r < 4) => own_surj (f := np (fun r => kf (o r) / 2 ^ s % 256)) (fun q hq => own_np_4 hq) (fun p q hp hq => own_np_inj hp hq) hr
  refine ⟨fun r hr => ?_, fun r r' h1 h2 => ?_⟩
  · obtain ⟨q, hq, e⟩ := sj r hr
    rw [← e, h q hq]; exact S.1 q hq
  · obtain ⟨p, hp, e1⟩ := sj r (by omega)
    obtain ⟨q, hq, e2⟩ := sj r' h2
    rw [← e1, ← e2, h p hp, h q hq]
    refine own_step_lt S hp hq ?_
    rcases Nat.decEq p q with z | z
    · rcases own_Lx_tri (fun r => kf (o r) / 2 ^ s % 256) z with y | y
      · exact y
      · have := own_np_lt hq y; omega
    · subst z; omega
theorem own_Srt_0 (kf : Nat → Nat) : Srt kf 0 (fun q => q) := ⟨fun q h => h, fun p q h _ => by unfold ltS; right; exact ⟨by rw [Nat.pow_zero, Nat.mod_one, Nat.mod_one], h⟩⟩
/-- the place of i among all -/
def rk (L : Nat → Nat → Prop) [∀ i j, Decidable (L i j)] (i : Nat) : Nat := sum4 (fun j => if L j i then 1 else 0)
theorem own_perm (f : Nat → Nat) {o : Nat → Nat} (ho : ∀ q, q < 4 → o q < 4) (hi : ∀ p q, p < 4 → q < 4 → o p = o q → p = q) : sum4 (fun q => f (o q)) = sum4 f := by
  have n01 : o 0 ≠ o 1 := fun e => absurd (hi 0 1 (by decide) (by decide) e) (by decide)
  have n02 : o 0 ≠ o 2 := fun e => absurd (hi 0 2 (by decide) (by decide) e) (by decide)
  have n03 : o 0 ≠ o 3 := fun e => absurd (hi 0 3 (by decide) (by decide) e) (by decide)
  have n12 : o 1 ≠ o 2 := fun e => absurd (hi 1 2 (by decide) (by decide) e) (by decide)
  have n13 : o 1 ≠ o 3 := fun e => absurd (hi 1 3 (by decide) (by decide) e) (by decide)
  have n23 : o 2 ≠ o 3 := fun e => absurd (hi 2 3 (by decide) (by decide) e) (by decide)
  have h0 := ho 0 (by decide); have h1 := ho 1 (by decide); have h2 := ho 2 (by decide); have h3 := ho 3 (by decide)
  dsimp only [sum4]
  generalize o 0 = a at *
  generalize o 1 = b at *
  generalize o 2 = c at *
  generalize o 3 = d at *
  have ca : a = 0 ∨ a = 1 ∨ a = 2 ∨ a = 3 := by omega
  have cb : b = 0 ∨ b = 1 ∨ b = 2 ∨ b = 3 := by omega
  have cc : c = 0 ∨ c = 1 ∨ c = 2 ∨ c = 3 := by omega
  have cd : d = 0 ∨ d = 1 ∨ d = 2 ∨ d = 3 := by omega
  rcases ca with rfl | rfl | rfl | rfl <;> rcases cb with rfl | rfl | rfl | rfl <;> first | exact absurd rfl n01 | skip
  all_goals rcases cc with rfl | rfl | rfl | rfl <;> first | exact absurd rfl n02 | exact absurd rfl n12 | skip
  all_goals rcases cd with rfl | rfl | rfl | rfl <;> first | exact absurd rfl n03 | exact absurd rfl n13 | exact absurd rfl n23 | omega
/-- the digits' histogram (one place on), its prefix sums -/
def hist (D : Nat → Nat) (v : Nat) : Nat := sum4 (fun r => if D r + 1 = v then 1 else 0)
def pre (f : Nat → Nat) : Nat → Nat
  | 0 => f 0
  | e + 1 => pre f e + f (e + 1)
theorem own_one (a e : Nat) : (if a ≤ e then 1 else 0) + (if a = e + 1 then 1 else 0) = (if a ≤ e + 1 then 1 else 0) := by
  by_cases h : a ≤ e
  · rw [if_pos h, if_neg (by omega), if_pos (by omega)]
  · by_cases z : a = e + 1
    · rw [if_neg h, if_pos z, if_pos (by omega)]
    · rw [if_neg h, if_neg z, if_neg (by omega)]
theorem own_pre (D : Nat → Nat) : ∀ e, pre (hist D) e = sum4 (fun r => if D r + 1 ≤ e then 1 else 0)
  | 0 => by simp [pre, hist, sum4]
  | e + 1 => by
    rw [pre, own_pre D e]
    dsimp only [hist, sum4]
    have h0 := own_one (D 0 + 1) e; have h1 := own_one (D 1 + 1) e; have h2 := own_one (D 2 + 1) e; have h3 := own_one (D 3 + 1) e
    omega
/-- an int array's components by a function -/
def CV (cs : List Value) (N : Nat) (f : Nat → Nat) : Prop := cs.length = N ∧ ∀ d, d < N → cs[d]? = some (.int (Int32.ofNat (f d)))
theorem CV.set {cs : List Value} {N : Nat} {f : Nat → Nat} (V : CV cs N f) {t v : Nat} (ht : t < N) : CV (cs.set t (.int (Int32.ofNat v))) N (fun d => if d = t then v else f d) := by
  refine ⟨by simpa using V.1, fun d hd => ?_⟩
  by_cases q : d = t
  · subst q; rw [List.getElem?_set_self (by rw [V.1]; exact hd)]; simp
  · rw [List.getElem?_set_ne (fun z => q z.symm), V.2 d hd]; simp [q]
theorem CV.congr {cs : List Value} {N : Nat} {f g : Nat → Nat} (V : CV cs N f) (h : ∀ d, d < N → f d = g d) : CV cs N g := ⟨V.1, fun d hd => by rw [V.2 d hd, h d hd]⟩
theorem own_of {n : Nat} (h : n < 2147483648) : (Int32.ofNat n).toInt = n := Int32.toInt_ofNat_small h
theorem own_ofn {n : Nat} (h : n < 2147483648) : ¬ Int32.ofNat n < 0 ∧ (Int32.ofNat n).toNatClampNeg = n := by
  have e := own_of h
  have q : ¬ Int32.ofNat n < 0 := by rw [Int32.lt_iff_toInt_lt, e]; show ¬ ((n : Int) < (0 : Int)); omega
  exact ⟨q, by have := nat_of q; omega⟩
theorem own_suc {n : Nat} (h : n < 2147483647) : Int32.ofNat n + 1 = Int32.ofNat (n + 1) := by
  apply Int32.toInt_inj.mp
  have := c_iadd (Int32.ofNat n) 1; have k : (1 : Int32).toInt = 1 := rfl
  have e := own_of (n := n) (by omega); have e2 := own_of (n := n + 1) (by omega); have := rng32 (Int32.ofNat n + 1)
  omega
theorem own_plus {a b : Nat} (h : a + b < 2147483648) : Int32.ofNat a + Int32.ofNat b = Int32.ofNat (a + b) := by
  apply Int32.toInt_inj.mp
  have := c_iadd (Int32.ofNat a) (Int32.ofNat b)
  have e := own_of (n := a) (by omega); have e1 := own_of (n := b) (by omega); have e2 := own_of (n := a + b) (by omega); have := rng32 (Int32.ofNat a + Int32.ofNat b)
  omega
def kN (k : Int64) : Nat := k.toBitVec.toNat
theorem own_amt : ∀ k : Fin 64, ((UInt64.ofNat k.val).toBitVec % 64).toNat = k.val ∧ ((Int32.ofNat k.val).toInt64.toUInt64 &&& Int64.toUInt64 63) = UInt64.ofNat k.val ∧ (((Int32.ofNat k.val).toInt64 &&& 63).toBitVec.smod 64).toNat = k.val := by decide +kernel
theorem own_ushr (x : Int64) {k : Nat} (hk : k < 64) : (XT.ushrL x (Int32.ofNat k)).toBitVec = x.toBitVec >>> k := by
  obtain ⟨h1, h2, -⟩ := own_amt ⟨k, hk⟩
  show (x.toUInt64 >>> ((Int32.ofNat k).toInt64.toUInt64 &&& Int64.toUInt64 63)).toBitVec = _
  rw [h2, UInt64.toBitVec_shiftRight, BitVec.ushiftRight_eq', h1]
  rfl
theorem own_digit (x : Int64) {s : Nat} (hs : s < 64) : (XT.ushrL x (Int32.ofNat s)).toInt32 &&& 255 = Int32.ofNat (kN x / 2 ^ s % 256) := by
  apply Int32.toBitVec_inj.mp
  rw [Int32.toBitVec_and, Int64.toBitVec_toInt32, own_ushr x hs]
  have e : (Int32.ofNat (kN x / 2 ^ s % 256)).toBitVec = BitVec.ofNat 32 (kN x / 2 ^ s % 256) := rfl
  have e2 : (255 : Int32).toBitVec = 255#32 := rfl
  rw [e, e2]
  apply BitVec.eq_of_toNat_eq
  rw [BitVec.toNat_and, BitVec.toNat_ofNat, BitVec.toNat_ofNat]
  have l : kN x / 2 ^ s % 256 < 256 := Nat.mod_lt _ (by decide)
  rw [Nat.mod_eq_of_lt (show kN x / 2 ^ s % 256 < 2 ^ 32 by omega)]
  have m : 255 % 2 ^ 32 = 2 ^ 8 - 1 := by decide
  rw [m, Nat.and_two_pow_sub_one_eq_mod]
  rw [BitVec.signExtend_eq_setWidth_of_le _ (by decide), BitVec.toNat_setWidth, BitVec.toNat_ushiftRight, Nat.shiftRight_eq_div_pow, Nat.mod_mod_of_dvd _ (by decide)]
  rfl
/-- the order on whole keys -/
def Lk (kf : Nat → Nat) (i j : Nat) : Prop := kf i < kf j ∨ (kf i = kf j ∧ i < j)
instance (kf : Nat → Nat) (i j : Nat) : Decidable (Lk kf i j) := by unfold Lk; exact inferInstance
theorem own_big {kf : Nat → Nat} {s : Nat} (h : ∀ i, i < 4 → kf i < 2 ^ s) {i j : Nat} (hi : i < 4) (hj : j < 4) : ltS kf s i j ↔ Lk kf i j := by
  unfold ltS Lk; rw [Nat.mod_eq_of_lt (h i hi), Nat.mod_eq_of_lt (h j hj)]
/-- in a sorted order the place of i is its rank -/
theorem own_rank {kf : Nat → Nat} {s : Nat} {o : Nat → Nat} (S : Srt kf s o) (hb : ∀ i, i < 4 → kf i < 2 ^ s) {i : Nat} (hi : i < 4) : rk (Lk kf) i < 4 ∧ o (rk (Lk kf) i) = i := by
  obtain ⟨q, hq, e⟩ := own_surj S.1 S.inj hi
  have h : rk (Lk kf) i = q := by
    unfold rk
    rw [← own_perm (fun j => if Lk kf j i then 1 else 0) S.1 S.inj]
    have t : ∀ r, r < 4 → (if Lk kf (o r) i then 1 else 0) = (if r < q then 1 else 0) := fun r hr => by
      rw [← e]
      by_cases z : r < q
      · rw [if_pos z, if_pos ((own_big hb (S.1 r hr) (S.1 q hq)).mp (S.2 r q z hq))]
      · rw [if_neg z, if_neg]
        intro y
        have y' := (own_big hb (S.1 r hr) (S.1 q hq)).mpr y
        rcases Nat.lt_or_eq_of_le (Nat.le_of_not_lt z) with u | u
        · have := S.2 q r u hr; unfold ltS at *; omega
        · subst u; unfold ltS at y'; omega
    show sum4 (fun r => if Lk kf (o r) i then 1 else 0) = q
    dsimp only [sum4]
    rw [t 0 (by decide), t 1 (by decide), t 2 (by decide), t 3 (by decide)]
    match q, hq with
    | 0, _ => rfl
    | 1, _ => rfl
    | 2, _ => rfl
    | 3, _ => rfl
  rw [h]; exact ⟨hq, e⟩
theorem own_ult (a b : Int64) : ((a ^^^ (-9223372036854775808 : Int64)) < (b ^^^ (-9223372036854775808 : Int64))) ↔ kN a < kN b := by
  have key : ∀ a : Int64, (a ^^^ (-9223372036854775808 : Int64)).toInt = (kN a : Int) - 9223372036854775808 := fun a => by
    have e : (a ^^^ (-9223372036854775808 : Int64)).toBitVec.toNat = kN a ^^^ 2 ^ 63 := by rw [Int64.toBitVec_xor, BitVec.toNat_xor]; rfl
    show (a ^^^ (-9223372036854775808 : Int64)).toBitVec.toInt = _
    rw [BitVec.toInt_eq_toNat_cond, e]
    have hA : kN a < 2 ^ 64 := a.toBitVec.isLt
    have m : (kN a ^^^ 2 ^ 63) % 2 ^ 63 = kN a % 2 ^ 63 := by rw [Nat.xor_mod_two_pow, Nat.mod_self, Nat.xor_zero]
    have d : (kN a ^^^ 2 ^ 63) / 2 ^ 63 = (kN a / 2 ^ 63) ^^^ 1 := by
      rw [← Nat.shiftRight_eq_div_pow, Nat.shiftRight_xor_distrib, Nat.shiftRight_eq_div_pow, Nat.shiftRight_eq_div_pow, Nat.div_self (by decide)]
    generalize kN a ^^^ 2 ^ 63 = X at *
    generalize kN a = A at *
    have c : A / 2 ^ 63 = 0 ∨ A / 2 ^ 63 = 1 := by omega
    have p63 : (2 ^ 63 : Nat) = 9223372036854775808 := rfl
    have p64 : (2 ^ 64 : Nat) = 18446744073709551616 := rfl
    rw [p63] at m d c; rw [p64] at hA
    rcases c with c | c
    · rw [c] at d
      have d' : X / 9223372036854775808 = 1 := d
      have : ¬ 2 * X < 2 ^ 64 := by omega
      rw [if_neg this]; omega
    · rw [c] at d
      have d' : X / 9223372036854775808 = 0 := d
      have : 2 * X < 2 ^ 64 := by omega
      rw [if_pos this]; omega
  rw [Int64.lt_iff_toInt_lt, key, key]; omega

theorem own_rem (x d : Int32) (D : Int) (hd : d.toInt = D) (h0 : 0 < D) : 0 ≤ ((x &&& 2147483647) % d).toInt ∧ ((x &&& 2147483647) % d).toInt < D := by
  have h1 := (c_and x 2147483647 (by decide)).1
  have h2 := (c_irem (x &&& 2147483647) d D hd).1 h1
  have h3 := Int.emod_nonneg (x &&& 2147483647).toInt (b := D) (by omega)
  have h4 := Int.emod_lt_of_pos (x &&& 2147483647).toInt (b := D) (by omega)
  omega

theorem own_nn {j : Int32} (h : 0 ≤ j.toInt) : ¬ j < 0 := by rw [Int32.lt_iff_toInt_lt]; show ¬ _ < (0 : Int); omega
theorem own_nat {j : Int32} (h : 0 ≤ j.toInt) : (j.toNatClampNeg : Int) = j.toInt := by have := nat_of (own_nn h); omega

theorem own_01 (c : Prop) [Decidable c] : (if c then 1 else 0) ≤ 1 := by split <;> decide
theorem own_hist_le (D : Nat → Nat) (e : Nat) : hist D e ≤ 4 ∧ pre (hist D) e ≤ 4 := by
  rw [own_pre]
  dsimp only [hist, sum4]
  have h0 := own_01 (D 0 + 1 = e); have h1 := own_01 (D 1 + 1 = e); have h2 := own_01 (D 2 + 1 = e); have h3 := own_01 (D 3 + 1 = e)
  have g0 := own_01 (D 0 + 1 ≤ e); have g1 := own_01 (D 1 + 1 ≤ e); have g2 := own_01 (D 2 + 1 ≤ e); have g3 := own_01 (D 3 + 1 ≤ e)
  omega
theorem own_inc {f : Nat → Nat} {t a : Nat} (h : a = t) (d : Nat) : (if d = t then f t + 1 else f d) = f d + (if a = d then 1 else 0) := by
  subst h
  by_cases q : d = a
  · subst q; simp
  · rw [if_neg q, if_neg (fun z => q z.symm)]; rfl
theorem own_tle (a b : Nat) : (if a + 1 ≤ b then 1 else 0) + (if a = b then 1 else 0) = (if (a < b ∨ (a = b ∧ True)) then 1 else 0) := by
  by_cases h : a + 1 ≤ b
  · rw [if_pos h, if_neg (by omega), if_pos (show (a < b ∨ (a = b ∧ True)) from Or.inl h)]
  · by_cases z : a = b
    · rw [if_neg h, if_pos z, if_pos (Or.inr ⟨z, trivial⟩)]
    · rw [if_neg h, if_neg z, if_neg (fun u => u.elim (fun w => h w) (fun w => z w.1))]
theorem own_tlt (a b : Nat) : (if a + 1 ≤ b then 1 else 0) = (if (a < b ∨ (a = b ∧ False)) then 1 else 0) := by
  by_cases h : a + 1 ≤ b
  · rw [if_pos h, if_pos (show (a < b ∨ (a = b ∧ False)) from Or.inl h)]
  · rw [if_neg h, if_neg (fun u => u.elim (fun w => h w) (fun w => w.2))]
theorem own_np0 (D : Nat → Nat) : np D 0 = pre (hist D) (D 0) := by
  rw [own_pre]; dsimp only [np, sum4, Lx]
  simp only [own_tlt, Nat.not_lt_zero, and_false]
theorem own_np1 (D : Nat → Nat) : np D 1 = pre (hist D) (D 1) + (if D 0 = D 1 then 1 else 0) := by
  rw [own_pre]; dsimp only [np, sum4, Lx]
  have a := own_tle (D 0) (D 1); have b := own_tlt (D 1) (D 1); have c := own_tlt (D 2) (D 1); have d := own_tlt (D 3) (D 1)
  simp only [eq_self] at b
  simp only [show ((0 : Nat) < 1) = True by simp, show ((1 : Nat) < 1) = False by simp, show ((2 : Nat) < 1) = False by simp, show ((3 : Nat) < 1) = False by simp]
  omega
theorem own_np2 (D : Nat → Nat) : np D 2 = pre (hist D) (D 2) + (if D 0 = D 2 then 1 else 0) + (if D 1 = D 2 then 1 else 0) := by
  rw [own_pre]; dsimp only [np, sum4, Lx]
  have a := own_tle (D 0) (D 2); have b := own_tle (D 1) (D 2); have c := own_tlt (D 2) (D 2); have d := own_tlt (D 3) (D 2)
  simp only [eq_self] at c
  simp only [show ((0 : Nat) < 2) = True by simp, show ((1 : Nat) < 2) = True by simp, show ((2 : Nat) < 2) = False by simp, show ((3 : Nat) < 2) = False by simp]
  omega
theorem own_np3 (D : Nat → Nat) : np D 3 = pre (hist D) (D 3) + (if D 0 = D 3 then 1 else 0) + (if D 1 = D 3 then 1 else 0) + (if D 2 = D 3 then 1 else 0) := by
  rw [own_pre]; dsimp only [np, sum4, Lx]
  have a := own_tle (D 0) (D 3); have b := own_tle (D 1) (D 3); have c := own_tle (D 2) (D 3); have d := own_tlt (D 3) (D 3)
  simp only [eq_self] at d
  simp only [show ((0 : Nat) < 3) = True by simp, show ((1 : Nat) < 3) = True by simp, show ((2 : Nat) < 3) = True by simp, show ((3 : Nat) < 3) = False by simp]
  omega
def inv4 (n o : Nat → Nat) (r : Nat) : Nat := if n 0 = r then o 0 else if n 1 = r then o 1 else if n 2 = r then o 2 else o 3
theorem own_inv {D o : Nat → Nat} {q : Nat} (hq : q < 4) : inv4 (np D) o (np D q) = o q := by
  have i := fun (p q : Nat) (hp : p < 4) (hq : q < 4) (ne : p ≠ q) (e : np D p = np D q) => ne (own_np_inj hp hq e)
  unfold inv4
  match q, hq with
  | 0, _ => rw [if_pos rfl]
  | 1, _ => rw [if_neg (i 0 1 (by decide) (by decide) (by decide)), if_pos rfl]
  | 2, _ => rw [if_neg (i 0 2 (by decide) (by decide) (by decide)), if_neg (i 1 2 (by decide) (by decide) (by decide)), if_pos rfl]
  | 3, _ => rw [if_neg (i 0 3 (by decide) (by decide) (by decide)), if_neg (i 1 3 (by decide) (by decide) (by decide)), if_neg (i 2 3 (by decide) (by decide) (by decide))]
theorem own_scat {D o : Nat → Nat} {ts : List Value} (hl : ts.length = 4) : CV ((((ts.set (np D 0) (.int (Int32.ofNat (o 0)))).set (np D 1) (.int (Int32.ofNat (o 1)))).set (np D 2) (.int (Int32.ofNat (o 2)))).set (np D 3) (.int (Int32.ofNat (o 3)))) 4 (inv4 (np D) o) := by
  refine ⟨by simpa using hl, fun r hr => ?_⟩
  obtain ⟨q, hq, e⟩ := own_surj (f := np D) (fun q hq => own_np_4 hq) (fun p q hp hq => own_np_inj hp hq) hr
  have n4 := own_np_4 (D := D) hq
  rw [← e, own_inv hq]
  have i := fun (p q : Nat) (hp : p < 4) (hq : q < 4) (ne : p ≠ q) (e : np D p = np D q) => ne (own_np_inj hp hq e)
  match q, hq with
  | 0, _ => rw [List.getElem?_set_ne (i 3 0 (by decide) (by decide) (by decide)), List.getElem?_set_ne (i 2 0 (by decide) (by decide) (by decide)), List.getElem?_set_ne (i 1 0 (by decide) (by decide) (by decide)), List.getElem?_set_self (by omega)]
  | 1, _ => rw [List.getElem?_set_ne (i 3 1 (by decide) (by decide) (by decide)), List.getElem?_set_ne (i 2 1 (by decide) (by decide) (by decide)), List.getElem?_set_self (by simpa using by omega)]
  | 2, _ => rw [List.getElem?_set_ne (i 3 2 (by decide) (by decide) (by decide)), List.getElem?_set_self (by simpa using by omega)]
  | 3, _ => rw [List.getElem?_set_self (by simpa using by omega)]
def kk (K0 K1 K2 K3 : Int64) (i : Nat) : Int64 := [K0, K1, K2, K3].getD i 0
theorem own_kk (K0 K1 K2 K3 : Int64) {i : Nat} (h : i < 4) : ([.long K0, .long K1, .long K2, .long K3] : List Value)[(Int32.ofNat i).toNatClampNeg]? = some (.long (kk K0 K1 K2 K3 i)) := by
  rw [(own_ofn (by omega)).2]
  match i, h with
  | 0, _ => rfl
  | 1, _ => rfl
  | 2, _ => rfl
  | 3, _ => rfl
theorem CV.lit {cs : List Value} {N : Nat} {f : Nat → Nat} (V : CV cs N f) (p : Nat) (hp : p < N) (h : p < 2147483648) : cs[(Int32.ofNat p).toNatClampNeg]? = some (.int (Int32.ofNat (f p))) := by rw [(own_ofn h).2]; exact V.2 p hp
theorem own_kinj {a b : Int64} (h : kN a = kN b) : a ^^^ (-9223372036854775808 : Int64) = b ^^^ (-9223372036854775808 : Int64) := by
  have : a = b := Int64.toBitVec_inj.mp (BitVec.eq_of_toNat_eq h)
  rw [this]
theorem own_mask (v : Int32) (h : 0 ≤ v.toInt ∧ v.toInt ≤ 64) (ne : v.toInt ≠ (64 : Int32).toInt) : ∀ k : Int64, kN (k &&& (((1 : Int64) <<< (v.toInt64 &&& 63)) - 1)) < 2 ^ v.toInt.toNat := fun k => by
  have k64 : (64 : Int32).toInt = 64 := rfl
  obtain ⟨w, hw⟩ : ∃ w : Nat, v.toInt = w := ⟨v.toInt.toNat, by omega⟩
  have hw64 : w < 64 := by omega
  have ev : v = Int32.ofNat w := Int32.toInt_inj.mp (by rw [hw]; show _ = (Int32.ofNat w).toInt; rw [own_of (by omega)])
  have e2 : v.toInt.toNat = w := by omega
  rw [e2]
  obtain ⟨-, -, h3⟩ := own_amt ⟨w, hw64⟩
  have e : (((1 : Int64) <<< (v.toInt64 &&& 63)) - 1).toBitVec = BitVec.ofNat 64 (2 ^ w - 1) := by
    rw [Int64.toBitVec_sub, ev, Int64.toBitVec_shiftLeft, BitVec.shiftLeft_eq', h3]
    apply BitVec.eq_of_toNat_eq
    have e1 : (1 : Int64).toBitVec = 1#64 := rfl
    rw [e1]
    have p1 : 2 ^ w < 2 ^ 64 := Nat.pow_lt_pow_right (by decide) hw64
    have p0 : 0 < 2 ^ w := Nat.pos_of_ne_zero (by simp)
    simp only [BitVec.toNat_sub, BitVec.toNat_shiftLeft, BitVec.toNat_ofNat, Nat.shiftLeft_eq, Nat.one_mul]
    have m1 : 1 % 2 ^ 64 = 1 := by decide
    rw [m1, Nat.one_mul, Nat.mod_eq_of_lt p1, Nat.mod_eq_of_lt (show 2 ^ w - 1 < 2 ^ 64 by omega)]
    have : 2 ^ 64 - 1 + 2 ^ w = 2 ^ 64 + (2 ^ w - 1) := by omega
    rw [this, Nat.add_mod_left, Nat.mod_eq_of_lt (by omega)]
  unfold kN
  rw [Int64.toBitVec_and, e, BitVec.toNat_and, BitVec.toNat_ofNat]
  have p1 : 2 ^ w < 2 ^ 64 := Nat.pow_lt_pow_right (by decide) hw64
  have p0 : 0 < 2 ^ w := Nat.pos_of_ne_zero (by simp)
  rw [Nat.mod_eq_of_lt (show 2 ^ w - 1 < 2 ^ 64 by omega), Nat.and_two_pow_sub_one_eq_mod]
  exact Nat.mod_lt _ p0
set_option maxRecDepth 65536 in
set_option maxHeartbeats 40000000 in
theorem rm_dg (l : Launch) (Z : State) (a0 : Array Value) (hw : ∀ d ∈ tables_1, d.before a0 Z = true) (p1 : Int64) (q : Nat) (h0 : Heap) (n0 : Nat) (Z0 : n0 ≤ h0.size) (hq : q < 64) :
    Cnt l Z (⟨"com/example/text_to_fingerprint/texttofingerprint/service/PositionOrder", "digit", "(JI)I"⟩ : MethodName) prog_29_method_3_code 3 (some .int) ({ frames := 0, cells := 0, slots := 0, locals := 0 } : Room) n0 #[(.long p1), (.int (Int32.ofNat q))] h0 (fun v h => v = some (.int (Int32.ofNat (kN p1 / 2 ^ q % 256))) ∧ h0 = h) := by
  refine Cnt.mk (by first | exact plainFor_of_name (by first | (simp [plainName, overriddenIn]; done) | decide +kernel) | decide +kernel) Z0 ?_
  intro p e s m below meth c T X
  refine Go.cast (g' := mkF m 0 #[.val (.long p1), .second, .val (.int (Int32.ofNat q))] []) (by first | (simp [entryFrame, mkF, argsToLocals, Value.category, maxLocals]; done) | rfl) ?_
  have hK : (∀ q ∈ ([] : List (Nat × Int32)), (Jvm.Cond.constant "com/example/text_to_fingerprint/texttofingerprint/service/PositionOrder" q.1 q.2).before a0 Z = true) ∧ (∀ q ∈ ([] : List (Nat × Int64)), (Jvm.Cond.constantLong "com/example/text_to_fingerprint/texttofingerprint/service/PositionOrder" q.1 q.2).before a0 Z = true) :=
    ⟨(fun q hq => nomatch hq), (fun q hq => nomatch hq)⟩
  refine X.blk hK (L := [(.lload_n 0, 1, 0, 0), (.iload_n 2, 1, 0, 0), (.lushr, 1, 0, 0), (.l2i, 1, 0, 0), (.sipush 255, 3, 255, 0), (.iand, 1, 0, 0)]) (pc' := 8) (ls' := #[.val (.long p1), .second, .val (.int (Int32.ofNat q))]) (st' := [(.int (((XT.ushrL p1 (Int32.ofNat q)).toInt32) &&& (255 : Int32)))]) (by decide +kernel) rfl ?_
  exact X.retI (by decide +kernel) (by decide) (by decide) (by refine ⟨?_, rfl⟩; rw [← own_digit p1 hq])
set_option maxRecDepth 65536 in
set_option maxHeartbeats 40000000 in
theorem rm_bf (l : Launch) (Z : State) (a0 : Array Value) (hw : ∀ d ∈ tables_1, d.before a0 Z = true) (a1 : Addr) (K0 K1 K2 K3 : Int64) (j i : Nat) (h0 : Heap) (n0 : Nat) (Z0 : n0 ≤ h0.size) (A : AV Z h0 a1 .long [.long K0, .long K1, .long K2, .long K3]) (hj : j < 4) (hi : i < 4) :
    Cnt l Z (⟨"com/example/text_to_fingerprint/texttofingerprint/service/PositionOrderByKeyPinLaw", "before", "([JII)Z"⟩ : MethodName) method_3_code 7 (some .boolean) ({ frames := 0, cells := 0, slots := 0, locals := 0 } : Room) n0 #[(.ref a1), (.int (Int32.ofNat j)), (.int (Int32.ofNat i))] h0 (fun v h => v = some (.int (if Lk (fun i => kN (kk K0 K1 K2 K3 i)) j i then 1 else 0)) ∧ h0 = h) := by
  refine Cnt.mk (by first | exact plainFor_of_name (by first | (simp [plainName, overriddenIn]; done) | decide +kernel) | decide +kernel) Z0 ?_
  intro p e s m below meth c T X
  refine Go.cast (g' := mkF m 0 #[.val (.ref a1), .val (.int (Int32.ofNat j)), .val (.int (Int32.ofNat i)), .unset, .unset, .unset, .unset] []) (by first | (simp [entryFrame, mkF, argsToLocals, Value.category, maxLocals]; done) | rfl) ?_
  have hK : (∀ q ∈ ([(7, (2147483647 : Int32))] : List (Nat × Int32)), (Jvm.Cond.constant "com/example/text_to_fingerprint/texttofingerprint/service/PositionOrderByKeyPinLaw" q.1 q.2).before a0 Z = true) ∧ (∀ q ∈ ([(24, (-9223372036854775808 : Int64)), (8, (-1 : Int64))] : List (Nat × Int64)), (Jvm.Cond.constantLong "com/example/text_to_fingerprint/texttofingerprint/service/PositionOrderByKeyPinLaw" q.1 q.2).before a0 Z = true) :=
    ⟨(fun q hq => by
      rcases List.mem_cons.mp hq with rfl | hq
      · exact hw _ (List.mem_of_getElem? (i := 0) rfl)
      exact nomatch hq), (fun q hq => by
      rcases List.mem_cons.mp hq with rfl | hq
      · exact hw _ (List.mem_of_getElem? (i := 14) rfl)
      rcases List.mem_cons.mp hq with rfl | hq
      · exact hw _ (List.mem_of_getElem? (i := 18) rfl)
      exact nomatch hq)⟩
  refine X.blk hK (L := [(.aload_n 0, 1, 0, 0), (.iload_n 1, 1, 0, 0)]) (pc' := 2) (ls' := #[.val (.ref a1), .val (.int (Int32.ofNat j)), .val (.int (Int32.ofNat i)), .unset, .unset, .unset, .unset]) (st' := [(.int (Int32.ofNat j)), (.ref a1)]) (by decide +kernel) rfl ?_
  refine X.laload 3 A (by decide +kernel) ((own_ofn (by omega)).1) (own_kk _ _ _ _ hj) ?_
  refine X.blk hK (L := [(.ldc2_w 24, 3, 0, 0), (.lxor, 1, 0, 0), (.lstore_n 3, 1, 0, 0), (.aload_n 0, 1, 0, 0), (.iload_n 2, 1, 0, 0)]) (pc' := 10) (ls' := #[.val (.ref a1), .val (.int (Int32.ofNat j)), .val (.int (Int32.ofNat i)), .val (.long ((kk K0 K1 K2 K3 j) ^^^ (-9223372036854775808 : Int64))), .second, .unset, .unset]) (st' := [(.int (Int32.ofNat i)), (.ref a1)]) (by decide +kernel) rfl ?_
  refine X.laload 11 A (by decide +kernel) ((own_ofn (by omega)).1) (own_kk _ _ _ _ hi) ?_
  refine X.blk hK (L := [(.ldc2_w 24, 3, 0, 0), (.lxor, 1, 0, 0), (.lstore 5, 2, 0, 0), (.lload_n 3, 1, 0, 0), (.lload 5, 2, 0, 0)]) (pc' := 20) (ls' := #[.val (.ref a1), .val (.int (Int32.ofNat j)), .val (.int (Int32.ofNat i)), .val (.long ((kk K0 K1 K2 K3 j) ^^^ (-9223372036854775808 : Int64))), .second, .val (.long ((kk K0 K1 K2 K3 i) ^^^ (-9223372036854775808 : Int64))), .second]) (st' := [(.long ((kk K0 K1 K2 K3 i) ^^^ (-9223372036854775808 : Int64))), (.long ((kk K0 K1 K2 K3 j) ^^^ (-9223372036854775808 : Int64)))]) (by decide +kernel) rfl ?_
  have u := own_ult (kk K0 K1 K2 K3 j) (kk K0 K1 K2 K3 i)
  have u2 := own_ult (kk K0 K1 K2 K3 i) (kk K0 K1 K2 K3 j)
  refine X.lcmp .lt (15) 36 24 (by decide +kernel) (fun (c20 : ((kk K0 K1 K2 K3 j) ^^^ (-9223372036854775808 : Int64)) < ((kk K0 K1 K2 K3 i) ^^^ (-9223372036854775808 : Int64))) => ?_) (fun (c20 : ¬ ((kk K0 K1 K2 K3 j) ^^^ (-9223372036854775808 : Int64)) < ((kk K0 K1 K2 K3 i) ^^^ (-9223372036854775808 : Int64))) => ?_)
  · refine X.blk hK (L := [(.iconst 1, 1, 1, 0), (.goto 4, 3, 0, 41)]) (pc' := 41) (ls' := #[.val (.ref a1), .val (.int (Int32.ofNat j)), .val (.int (Int32.ofNat i)), .val (.long ((kk K0 K1 K2 K3 j) ^^^ (-9223372036854775808 : Int64))), .second, .val (.long ((kk K0 K1 K2 K3 i) ^^^ (-9223372036854775808 : Int64))), .second]) (st' := [(.int (1 : Int32))]) (by decide +kernel) rfl ?_
    exact X.retZ (by decide +kernel) (by decide) (by decide) (Or.inr rfl) (by refine ⟨?_, rfl⟩; rw [if_pos]; exact (Or.inl (u.mp c20)))
  · refine X.blk hK (L := [(.lload_n 3, 1, 0, 0), (.lload 5, 2, 0, 0)]) (pc' := 27) (ls' := #[.val (.ref a1), .val (.int (Int32.ofNat j)), .val (.int (Int32.ofNat i)), .val (.long ((kk K0 K1 K2 K3 j) ^^^ (-9223372036854775808 : Int64))), .second, .val (.long ((kk K0 K1 K2 K3 i) ^^^ (-9223372036854775808 : Int64))), .second]) (st' := [(.long ((kk K0 K1 K2 K3 i) ^^^ (-9223372036854775808 : Int64))), (.long ((kk K0 K1 K2 K3 j) ^^^ (-9223372036854775808 : Int64)))]) (by decide +kernel) rfl ?_
    have eqk : ((kk K0 K1 K2 K3 j) ^^^ (-9223372036854775808 : Int64) = (kk K0 K1 K2 K3 i) ^^^ (-9223372036854775808 : Int64)) → kN (kk K0 K1 K2 K3 j) = kN (kk K0 K1 K2 K3 i) := fun z => by
      have a := u; have b := u2; rw [z] at a b; have i1 : ¬ ((kk K0 K1 K2 K3 i) ^^^ (-9223372036854775808 : Int64) < (kk K0 K1 K2 K3 i) ^^^ (-9223372036854775808 : Int64)) := by rw [Int64.lt_iff_toInt_lt]; omega
      rcases Nat.lt_trichotomy (kN (kk K0 K1 K2 K3 j)) (kN (kk K0 K1 K2 K3 i)) with y | y | y
      · exact absurd (a.mpr y) i1
      · exact y
      · exact absurd (b.mpr y) i1
    refine X.lcmp .ne (12) 40 31 (by decide +kernel) (fun (c27 : ¬ ((kk K0 K1 K2 K3 j) ^^^ (-9223372036854775808 : Int64)) = ((kk K0 K1 K2 K3 i) ^^^ (-9223372036854775808 : Int64))) => ?_) (fun (c27 : ((kk K0 K1 K2 K3 j) ^^^ (-9223372036854775808 : Int64)) = ((kk K0 K1 K2 K3 i) ^^^ (-9223372036854775808 : Int64))) => ?_)
    · refine X.blk hK (L := [(.iconst 0, 1, 0, 0)]) (pc' := 41) (ls' := #[.val (.ref a1), .val (.int (Int32.ofNat j)), .val (.int (Int32.ofNat i)), .val (.long ((kk K0 K1 K2 K3 j) ^^^ (-9223372036854775808 : Int64))), .second, .val (.long ((kk K0 K1 K2 K3 i) ^^^ (-9223372036854775808 : Int64))), .second]) (st' := [(.int (0 : Int32))]) (by decide +kernel) rfl ?_
      exact X.retZ (by decide +kernel) (by decide) (by decide) (Or.inl rfl) (by refine ⟨?_, rfl⟩; rw [if_neg]; intro q; unfold Lk at q; have nl : ¬ kN (kk K0 K1 K2 K3 j) < kN (kk K0 K1 K2 K3 i) := fun z => c20 (u.mpr z); rcases q with q | q; exact nl q; exact c27 (own_kinj q.1))
    · refine X.blk hK (L := [(.iload_n 1, 1, 0, 0), (.iload_n 2, 1, 0, 0)]) (pc' := 33) (ls' := #[.val (.ref a1), .val (.int (Int32.ofNat j)), .val (.int (Int32.ofNat i)), .val (.long ((kk K0 K1 K2 K3 j) ^^^ (-9223372036854775808 : Int64))), .second, .val (.long ((kk K0 K1 K2 K3 i) ^^^ (-9223372036854775808 : Int64))), .second]) (st' := [(.int (Int32.ofNat i)), (.int (Int32.ofNat j))]) (by decide +kernel) rfl ?_
      refine X.icmp .ge (7) 40 36 (by decide +kernel) (fun (c33 : ¬ (Int32.ofNat j) < (Int32.ofNat i)) => ?_) (fun (c33 : (Int32.ofNat j) < (Int32.ofNat i)) => ?_)
      · refine X.blk hK (L := [(.iconst 0, 1, 0, 0)]) (pc' := 41) (ls' := #[.val (.ref a1), .val (.int (Int32.ofNat j)), .val (.int (Int32.ofNat i)), .val (.long ((kk K0 K1 K2 K3 j) ^^^ (-9223372036854775808 : Int64))), .second, .val (.long ((kk K0 K1 K2 K3 i) ^^^ (-9223372036854775808 : Int64))), .second]) (st' := [(.int (0 : Int32))]) (by decide +kernel) rfl ?_
        exact X.retZ (by decide +kernel) (by decide) (by decide) (Or.inl rfl) (by refine ⟨?_, rfl⟩; rw [if_neg]; intro q; unfold Lk at q; rw [Int32.lt_iff_toInt_lt, own_of (by omega), own_of (by omega)] at c33; have e := eqk c27; have nl : ¬ kN (kk K0 K1 K2 K3 j) < kN (kk K0 K1 K2 K3 i) := fun z => c20 (u.mpr z); dsimp only at q; omega)
      · refine X.blk hK (L := [(.iconst 1, 1, 1, 0), (.goto 4, 3, 0, 41)]) (pc' := 41) (ls' := #[.val (.ref a1), .val (.int (Int32.ofNat j)), .val (.int (Int32.ofNat i)), .val (.long ((kk K0 K1 K2 K3 j) ^^^ (-9223372036854775808 : Int64))), .second, .val (.long ((kk K0 K1 K2 K3 i) ^^^ (-9223372036854775808 : Int64))), .second]) (st' := [(.int (1 : Int32))]) (by decide +kernel) rfl ?_
        exact X.retZ (by decide +kernel) (by decide) (by decide) (Or.inr rfl) (by refine ⟨?_, rfl⟩; rw [if_pos]; exact (Or.inr ⟨eqk c27, by rw [Int32.lt_iff_toInt_lt, own_of (by omega), own_of (by omega)] at c33; omega⟩))
set_option maxRecDepth 65536 in
set_option maxHeartbeats 40000000 in
theorem rm_rk0 (l : Launch) (Z : State) (a0 : Array Value) (hw : ∀ d ∈ tables_1, d.before a0 Z = true) (a1 : Addr) (K0 K1 K2 K3 : Int64) (h0 : Heap) (n0 : Nat) (Z0 : n0 ≤ h0.size) (A : AV Z h0 a1 .long [.long K0, .long K1, .long K2, .long K3]) :
    Cnt l Z (⟨"com/example/text_to_fingerprint/texttofingerprint/service/PositionOrderByKeyPinLaw", "rank", "([JI)I"⟩ : MethodName) method_4_code 3 (some .int) ({ frames := 1, cells := 0, slots := 0, locals := 18 } : Room) n0 #[(.ref a1), (.int (0 : Int32))] h0 (fun v h => v = some (.int (Int32.ofNat (rk (Lk (fun i => kN (kk K0 K1 K2 K3 i))) 0))) ∧ h0 = h) := by
  refine Cnt.mk (by first | exact plainFor_of_name (by first | (simp [plainName, overriddenIn]; done) | decide +kernel) | decide +kernel) Z0 ?_
  intro p e s m below meth c T X
  refine Go.cast (g' := mkF m 0 #[.val (.ref a1), .val (.int (0 : Int32)), .unset] []) (by first | (simp [entryFrame, mkF, argsToLocals, Value.category, maxLocals]; done) | rfl) ?_
  have hK : (∀ q ∈ ([(7, (2147483647 : Int32))] : List (Nat × Int32)), (Jvm.Cond.constant "com/example/text_to_fingerprint/texttofingerprint/service/PositionOrderByKeyPinLaw" q.1 q.2).before a0 Z = true) ∧ (∀ q ∈ ([(24, (-9223372036854775808 : Int64)), (8, (-1 : Int64))] : List (Nat × Int64)), (Jvm.Cond.constantLong "com/example/text_to_fingerprint/texttofingerprint/service/PositionOrderByKeyPinLaw" q.1 q.2).before a0 Z = true) :=
    ⟨(fun q hq => by
      rcases List.mem_cons.mp hq with rfl | hq
      · exact hw _ (List.mem_of_getElem? (i := 0) rfl)
      exact nomatch hq), (fun q hq => by
      rcases List.mem_cons.mp hq with rfl | hq
      · exact hw _ (List.mem_of_getElem? (i := 14) rfl)
      rcases List.mem_cons.mp hq with rfl | hq
      · exact hw _ (List.mem_of_getElem? (i := 18) rfl)
      exact nomatch hq)⟩
  have ir : ¬ Lk (fun i => kN (kk K0 K1 K2 K3 i)) 0 0 := by unfold Lk; omega
  refine X.blk hK (L := [(.iconst 0, 1, 0, 0), (.istore_n 2, 1, 0, 0), (.iload_n 1, 1, 0, 0)]) (pc' := 3) (ls' := #[.val (.ref a1), .val (.int (0 : Int32)), .val (.int (0 : Int32))]) (st' := [(.int (0 : Int32))]) (by decide +kernel) rfl ?_
  refine X.ifc .eq (15) 18 6 (by decide +kernel) (fun (c3 : (0 : Int32) = (0 : Int32)) => ?_) (fun (c3 : ¬ (0 : Int32) = (0 : Int32)) => absurd (by decide : (0 : Int32) = (0 : Int32)) c3)
  refine X.blk hK (L := [(.iload_n 1, 1, 0, 0), (.iconst 1, 1, 1, 0)]) (pc' := 20) (ls' := #[.val (.ref a1), .val (.int (0 : Int32)), .val (.int (0 : Int32))]) (st' := [(.int (1 : Int32)), (.int (0 : Int32))]) (by decide +kernel) rfl ?_
  refine X.icmp .eq (15) 35 23 (by decide +kernel) (fun (c20 : (0 : Int32) = (1 : Int32)) => absurd c20 (by decide : ¬ (0 : Int32) = (1 : Int32))) (fun (c20 : ¬ (0 : Int32) = (1 : Int32)) => ?_)
  refine X.blk hK (L := [(.aload_n 0, 1, 0, 0), (.iconst 1, 1, 1, 0), (.iload_n 1, 1, 0, 0)]) (pc' := 26) (ls' := #[.val (.ref a1), .val (.int (0 : Int32)), .val (.int (0 : Int32))]) (st' := [(.int (0 : Int32)), (.int (1 : Int32)), (.ref a1)]) (by decide +kernel) rfl ?_
  refine X.callS 29 0 (argsL := [(.ref a1), (.int (1 : Int32)), (.int (0 : Int32))]) (rest := []) (rm_bf l Z a0 hw a1 K0 K1 K2 K3 1 0 h0 n0 Z0 A (by decide) (by decide)) (hw _ (List.mem_of_getElem? (i := 11) rfl)) (hw _ (List.mem_of_getElem? (i := 12) rfl)) (hw _ (List.mem_of_getElem? (i := 9) rfl)) (hw _ (List.mem_of_getElem? (i := 13) rfl)) (by decide) (ps := [(.array .long), .int, .int]) (r := some .boolean) (by decide +kernel) rfl rfl rfl rfl (by decide +kernel) (by decide) ?_
  rintro Tb1 hb1 vb1 Xb1 ⟨rfl, rfl⟩
  show Go p e below s _ n0 _ (Tb1.setTop (mkF m 29 #[.val (.ref a1), .val (.int (0 : Int32)), .val (.int (0 : Int32))] [(.int (if Lk (fun i => kN (kk K0 K1 K2 K3 i)) 1 0 then (1 : Int32) else 0))]))
  by_cases l1 : Lk (fun i => kN (kk K0 K1 K2 K3 i)) 1 0
  · rw [if_pos l1]
    refine Xb1.ifc .eq (6) 35 32 (by decide +kernel) (fun (c29 : (1 : Int32) = (0 : Int32)) => absurd c29 (by decide : ¬ (1 : Int32) = (0 : Int32))) (fun (c29 : ¬ (1 : Int32) = (0 : Int32)) => ?_)
    refine Xb1.blk hK (L := [(.iinc 2 1, 3, 1, 0), (.iload_n 1, 1, 0, 0), (.iconst 2, 1, 2, 0)]) (pc' := 37) (ls' := #[.val (.ref a1), .val (.int (0 : Int32)), .val (.int (1 : Int32))]) (st' := [(.int (2 : Int32)), (.int (0 : Int32))]) (by decide +kernel) rfl ?_
    refine Xb1.icmp .eq (15) 52 40 (by decide +kernel) (fun (c37 : (0 : Int32) = (2 : Int32)) => absurd c37 (by decide : ¬ (0 : Int32) = (2 : Int32))) (fun (c37 : ¬ (0 : Int32) = (2 : Int32)) => ?_)
    refine Xb1.blk hK (L := [(.aload_n 0, 1, 0, 0), (.iconst 2, 1, 2, 0), (.iload_n 1, 1, 0, 0)]) (pc' := 43) (ls' := #[.val (.ref a1), .val (.int (0 : Int32)), .val (.int (1 : Int32))]) (st' := [(.int (0 : Int32)), (.int (2 : Int32)), (.ref a1)]) (by decide +kernel) rfl ?_
    refine Xb1.callS 46 0 (argsL := [(.ref a1), (.int (2 : Int32)), (.int (0 : Int32))]) (rest := []) (rm_bf l Z a0 hw a1 K0 K1 K2 K3 2 0 h0 n0 Z0 A (by decide) (by decide)) (hw _ (List.mem_of_getElem? (i := 11) rfl)) (hw _ (List.mem_of_getElem? (i := 12) rfl)) (hw _ (List.mem_of_getElem? (i := 9) rfl)) (hw _ (List.mem_of_getElem? (i := 13) rfl)) (by decide) (ps := [(.array .long), .int, .int]) (r := some .boolean) (by decide +kernel) rfl rfl rfl rfl (by decide +kernel) (by decide) ?_
    rintro Tb2 hb2 vb2 Xb2 ⟨rfl, rfl⟩
    show Go p e below s _ n0 _ (Tb2.setTop (mkF m 46 #[.val (.ref a1), .val (.int (0 : Int32)), .val (.int (1 : Int32))] [(.int (if Lk (fun i => kN (kk K0 K1 K2 K3 i)) 2 0 then (1 : Int32) else 0))]))
    by_cases l2 : Lk (fun i => kN (kk K0 K1 K2 K3 i)) 2 0
    · rw [if_pos l2]
      refine Xb2.ifc .eq (6) 52 49 (by decide +kernel) (fun (c46 : (1 : Int32) = (0 : Int32)) => absurd c46 (by decide : ¬ (1 : Int32) = (0 : Int32))) (fun (c46 : ¬ (1 : Int32) = (0 : Int32)) => ?_)
      refine Xb2.blk hK (L := [(.iinc 2 1, 3, 1, 0), (.iload_n 1, 1, 0, 0), (.iconst 3, 1, 3, 0)]) (pc' := 54) (ls' := #[.val (.ref a1), .val (.int (0 : Int32)), .val (.int (2 : Int32))]) (st' := [(.int (3 : Int32)), (.int (0 : Int32))]) (by decide +kernel) rfl ?_
      refine Xb2.icmp .eq (15) 69 57 (by decide +kernel) (fun (c54 : (0 : Int32) = (3 : Int32)) => absurd c54 (by decide : ¬ (0 : Int32) = (3 : Int32))) (fun (c54 : ¬ (0 : Int32) = (3 : Int32)) => ?_)
      refine Xb2.blk hK (L := [(.aload_n 0, 1, 0, 0), (.iconst 3, 1, 3, 0), (.iload_n 1, 1, 0, 0)]) (pc' := 60) (ls' := #[.val (.ref a1), .val (.int (0 : Int32)), .val (.int (2 : Int32))]) (st' := [(.int (0 : Int32)), (.int (3 : Int32)), (.ref a1)]) (by decide +kernel) rfl ?_
      refine Xb2.callS 63 0 (argsL := [(.ref a1), (.int (3 : Int32)), (.int (0 : Int32))]) (rest := []) (rm_bf l Z a0 hw a1 K0 K1 K2 K3 3 0 h0 n0 Z0 A (by decide) (by decide)) (hw _ (List.mem_of_getElem? (i := 11) rfl)) (hw _ (List.mem_of_getElem? (i := 12) rfl)) (hw _ (List.mem_of_getElem? (i := 9) rfl)) (hw _ (List.mem_of_getElem? (i := 13) rfl)) (by decide) (ps := [(.array .long), .int, .int]) (r := some .boolean) (by decide +kernel) rfl rfl rfl rfl (by decide +kernel) (by decide) ?_
      rintro Tb3 hb3 vb3 Xb3 ⟨rfl, rfl⟩
      show Go p e below s _ n0 _ (Tb3.setTop (mkF m 63 #[.val (.ref a1), .val (.int (0 : Int32)), .val (.int (2 : Int32))] [(.int (if Lk (fun i => kN (kk K0 K1 K2 K3 i)) 3 0 then (1 : Int32) else 0))]))
      by_cases l3 : Lk (fun i => kN (kk K0 K1 K2 K3 i)) 3 0
      · rw [if_pos l3]
        refine Xb3.ifc .eq (6) 69 66 (by decide +kernel) (fun (c63 : (1 : Int32) = (0 : Int32)) => absurd c63 (by decide : ¬ (1 : Int32) = (0 : Int32))) (fun (c63 : ¬ (1 : Int32) = (0 : Int32)) => ?_)
        refine Xb3.blk hK (L := [(.iinc 2 1, 3, 1, 0), (.iload_n 2, 1, 0, 0)]) (pc' := 70) (ls' := #[.val (.ref a1), .val (.int (0 : Int32)), .val (.int (3 : Int32))]) (st' := [(.int (3 : Int32))]) (by decide +kernel) rfl ?_
        exact Xb3.retI (by decide +kernel) (by decide) (by decide) (by refine ⟨?_, rfl⟩; simp only [rk, sum4, ir, if_false, l1, if_true, l2, if_true, l3, if_true] <;> rfl)
      · rw [if_neg l3]
        refine Xb3.ifc .eq (6) 69 66 (by decide +kernel) (fun (c63 : (0 : Int32) = (0 : Int32)) => ?_) (fun (c63 : ¬ (0 : Int32) = (0 : Int32)) => absurd (by decide : (0 : Int32) = (0 : Int32)) c63)
        refine Xb3.blk hK (L := [(.iload_n 2, 1, 0, 0)]) (pc' := 70) (ls' := #[.val (.ref a1), .val (.int (0 : Int32)), .val (.int (2 : Int32))]) (st' := [(.int (2 : Int32))]) (by decide +kernel) rfl ?_
        exact Xb3.retI (by decide +kernel) (by decide) (by decide) (by refine ⟨?_, rfl⟩; simp only [rk, sum4, ir, if_false, l1, if_true, l2, if_true, l3, if_false] <;> rfl)
    · rw [if_neg l2]
      refine Xb2.ifc .eq (6) 52 49 (by decide +kernel) (fun (c46 : (0 : Int32) = (0 : Int32)) => ?_) (fun (c46 : ¬ (0 : Int32) = (0 : Int32)) => absurd (by decide : (0 : Int32) = (0 : Int32)) c46)
      refine Xb2.blk hK (L := [(.iload_n 1, 1, 0, 0), (.iconst 3, 1, 3, 0)]) (pc' := 54) (ls' := #[.val (.ref a1), .val (.int (0 : Int32)), .val (.int (1 : Int32))]) (st' := [(.int (3 : Int32)), (.int (0 : Int32))]) (by decide +kernel) rfl ?_
      refine Xb2.icmp .eq (15) 69 57 (by decide +kernel) (fun (c54 : (0 : Int32) = (3 : Int32)) => absurd c54 (by decide : ¬ (0 : Int32) = (3 : Int32))) (fun (c54 : ¬ (0 : Int32) = (3 : Int32)) => ?_)
      refine Xb2.blk hK (L := [(.aload_n 0, 1, 0, 0), (.iconst 3, 1, 3, 0), (.iload_n 1, 1, 0, 0)]) (pc' := 60) (ls' := #[.val (.ref a1), .val (.int (0 : Int32)), .val (.int (1 : Int32))]) (st' := [(.int (0 : Int32)), (.int (3 : Int32)), (.ref a1)]) (by decide +kernel) rfl ?_
      refine Xb2.callS 63 0 (argsL := [(.ref a1), (.int (3 : Int32)), (.int (0 : Int32))]) (rest := []) (rm_bf l Z a0 hw a1 K0 K1 K2 K3 3 0 h0 n0 Z0 A (by decide) (by decide)) (hw _ (List.mem_of_getElem? (i := 11) rfl)) (hw _ (List.mem_of_getElem? (i := 12) rfl)) (hw _ (List.mem_of_getElem? (i := 9) rfl)) (hw _ (List.mem_of_getElem? (i := 13) rfl)) (by decide) (ps := [(.array .long), .int, .int]) (r := some .boolean) (by decide +kernel) rfl rfl rfl rfl (by decide +kernel) (by decide) ?_
      rintro Tb3 hb3 vb3 Xb3 ⟨rfl, rfl⟩
      show Go p e below s _ n0 _ (Tb3.setTop (mkF m 63 #[.val (.ref a1), .val (.int (0 : Int32)), .val (.int (1 : Int32))] [(.int (if Lk (fun i => kN (kk K0 K1 K2 K3 i)) 3 0 then (1 : Int32) else 0))]))
      by_cases l3 : Lk (fun i => kN (kk K0 K1 K2 K3 i)) 3 0
      · rw [if_pos l3]
        refine Xb3.ifc .eq (6) 69 66 (by decide +kernel) (fun (c63 : (1 : Int32) = (0 : Int32)) => absurd c63 (by decide : ¬ (1 : Int32) = (0 : Int32))) (fun (c63 : ¬ (1 : Int32) = (0 : Int32)) => ?_)
        refine Xb3.blk hK (L := [(.iinc 2 1, 3, 1, 0), (.iload_n 2, 1, 0, 0)]) (pc' := 70) (ls' := #[.val (.ref a1), .val (.int (0 : Int32)), .val (.int (2 : Int32))]) (st' := [(.int (2 : Int32))]) (by decide +kernel) rfl ?_
        exact Xb3.retI (by decide +kernel) (by decide) (by decide) (by refine ⟨?_, rfl⟩; simp only [rk, sum4, ir, if_false, l1, if_true, l2, if_false, l3, if_true] <;> rfl)
      · rw [if_neg l3]
        refine Xb3.ifc .eq (6) 69 66 (by decide +kernel) (fun (c63 : (0 : Int32) = (0 : Int32)) => ?_) (fun (c63 : ¬ (0 : Int32) = (0 : Int32)) => absurd (by decide : (0 : Int32) = (0 : Int32)) c63)
        refine Xb3.blk hK (L := [(.iload_n 2, 1, 0, 0)]) (pc' := 70) (ls' := #[.val (.ref a1), .val (.int (0 : Int32)), .val (.int (1 : Int32))]) (st' := [(.int (1 : Int32))]) (by decide +kernel) rfl ?_
        exact Xb3.retI (by decide +kernel) (by decide) (by decide) (by refine ⟨?_, rfl⟩; simp only [rk, sum4, ir, if_false, l1, if_true, l2, if_false, l3, if_false] <;> rfl)
  · rw [if_neg l1]
    refine Xb1.ifc .eq (6) 35 32 (by decide +kernel) (fun (c29 : (0 : Int32) = (0 : Int32)) => ?_) (fun (c29 : ¬ (0 : Int32) = (0 : Int32)) => absurd (by decide : (0 : Int32) = (0 : Int32)) c29)
    refine Xb1.blk hK (L := [(.iload_n 1, 1, 0, 0), (.iconst 2, 1, 2, 0)]) (pc' := 37) (ls' := #[.val (.ref a1), .val (.int (0 : Int32)), .val (.int (0 : Int32))]) (st' := [(.int (2 : Int32)), (.int (0 : Int32))]) (by decide +kernel) rfl ?_
    refine Xb1.icmp .eq (15) 52 40 (by decide +kernel) (fun (c37 : (0 : Int32) = (2 : Int32)) => absurd c37 (by decide : ¬ (0 : Int32) = (2 : Int32))) (fun (c37 : ¬ (0 : Int32) = (2 : Int32)) => ?_)
    refine Xb1.blk hK (L := [(.aload_n 0, 1, 0, 0), (.iconst 2, 1, 2, 0), (.iload_n 1, 1, 0, 0)]) (pc' := 43) (ls' := #[.val (.ref a1), .val (.int (0 : Int32)), .val (.int (0 : Int32))]) (st' := [(.int (0 : Int32)), (.int (2 : Int32)), (.ref a1)]) (by decide +kernel) rfl ?_
    refine Xb1.callS 46 0 (argsL := [(.ref a1), (.int (2 : Int32)), (.int (0 : Int32))]) (rest := []) (rm_bf l Z a0 hw a1 K0 K1 K2 K3 2 0 h0 n0 Z0 A (by decide) (by decide)) (hw _ (List.mem_of_getElem? (i := 11) rfl)) (hw _ (List.mem_of_getElem? (i := 12) rfl)) (hw _ (List.mem_of_getElem? (i := 9) rfl)) (hw _ (List.mem_of_getElem? (i := 13) rfl)) (by decide) (ps := [(.array .long), .int, .int]) (r := some .boolean) (by decide +kernel) rfl rfl rfl rfl (by decide +kernel) (by decide) ?_
    rintro Tb2 hb2 vb2 Xb2 ⟨rfl, rfl⟩
    show Go p e below s _ n0 _ (Tb2.setTop (mkF m 46 #[.val (.ref a1), .val (.int (0 : Int32)), .val (.int (0 : Int32))] [(.int (if Lk (fun i => kN (kk K0 K1 K2 K3 i)) 2 0 then (1 : Int32) else 0))]))
    by_cases l2 : Lk (fun i => kN (kk K0 K1 K2 K3 i)) 2 0
    · rw [if_pos l2]
      refine Xb2.ifc .eq (6) 52 49 (by decide +kernel) (fun (c46 : (1 : Int32) = (0 : Int32)) => absurd c46 (by decide : ¬ (1 : Int32) = (0 : Int32))) (fun (c46 : ¬ (1 : Int32) = (0 : Int32)) => ?_)
      refine Xb2.blk hK (L := [(.iinc 2 1, 3, 1, 0), (.iload_n 1, 1, 0, 0), (.iconst 3, 1, 3, 0)]) (pc' := 54) (ls' := #[.val (.ref a1), .val (.int (0 : Int32)), .val (.int (1 : Int32))]) (st' := [(.int (3 : Int32)), (.int (0 : Int32))]) (by decide +kernel) rfl ?_
      refine Xb2.icmp .eq (15) 69 57 (by decide +kernel) (fun (c54 : (0 : Int32) = (3 : Int32)) => absurd c54 (by decide : ¬ (0 : Int32) = (3 : Int32))) (fun (c54 : ¬ (0 : Int32) = (3 : Int32)) => ?_)
      refine Xb2.blk hK (L := [(.aload_n 0, 1, 0, 0), (.iconst 3, 1, 3, 0), (.iload_n 1, 1, 0, 0)]) (pc' := 60) (ls' := #[.val (.ref a1), .val (.int (0 : Int32)), .val (.int (1 : Int32))]) (st' := [(.int (0 : Int32)), (.int (3 : Int32)), (.ref a1)]) (by decide +kernel) rfl ?_
      refine Xb2.callS 63 0 (argsL := [(.ref a1), (.int (3 : Int32)), (.int (0 : Int32))]) (rest := []) (rm_bf l Z a0 hw a1 K0 K1 K2 K3 3 0 h0 n0 Z0 A (by decide) (by decide)) (hw _ (List.mem_of_getElem? (i := 11) rfl)) (hw _ (List.mem_of_getElem? (i := 12) rfl)) (hw _ (List.mem_of_getElem? (i := 9) rfl)) (hw _ (List.mem_of_getElem? (i := 13) rfl)) (by decide) (ps := [(.array .long), .int, .int]) (r := some .boolean) (by decide +kernel) rfl rfl rfl rfl (by decide +kernel) (by decide) ?_
      rintro Tb3 hb3 vb3 Xb3 ⟨rfl, rfl⟩
      show Go p e below s _ n0 _ (Tb3.setTop (mkF m 63 #[.val (.ref a1), .val (.int (0 : Int32)), .val (.int (1 : Int32))] [(.int (if Lk (fun i => kN (kk K0 K1 K2 K3 i)) 3 0 then (1 : Int32) else 0))]))
      by_cases l3 : Lk (fun i => kN (kk K0 K1 K2 K3 i)) 3 0
      · rw [if_pos l3]
        refine Xb3.ifc .eq (6) 69 66 (by decide +kernel) (fun (c63 : (1 : Int32) = (0 : Int32)) => absurd c63 (by decide : ¬ (1 : Int32) = (0 : Int32))) (fun (c63 : ¬ (1 : Int32) = (0 : Int32)) => ?_)
        refine Xb3.blk hK (L := [(.iinc 2 1, 3, 1, 0), (.iload_n 2, 1, 0, 0)]) (pc' := 70) (ls' := #[.val (.ref a1), .val (.int (0 : Int32)), .val (.int (2 : Int32))]) (st' := [(.int (2 : Int32))]) (by decide +kernel) rfl ?_
        exact Xb3.retI (by decide +kernel) (by decide) (by decide) (by refine ⟨?_, rfl⟩; simp only [rk, sum4, ir, if_false, l1, if_false, l2, if_true, l3, if_true] <;> rfl)
      · rw [if_neg l3]
        refine Xb3.ifc .eq (6) 69 66 (by decide +kernel) (fun (c63 : (0 : Int32) = (0 : Int32)) => ?_) (fun (c63 : ¬ (0 : Int32) = (0 : Int32)) => absurd (by decide : (0 : Int32) = (0 : Int32)) c63)
        refine Xb3.blk hK (L := [(.iload_n 2, 1, 0, 0)]) (pc' := 70) (ls' := #[.val (.ref a1), .val (.int (0 : Int32)), .val (.int (1 : Int32))]) (st' := [(.int (1 : Int32))]) (by decide +kernel) rfl ?_
        exact Xb3.retI (by decide +kernel) (by decide) (by decide) (by refine ⟨?_, rfl⟩; simp only [rk, sum4, ir, if_false, l1, if_false, l2, if_true, l3, if_false] <;> rfl)
    · rw [if_neg l2]
      refine Xb2.ifc .eq (6) 52 49 (by decide +kernel) (fun (c46 : (0 : Int32) = (0 : Int32)) => ?_) (fun (c46 : ¬ (0 : Int32) = (0 : Int32)) => absurd (by decide : (0 : Int32) = (0 : Int32)) c46)
      refine Xb2.blk hK (L := [(.iload_n 1, 1, 0, 0), (.iconst 3, 1, 3, 0)]) (pc' := 54) (ls' := #[.val (.ref a1), .val (.int (0 : Int32)), .val (.int (0 : Int32))]) (st' := [(.int (3 : Int32)), (.int (0 : Int32))]) (by decide +kernel) rfl ?_
      refine Xb2.icmp .eq (15) 69 57 (by decide +kernel) (fun (c54 : (0 : Int32) = (3 : Int32)) => absurd c54 (by decide : ¬ (0 : Int32) = (3 : Int32))) (fun (c54 : ¬ (0 : Int32) = (3 : Int32)) => ?_)
      refine Xb2.blk hK (L := [(.aload_n 0, 1, 0, 0), (.iconst 3, 1, 3, 0), (.iload_n 1, 1, 0, 0)]) (pc' := 60) (ls' := #[.val (.ref a1), .val (.int (0 : Int32)), .val (.int (0 : Int32))]) (st' := [(.int (0 : Int32)), (.int (3 : Int32)), (.ref a1)]) (by decide +kernel) rfl ?_
      refine Xb2.callS 63 0 (argsL := [(.ref a1), (.int (3 : Int32)), (.int (0 : Int32))]) (rest := []) (rm_bf l Z a0 hw a1 K0 K1 K2 K3 3 0 h0 n0 Z0 A (by decide) (by decide)) (hw _ (List.mem_of_getElem? (i := 11) rfl)) (hw _ (List.mem_of_getElem? (i := 12) rfl)) (hw _ (List.mem_of_getElem? (i := 9) rfl)) (hw _ (List.mem_of_getElem? (i := 13) rfl)) (by decide) (ps := [(.array .long), .int, .int]) (r := some .boolean) (by decide +kernel) rfl rfl rfl rfl (by decide +kernel) (by decide) ?_
      rintro Tb3 hb3 vb3 Xb3 ⟨rfl, rfl⟩
      show Go p e below s _ n0 _ (Tb3.setTop (mkF m 63 #[.val (.ref a1), .val (.int (0 : Int32)), .val (.int (0 : Int32))] [(.int (if Lk (fun i => kN (kk K0 K1 K2 K3 i)) 3 0 then (1 : Int32) else 0))]))
      by_cases l3 : Lk (fun i => kN (kk K0 K1 K2 K3 i)) 3 0
      · rw [if_pos l3]
        refine Xb3.ifc .eq (6) 69 66 (by decide +kernel) (fun (c63 : (1 : Int32) = (0 : Int32)) => absurd c63 (by decide : ¬ (1 : Int32) = (0 : Int32))) (fun (c63 : ¬ (1 : Int32) = (0 : Int32)) => ?_)
        refine Xb3.blk hK (L := [(.iinc 2 1, 3, 1, 0), (.iload_n 2, 1, 0, 0)]) (pc' := 70) (ls' := #[.val (.ref a1), .val (.int (0 : Int32)), .val (.int (1 : Int32))]) (st' := [(.int (1 : Int32))]) (by decide +kernel) rfl ?_
        exact Xb3.retI (by decide +kernel) (by decide) (by decide) (by refine ⟨?_, rfl⟩; simp only [rk, sum4, ir, if_false, l1, if_false, l2, if_false, l3, if_true] <;> rfl)
      · rw [if_neg l3]
        refine Xb3.ifc .eq (6) 69 66 (by decide +kernel) (fun (c63 : (0 : Int32) = (0 : Int32)) => ?_) (fun (c63 : ¬ (0 : Int32) = (0 : Int32)) => absurd (by decide : (0 : Int32) = (0 : Int32)) c63)
        refine Xb3.blk hK (L := [(.iload_n 2, 1, 0, 0)]) (pc' := 70) (ls' := #[.val (.ref a1), .val (.int (0 : Int32)), .val (.int (0 : Int32))]) (st' := [(.int (0 : Int32))]) (by decide +kernel) rfl ?_
        exact Xb3.retI (by decide +kernel) (by decide) (by decide) (by refine ⟨?_, rfl⟩; simp only [rk, sum4, ir, if_false, l1, if_false, l2, if_false, l3, if_false] <;> rfl)
set_option maxRecDepth 65536 in
set_option maxHeartbeats 40000000 in
theorem rm_rk1 (l : Launch) (Z : State) (a0 : Array Value) (hw : ∀ d ∈ tables_1, d.before a0 Z = true) (a1 : Addr) (K0 K1 K2 K3 : Int64) (h0 : Heap) (n0 : Nat) (Z0 : n0 ≤ h0.size) (A : AV Z h0 a1 .long [.long K0, .long K1, .long K2, .long K3]) :
    Cnt l Z (⟨"com/example/text_to_fingerprint/texttofingerprint/service/PositionOrderByKeyPinLaw", "rank", "([JI)I"⟩ : MethodName) method_4_code 3 (some .int) ({ frames := 1, cells := 0, slots := 0, locals := 18 } : Room) n0 #[(.ref a1), (.int (1 : Int32))] h0 (fun v h => v = some (.int (Int32.ofNat (rk (Lk (fun i => kN (kk K0 K1 K2 K3 i))) 1))) ∧ h0 = h) := by
  refine Cnt.mk (by first | exact plainFor_of_name (by first | (simp [plainName, overriddenIn]; done) | decide +kernel) | decide +kernel) Z0 ?_
  intro p e s m below meth c T X
  refine Go.cast (g' := mkF m 0 #[.val (.ref a1), .val (.int (1 : Int32)), .unset] []) (by first | (simp [entryFrame, mkF, argsToLocals, Value.category, maxLocals]; done) | rfl) ?_
  have hK : (∀ q ∈ ([(7, (2147483647 : Int32))] : List (Nat × Int32)), (Jvm.Cond.constant "com/example/text_to_fingerprint/texttofingerprint/service/PositionOrderByKeyPinLaw" q.1 q.2).before a0 Z = true) ∧ (∀ q ∈ ([(24, (-9223372036854775808 : Int64)), (8, (-1 : Int64))] : List (Nat × Int64)), (Jvm.Cond.constantLong "com/example/text_to_fingerprint/texttofingerprint/service/PositionOrderByKeyPinLaw" q.1 q.2).before a0 Z = true) :=
    ⟨(fun q hq => by
      rcases List.mem_cons.mp hq with rfl | hq
      · exact hw _ (List.mem_of_getElem? (i := 0) rfl)
      exact nomatch hq), (fun q hq => by
      rcases List.mem_cons.mp hq with rfl | hq
      · exact hw _ (List.mem_of_getElem? (i := 14) rfl)
      rcases List.mem_cons.mp hq with rfl | hq
      · exact hw _ (List.mem_of_getElem? (i := 18) rfl)
      exact nomatch hq)⟩
  have ir : ¬ Lk (fun i => kN (kk K0 K1 K2 K3 i)) 1 1 := by unfold Lk; omega
  refine X.blk hK (L := [(.iconst 0, 1, 0, 0), (.istore_n 2, 1, 0, 0), (.iload_n 1, 1, 0, 0)]) (pc' := 3) (ls' := #[.val (.ref a1), .val (.int (1 : Int32)), .val (.int (0 : Int32))]) (st' := [(.int (1 : Int32))]) (by decide +kernel) rfl ?_
  refine X.ifc .eq (15) 18 6 (by decide +kernel) (fun (c3 : (1 : Int32) = (0 : Int32)) => absurd c3 (by decide : ¬ (1 : Int32) = (0 : Int32))) (fun (c3 : ¬ (1 : Int32) = (0 : Int32)) => ?_)
  refine X.blk hK (L := [(.aload_n 0, 1, 0, 0), (.iconst 0, 1, 0, 0), (.iload_n 1, 1, 0, 0)]) (pc' := 9) (ls' := #[.val (.ref a1), .val (.int (1 : Int32)), .val (.int (0 : Int32))]) (st' := [(.int (1 : Int32)), (.int (0 : Int32)), (.ref a1)]) (by decide +kernel) rfl ?_
  refine X.callS 12 0 (argsL := [(.ref a1), (.int (0 : Int32)), (.int (1 : Int32))]) (rest := []) (rm_bf l Z a0 hw a1 K0 K1 K2 K3 0 1 h0 n0 Z0 A (by decide) (by decide)) (hw _ (List.mem_of_getElem? (i := 11) rfl)) (hw _ (List.mem_of_getElem? (i := 12) rfl)) (hw _ (List.mem_of_getElem? (i := 9) rfl)) (hw _ (List.mem_of_getElem? (i := 13) rfl)) (by decide) (ps := [(.array .long), .int, .int]) (r := some .boolean) (by decide +kernel) rfl rfl rfl rfl (by decide +kernel) (by decide) ?_
  rintro Tb0 hb0 vb0 Xb0 ⟨rfl, rfl⟩
  show Go p e below s _ n0 _ (Tb0.setTop (mkF m 12 #[.val (.ref a1), .val (.int (1 : Int32)), .val (.int (0 : Int32))] [(.int (if Lk (fun i => kN (kk K0 K1 K2 K3 i)) 0 1 then (1 : Int32) else 0))]))
  by_cases l0 : Lk (fun i => kN (kk K0 K1 K2 K3 i)) 0 1
  · rw [if_pos l0]
    refine Xb0.ifc .eq (6) 18 15 (by decide +kernel) (fun (c12 : (1 : Int32) = (0 : Int32)) => absurd c12 (by decide : ¬ (1 : Int32) = (0 : Int32))) (fun (c12 : ¬ (1 : Int32) = (0 : Int32)) => ?_)
    refine Xb0.blk hK (L := [(.iinc 2 1, 3, 1, 0), (.iload_n 1, 1, 0, 0), (.iconst 1, 1, 1, 0)]) (pc' := 20) (ls' := #[.val (.ref a1), .val (.int (1 : Int32)), .val (.int (1 : Int32))]) (st' := [(.int (1 : Int32)), (.int (1 : Int32))]) (by decide +kernel) rfl ?_
    refine Xb0.icmp .eq (15) 35 23 (by decide +kernel) (fun (c20 : (1 : Int32) = (1 : Int32)) => ?_) (fun (c20 : ¬ (1 : Int32) = (1 : Int32)) => absurd (by decide : (1 : Int32) = (1 : Int32)) c20)
    refine Xb0.blk hK (L := [(.iload_n 1, 1, 0, 0), (.iconst 2, 1, 2, 0)]) (pc' := 37) (ls' := #[.val (.ref a1), .val (.int (1 : Int32)), .val (.int (1 : Int32))]) (st' := [(.int (2 : Int32)), (.int (1 : Int32))]) (by decide +kernel) rfl ?_
    refine Xb0.icmp .eq (15) 52 40 (by decide +kernel) (fun (c37 : (1 : Int32) = (2 : Int32)) => absurd c37 (by decide : ¬ (1 : Int32) = (2 : Int32))) (fun (c37 : ¬ (1 : Int32) = (2 : Int32)) => ?_)
    refine Xb0.blk hK (L := [(.aload_n 0, 1, 0, 0), (.iconst 2, 1, 2, 0), (.iload_n 1, 1, 0, 0)]) (pc' := 43) (ls' := #[.val (.ref a1), .val (.int (1 : Int32)), .val (.int (1 : Int32))]) (st' := [(.int (1 : Int32)), (.int (2 : Int32)), (.ref a1)]) (by decide +kernel) rfl ?_
    refine Xb0.callS 46 0 (argsL := [(.ref a1), (.int (2 : Int32)), (.int (1 : Int32))]) (rest := []) (rm_bf l Z a0 hw a1 K0 K1 K2 K3 2 1 h0 n0 Z0 A (by decide) (by decide)) (hw _ (List.mem_of_getElem? (i := 11) rfl)) (hw _ (List.mem_of_getElem? (i := 12) rfl)) (hw _ (List.mem_of_getElem? (i := 9) rfl)) (hw _ (List.mem_of_getElem? (i := 13) rfl)) (by decide) (ps := [(.array .long), .int, .int]) (r := some .boolean) (by decide +kernel) rfl rfl rfl rfl (by decide +kernel) (by decide) ?_
    rintro Tb2 hb2 vb2 Xb2 ⟨rfl, rfl⟩
    show Go p e below s _ n0 _ (Tb2.setTop (mkF m 46 #[.val (.ref a1), .val (.int (1 : Int32)), .val (.int (1 : Int32))] [(.int (if Lk (fun i => kN (kk K0 K1 K2 K3 i)) 2 1 then (1 : Int32) else 0))]))
    by_cases l2 : Lk (fun i => kN (kk K0 K1 K2 K3 i)) 2 1
    · rw [if_pos l2]
      refine Xb2.ifc .eq (6) 52 49 (by decide +kernel) (fun (c46 : (1 : Int32) = (0 : Int32)) => absurd c46 (by decide : ¬ (1 : Int32) = (0 : Int32))) (fun (c46 : ¬ (1 : Int32) = (0 : Int32)) => ?_)
      refine Xb2.blk hK (L := [(.iinc 2 1, 3, 1, 0), (.iload_n 1, 1, 0, 0), (.iconst 3, 1, 3, 0)]) (pc' := 54) (ls' := #[.val (.ref a1), .val (.int (1 : Int32)), .val (.int (2 : Int32))]) (st' := [(.int (3 : Int32)), (.int (1 : Int32))]) (by decide +kernel) rfl ?_
      refine Xb2.icmp .eq (15) 69 57 (by decide +kernel) (fun (c54 : (1 : Int32) = (3 : Int32)) => absurd c54 (by decide : ¬ (1 : Int32) = (3 : Int32))) (fun (c54 : ¬ (1 : Int32) = (3 : Int32)) => ?_)
      refine Xb2.blk hK (L := [(.aload_n 0, 1, 0, 0), (.iconst 3, 1, 3, 0), (.iload_n 1, 1, 0, 0)]) (pc' := 60) (ls' := #[.val (.ref a1), .val (.int (1 : Int32)), .val (.int (2 : Int32))]) (st' := [(.int (1 : Int32)), (.int (3 : Int32)), (.ref a1)]) (by decide +kernel) rfl ?_
      refine Xb2.callS 63 0 (argsL := [(.ref a1), (.int (3 : Int32)), (.int (1 : Int32))]) (rest := []) (rm_bf l Z a0 hw a1 K0 K1 K2 K3 3 1 h0 n0 Z0 A (by decide) (by decide)) (hw _ (List.mem_of_getElem? (i := 11) rfl)) (hw _ (List.mem_of_getElem? (i := 12) rfl)) (hw _ (List.mem_of_getElem? (i := 9) rfl)) (hw _ (List.mem_of_getElem? (i := 13) rfl)) (by decide) (ps := [(.array .long), .int, .int]) (r := some .boolean) (by decide +kernel) rfl rfl rfl rfl (by decide +kernel) (by decide) ?_
      rintro Tb3 hb3 vb3 Xb3 ⟨rfl, rfl⟩
      show Go p e below s _ n0 _ (Tb3.setTop (mkF m 63 #[.val (.ref a1), .val (.int (1 : Int32)), .val (.int (2 : Int32))] [(.int (if Lk (fun i => kN (kk K0 K1 K2 K3 i)) 3 1 then (1 : Int32) else 0))]))
      by_cases l3 : Lk (fun i => kN (kk K0 K1 K2 K3 i)) 3 1
      · rw [if_pos l3]
        refine Xb3.ifc .eq (6) 69 66 (by decide +kernel) (fun (c63 : (1 : Int32) = (0 : Int32)) => absurd c63 (by decide : ¬ (1 : Int32) = (0 : Int32))) (fun (c63 : ¬ (1 : Int32) = (0 : Int32)) => ?_)
        refine Xb3.blk hK (L := [(.iinc 2 1, 3, 1, 0), (.iload_n 2, 1, 0, 0)]) (pc' := 70) (ls' := #[.val (.ref a1), .val (.int (1 : Int32)), .val (.int (3 : Int32))]) (st' := [(.int (3 : Int32))]) (by decide +kernel) rfl ?_
        exact Xb3.retI (by decide +kernel) (by decide) (by decide) (by refine ⟨?_, rfl⟩; simp only [rk, sum4, ir, if_false, l0, if_true, l2, if_true, l3, if_true] <;> rfl)
      · rw [if_neg l3]
        refine Xb3.ifc .eq (6) 69 66 (by decide +kernel) (fun (c63 : (0 : Int32) = (0 : Int32)) => ?_) (fun (c63 : ¬ (0 : Int32) = (0 : Int32)) => absurd (by decide : (0 : Int32) = (0 : Int32)) c63)
        refine Xb3.blk hK (L := [(.iload_n 2, 1, 0, 0)]) (pc' := 70) (ls' := #[.val (.ref a1), .val (.int (1 : Int32)), .val (.int (2 : Int32))]) (st' := [(.int (2 : Int32))]) (by decide +kernel) rfl ?_
        exact Xb3.retI (by decide +kernel) (by decide) (by decide) (by refine ⟨?_, rfl⟩; simp only [rk, sum4, ir, if_false, l0, if_true, l2, if_true, l3, if_false] <;> rfl)
    · rw [if_neg l2]
      refine Xb2.ifc .eq (6) 52 49 (by decide +kernel) (fun (c46 : (0 : Int32) = (0 : Int32)) => ?_) (fun (c46 : ¬ (0 : Int32) = (0 : Int32)) => absurd (by decide : (0 : Int32) = (0 : Int32)) c46)
      refine Xb2.blk hK (L := [(.iload_n 1, 1, 0, 0), (.iconst 3, 1, 3, 0)]) (pc' := 54) (ls' := #[.val (.ref a1), .val (.int (1 : Int32)), .val (.int (1 : Int32))]) (st' := [(.int (3 : Int32)), (.int (1 : Int32))]) (by decide +kernel) rfl ?_
      refine Xb2.icmp .eq (15) 69 57 (by decide +kernel) (fun (c54 : (1 : Int32) = (3 : Int32)) => absurd c54 (by decide : ¬ (1 : Int32) = (3 : Int32))) (fun (c54 : ¬ (1 : Int32) = (3 : Int32)) => ?_)
      refine Xb2.blk hK (L := [(.aload_n 0, 1, 0, 0), (.iconst 3, 1, 3, 0), (.iload_n 1, 1, 0, 0)]) (pc' := 60) (ls' := #[.val (.ref a1), .val (.int (1 : Int32)), .val (.int (1 : Int32))]) (st' := [(.int (1 : Int32)), (.int (3 : Int32)), (.ref a1)]) (by decide +kernel) rfl ?_
      refine Xb2.callS 63 0 (argsL := [(.ref a1), (.int (3 : Int32)), (.int (1 : Int32))]) (rest := []) (rm_bf l Z a0 hw a1 K0 K1 K2 K3 3 1 h0 n0 Z0 A (by decide) (by decide)) (hw _ (List.mem_of_getElem? (i := 11) rfl)) (hw _ (List.mem_of_getElem? (i := 12) rfl)) (hw _ (List.mem_of_getElem? (i := 9) rfl)) (hw _ (List.mem_of_getElem? (i := 13) rfl)) (by decide) (ps := [(.array .long), .int, .int]) (r := some .boolean) (by decide +kernel) rfl rfl rfl rfl (by decide +kernel) (by decide) ?_
      rintro Tb3 hb3 vb3 Xb3 ⟨rfl, rfl⟩
      show Go p e below s _ n0 _ (Tb3.setTop (mkF m 63 #[.val (.ref a1), .val (.int (1 : Int32)), .val (.int (1 : Int32))] [(.int (if Lk (fun i => kN (kk K0 K1 K2 K3 i)) 3 1 then (1 : Int32) else 0))]))
      by_cases l3 : Lk (fun i => kN (kk K0 K1 K2 K3 i)) 3 1
      · rw [if_pos l3]
        refine Xb3.ifc .eq (6) 69 66 (by decide +kernel) (fun (c63 : (1 : Int32) = (0 : Int32)) => absurd c63 (by decide : ¬ (1 : Int32) = (0 : Int32))) (fun (c63 : ¬ (1 : Int32) = (0 : Int32)) => ?_)
        refine Xb3.blk hK (L := [(.iinc 2 1, 3, 1, 0), (.iload_n 2, 1, 0, 0)]) (pc' := 70) (ls' := #[.val (.ref a1), .val (.int (1 : Int32)), .val (.int (2 : Int32))]) (st' := [(.int (2 : Int32))]) (by decide +kernel) rfl ?_
        exact Xb3.retI (by decide +kernel) (by decide) (by decide) (by refine ⟨?_, rfl⟩; simp only [rk, sum4, ir, if_false, l0, if_true, l2, if_false, l3, if_true] <;> rfl)
      · rw [if_neg l3]
        refine Xb3.ifc .eq (6) 69 66 (by decide +kernel) (fun (c63 : (0 : Int32) = (0 : Int32)) => ?_) (fun (c63 : ¬ (0 : Int32) = (0 : Int32)) => absurd (by decide : (0 : Int32) = (0 : Int32)) c63)
        refine Xb3.blk hK (L := [(.iload_n 2, 1, 0, 0)]) (pc' := 70) (ls' := #[.val (.ref a1), .val (.int (1 : Int32)), .val (.int (1 : Int32))]) (st' := [(.int (1 : Int32))]) (by decide +kernel) rfl ?_
        exact Xb3.retI (by decide +kernel) (by decide) (by decide) (by refine ⟨?_, rfl⟩; simp only [rk, sum4, ir, if_false, l0, if_true, l2, if_false, l3, if_false] <;> rfl)
  · rw [if_neg l0]
    refine Xb0.ifc .eq (6) 18 15 (by decide +kernel) (fun (c12 : (0 : Int32) = (0 : Int32)) => ?_) (fun (c12 : ¬ (0 : Int32) = (0 : Int32)) => absurd (by decide : (0 : Int32) = (0 : Int32)) c12)
    refine Xb0.blk hK (L := [(.iload_n 1, 1, 0, 0), (.iconst 1, 1, 1, 0)]) (pc' := 20) (ls' := #[.val (.ref a1), .val (.int (1 : Int32)), .val (.int (0 : Int32))]) (st' := [(.int (1 : Int32)), (.int (1 : Int32))]) (by decide +kernel) rfl ?_
    refine Xb0.icmp .eq (15) 35 23 (by decide +kernel) (fun (c20 : (1 : Int32) = (1 : Int32)) => ?_) (fun (c20 : ¬ (1 : Int32) = (1 : Int32)) => absurd (by decide : (1 : Int32) = (1 : Int32)) c20)
    refine Xb0.blk hK (L := [(.iload_n 1, 1, 0, 0), (.iconst 2, 1, 2, 0)]) (pc' := 37) (ls' := #[.val (.ref a1), .val (.int (1 : Int32)), .val (.int (0 : Int32))]) (st' := [(.int (2 : Int32)), (.int (1 : Int32))]) (by decide +kernel) rfl ?_
    refine Xb0.icmp .eq (15) 52 40 (by decide +kernel) (fun (c37 : (1 : Int32) = (2 : Int32)) => absurd c37 (by decide : ¬ (1 : Int32) = (2 : Int32))) (fun (c37 : ¬ (1 : Int32) = (2 : Int32)) => ?_)
    refine Xb0.blk hK (L := [(.aload_n 0, 1, 0, 0), (.iconst 2, 1, 2, 0), (.iload_n 1, 1, 0, 0)]) (pc' := 43) (ls' := #[.val (.ref a1), .val (.int (1 : Int32)), .val (.int (0 : Int32))]) (st' := [(.int (1 : Int32)), (.int (2 : Int32)), (.ref a1)]) (by decide +kernel) rfl ?_
    refine Xb0.callS 46 0 (argsL := [(.ref a1), (.int (2 : Int32)), (.int (1 : Int32))]) (rest := []) (rm_bf l Z a0 hw a1 K0 K1 K2 K3 2 1 h0 n0 Z0 A (by decide) (by decide)) (hw _ (List.mem_of_getElem? (i := 11) rfl)) (hw _ (List.mem_of_getElem? (i := 12) rfl)) (hw _ (List.mem_of_getElem? (i := 9) rfl)) (hw _ (List.mem_of_getElem? (i := 13) rfl)) (by decide) (ps := [(.array .long), .int, .int]) (r := some .boolean) (by decide +kernel) rfl rfl rfl rfl (by decide +kernel) (by decide) ?_
    rintro Tb2 hb2 vb2 Xb2 ⟨rfl, rfl⟩
    show Go p e below s _ n0 _ (Tb2.setTop (mkF m 46 #[.val (.ref a1), .val (.int (1 : Int32)), .val (.int (0 : Int32))] [(.int (if Lk (fun i => kN (kk K0 K1 K2 K3 i)) 2 1 then (1 : Int32) else 0))]))
    by_cases l2 : Lk (fun i => kN (kk K0 K1 K2 K3 i)) 2 1
    · rw [if_pos l2]
      refine Xb2.ifc .eq (6) 52 49 (by decide +kernel) (fun (c46 : (1 : Int32) = (0 : Int32)) => absurd c46 (by decide : ¬ (1 : Int32) = (0 : Int32))) (fun (c46 : ¬ (1 : Int32) = (0 : Int32)) => ?_)
      refine Xb2.blk hK (L := [(.iinc 2 1, 3, 1, 0), (.iload_n 1, 1, 0, 0), (.iconst 3, 1, 3, 0)]) (pc' := 54) (ls' := #[.val (.ref a1), .val (.int (1 : Int32)), .val (.int (1 : Int32))]) (st' := [(.int (3 : Int32)), (.int (1 : Int32))]) (by decide +kernel) rfl ?_
      refine Xb2.icmp .eq (15) 69 57 (by decide +kernel) (fun (c54 : (1 : Int32) = (3 : Int32)) => absurd c54 (by decide : ¬ (1 : Int32) = (3 : Int32))) (fun (c54 : ¬ (1 : Int32) = (3 : Int32)) => ?_)
      refine Xb2.blk hK (L := [(.aload_n 0, 1, 0, 0), (.iconst 3, 1, 3, 0), (.iload_n 1, 1, 0, 0)]) (pc' := 60) (ls' := #[.val (.ref a1), .val (.int (1 : Int32)), .val (.int (1 : Int32))]) (st' := [(.int (1 : Int32)), (.int (3 : Int32)), (.ref a1)]) (by decide +kernel) rfl ?_
      refine Xb2.callS 63 0 (argsL := [(.ref a1), (.int (3 : Int32)), (.int (1 : Int32))]) (rest := []) (rm_bf l Z a0 hw a1 K0 K1 K2 K3 3 1 h0 n0 Z0 A (by decide) (by decide)) (hw _ (List.mem_of_getElem? (i := 11) rfl)) (hw _ (List.mem_of_getElem? (i := 12) rfl)) (hw _ (List.mem_of_getElem? (i := 9) rfl)) (hw _ (List.mem_of_getElem? (i := 13) rfl)) (by decide) (ps := [(.array .long), .int, .int]) (r := some .boolean) (by decide +kernel) rfl rfl rfl rfl (by decide +kernel) (by decide) ?_
      rintro Tb3 hb3 vb3 Xb3 ⟨rfl, rfl⟩
      show Go p e below s _ n0 _ (Tb3.setTop (mkF m 63 #[.val (.ref a1), .val (.int (1 : Int32)), .val (.int (1 : Int32))] [(.int (if Lk (fun i => kN (kk K0 K1 K2 K3 i)) 3 1 then (1 : Int32) else 0))]))
      by_cases l3 : Lk (fun i => kN (kk K0 K1 K2 K3 i)) 3 1
      · rw [if_pos l3]
        refine Xb3.ifc .eq (6) 69 66 (by decide +kernel) (fun (c63 : (1 : Int32) = (0 : Int32)) => absurd c63 (by decide : ¬ (1 : Int32) = (0 : Int32))) (fun (c63 : ¬ (1 : Int32) = (0 : Int32)) => ?_)
        refine Xb3.blk hK (L := [(.iinc 2 1, 3, 1, 0), (.iload_n 2, 1, 0, 0)]) (pc' := 70) (ls' := #[.val (.ref a1), .val (.int (1 : Int32)), .val (.int (2 : Int32))]) (st' := [(.int (2 : Int32))]) (by decide +kernel) rfl ?_
        exact Xb3.retI (by decide +kernel) (by decide) (by decide) (by refine ⟨?_, rfl⟩; simp only [rk, sum4, ir, if_false, l0, if_false, l2, if_true, l3, if_true] <;> rfl)
      · rw [if_neg l3]
        refine Xb3.ifc .eq (6) 69 66 (by decide +kernel) (fun (c63 : (0 : Int32) = (0 : Int32)) => ?_) (fun (c63 : ¬ (0 : Int32) = (0 : Int32)) => absurd (by decide : (0 : Int32) = (0 : Int32)) c63)
        refine Xb3.blk hK (L := [(.iload_n 2, 1, 0, 0)]) (pc' := 70) (ls' := #[.val (.ref a1), .val (.int (1 : Int32)), .val (.int (1 : Int32))]) (st' := [(.int (1 : Int32))]) (by decide +kernel) rfl ?_
        exact Xb3.retI (by decide +kernel) (by decide) (by decide) (by refine ⟨?_, rfl⟩; simp only [rk, sum4, ir, if_false, l0, if_false, l2, if_true, l3, if_false] <;> rfl)
    · rw [if_neg l2]
      refine Xb2.ifc .eq (6) 52 49 (by decide +kernel) (fun (c46 : (0 : Int32) = (0 : Int32)) => ?_) (fun (c46 : ¬ (0 : Int32) = (0 : Int32)) => absurd (by decide : (0 : Int32) = (0 : Int32)) c46)
      refine Xb2.blk hK (L := [(.iload_n 1, 1, 0, 0), (.iconst 3, 1, 3, 0)]) (pc' := 54) (ls' := #[.val (.ref a1), .val (.int (1 : Int32)), .val (.int (0 : Int32))]) (st' := [(.int (3 : Int32)), (.int (1 : Int32))]) (by decide +kernel) rfl ?_
      refine Xb2.icmp .eq (15) 69 57 (by decide +kernel) (fun (c54 : (1 : Int32) = (3 : Int32)) => absurd c54 (by decide : ¬ (1 : Int32) = (3 : Int32))) (fun (c54 : ¬ (1 : Int32) = (3 : Int32)) => ?_)
      refine Xb2.blk hK (L := [(.aload_n 0, 1, 0, 0), (.iconst 3, 1, 3, 0), (.iload_n 1, 1, 0, 0)]) (pc' := 60) (ls' := #[.val (.ref a1), .val (.int (1 : Int32)), .val (.int (0 : Int32))]) (st' := [(.int (1 : Int32)), (.int (3 : Int32)), (.ref a1)]) (by decide +kernel) rfl ?_
      refine Xb2.callS 63 0 (argsL := [(.ref a1), (.int (3 : Int32)), (.int (1 : Int32))]) (rest := []) (rm_bf l Z a0 hw a1 K0 K1 K2 K3 3 1 h0 n0 Z0 A (by decide) (by decide)) (hw _ (List.mem_of_getElem? (i := 11) rfl)) (hw _ (List.mem_of_getElem? (i := 12) rfl)) (hw _ (List.mem_of_getElem? (i := 9) rfl)) (hw _ (List.mem_of_getElem? (i := 13) rfl)) (by decide) (ps := [(.array .long), .int, .int]) (r := some .boolean) (by decide +kernel) rfl rfl rfl rfl (by decide +kernel) (by decide) ?_
      rintro Tb3 hb3 vb3 Xb3 ⟨rfl, rfl⟩
      show Go p e below s _ n0 _ (Tb3.setTop (mkF m 63 #[.val (.ref a1), .val (.int (1 : Int32)), .val (.int (0 : Int32))] [(.int (if Lk (fun i => kN (kk K0 K1 K2 K3 i)) 3 1 then (1 : Int32) else 0))]))
      by_cases l3 : Lk (fun i => kN (kk K0 K1 K2 K3 i)) 3 1
      · rw [if_pos l3]
        refine Xb3.ifc .eq (6) 69 66 (by decide +kernel) (fun (c63 : (1 : Int32) = (0 : Int32)) => absurd c63 (by decide : ¬ (1 : Int32) = (0 : Int32))) (fun (c63 : ¬ (1 : Int32) = (0 : Int32)) => ?_)
        refine Xb3.blk hK (L := [(.iinc 2 1, 3, 1, 0), (.iload_n 2, 1, 0, 0)]) (pc' := 70) (ls' := #[.val (.ref a1), .val (.int (1 : Int32)), .val (.int (1 : Int32))]) (st' := [(.int (1 : Int32))]) (by decide +kernel) rfl ?_
        exact Xb3.retI (by decide +kernel) (by decide) (by decide) (by refine ⟨?_, rfl⟩; simp only [rk, sum4, ir, if_false, l0, if_false, l2, if_false, l3, if_true] <;> rfl)
      · rw [if_neg l3]
        refine Xb3.ifc .eq (6) 69 66 (by decide +kernel) (fun (c63 : (0 : Int32) = (0 : Int32)) => ?_) (fun (c63 : ¬ (0 : Int32) = (0 : Int32)) => absurd (by decide : (0 : Int32) = (0 : Int32)) c63)
        refine Xb3.blk hK (L := [(.iload_n 2, 1, 0, 0)]) (pc' := 70) (ls' := #[.val (.ref a1), .val (.int (1 : Int32)), .val (.int (0 : Int32))]) (st' := [(.int (0 : Int32))]) (by decide +kernel) rfl ?_
        exact Xb3.retI (by decide +kernel) (by decide) (by decide) (by refine ⟨?_, rfl⟩; simp only [rk, sum4, ir, if_false, l0, if_false, l2, if_false, l3, if_false] <;> rfl)
set_option maxRecDepth 65536 in
set_option maxHeartbeats 40000000 in
theorem rm_rk2 (l : Launch) (Z : State) (a0 : Array Value) (hw : ∀ d ∈ tables_1, d.before a0 Z = true) (a1 : Addr) (K0 K1 K2 K3 : Int64) (h0 : Heap) (n0 : Nat) (Z0 : n0 ≤ h0.size) (A : AV Z h0 a1 .long [.long K0, .long K1, .long K2, .long K3]) :
    Cnt l Z (⟨"com/example/text_to_fingerprint/texttofingerprint/service/PositionOrderByKeyPinLaw", "rank", "([JI)I"⟩ : MethodName) method_4_code 3 (some .int) ({ frames := 1, cells := 0, slots := 0, locals := 18 } : Room) n0 #[(.ref a1), (.int (2 : Int32))] h0 (fun v h => v = some (.int (Int32.ofNat (rk (Lk (fun i => kN (kk K0 K1 K2 K3 i))) 2))) ∧ h0 = h) := by
  refine Cnt.mk (by first | exact plainFor_of_name (by first | (simp [plainName, overriddenIn]; done) | decide +kernel) | decide +kernel) Z0 ?_
  intro p e s m below meth c T X
  refine Go.cast (g' := mkF m 0 #[.val (.ref a1), .val (.int (2 : Int32)), .unset] []) (by first | (simp [entryFrame, mkF, argsToLocals, Value.category, maxLocals]; done) | rfl) ?_
  have hK : (∀ q ∈ ([(7, (2147483647 : Int32))] : List (Nat × Int32)), (Jvm.Cond.constant "com/example/text_to_fingerprint/texttofingerprint/service/PositionOrderByKeyPinLaw" q.1 q.2).before a0 Z = true) ∧ (∀ q ∈ ([(24, (-9223372036854775808 : Int64)), (8, (-1 : Int64))] : List (Nat × Int64)), (Jvm.Cond.constantLong "com/example/text_to_fingerprint/texttofingerprint/service/PositionOrderByKeyPinLaw" q.1 q.2).before a0 Z = true) :=
    ⟨(fun q hq => by
      rcases List.mem_cons.mp hq with rfl | hq
      · exact hw _ (List.mem_of_getElem? (i := 0) rfl)
      exact nomatch hq), (fun q hq => by
      rcases List.mem_cons.mp hq with rfl | hq
      · exact hw _ (List.mem_of_getElem? (i := 14) rfl)
      rcases List.mem_cons.mp hq with rfl | hq
      · exact hw _ (List.mem_of_getElem? (i := 18) rfl)
      exact nomatch hq)⟩
  have ir : ¬ Lk (fun i => kN (kk K0 K1 K2 K3 i)) 2 2 := by unfold Lk; omega
  refine X.blk hK (L := [(.iconst 0, 1, 0, 0), (.istore_n 2, 1, 0, 0), (.iload_n 1, 1, 0, 0)]) (pc' := 3) (ls' := #[.val (.ref a1), .val (.int (2 : Int32)), .val (.int (0 : Int32))]) (st' := [(.int (2 : Int32))]) (by decide +kernel) rfl ?_
  refine X.ifc .eq (15) 18 6 (by decide +kernel) (fun (c3 : (2 : Int32) = (0 : Int32)) => absurd c3 (by decide : ¬ (2 : Int32) = (0 : Int32))) (fun (c3 : ¬ (2 : Int32) = (0 : Int32)) => ?_)
  refine X.blk hK (L := [(.aload_n 0, 1, 0, 0), (.iconst 0, 1, 0, 0), (.iload_n 1, 1, 0, 0)]) (pc' := 9) (ls' := #[.val (.ref a1), .val (.int (2 : Int32)), .val (.int (0 : Int32))]) (st' := [(.int (2 : Int32)), (.int (0 : Int32)), (.ref a1)]) (by decide +kernel) rfl ?_
  refine X.callS 12 0 (argsL := [(.ref a1), (.int (0 : Int32)), (.int (2 : Int32))]) (rest := []) (rm_bf l Z a0 hw a1 K0 K1 K2 K3 0 2 h0 n0 Z0 A (by decide) (by decide)) (hw _ (List.mem_of_getElem? (i := 11) rfl)) (hw _ (List.mem_of_getElem? (i := 12) rfl)) (hw _ (List.mem_of_getElem? (i := 9) rfl)) (hw _ (List.mem_of_getElem? (i := 13) rfl)) (by decide) (ps := [(.array .long), .int, .int]) (r := some .boolean) (by decide +kernel) rfl rfl rfl rfl (by decide +kernel) (by decide) ?_
  rintro Tb0 hb0 vb0 Xb0 ⟨rfl, rfl⟩
  show Go p e below s _ n0 _ (Tb0.setTop (mkF m 12 #[.val (.ref a1), .val (.int (2 : Int32)), .val (.int (0 : Int32))] [(.int (if Lk (fun i => kN (kk K0 K1 K2 K3 i)) 0 2 then (1 : Int32) else 0))]))
  by_cases l0 : Lk (fun i => kN (kk K0 K1 K2 K3 i)) 0 2
  · rw [if_pos l0]
    refine Xb0.ifc .eq (6) 18 15 (by decide +kernel) (fun (c12 : (1 : Int32) = (0 : Int32)) => absurd c12 (by decide : ¬ (1 : Int32) = (0 : Int32))) (fun (c12 : ¬ (1 : Int32) = (0 : Int32)) => ?_)
    refine Xb0.blk hK (L := [(.iinc 2 1, 3, 1, 0), (.iload_n 1, 1, 0, 0), (.iconst 1, 1, 1, 0)]) (pc' := 20) (ls' := #[.val (.ref a1), .val (.int (2 : Int32)), .val (.int (1 : Int32))]) (st' := [(.int (1 : Int32)), (.int (2 : Int32))]) (by decide +kernel) rfl ?_
    refine Xb0.icmp .eq (15) 35 23 (by decide +kernel) (fun (c20 : (2 : Int32) = (1 : Int32)) => absurd c20 (by decide : ¬ (2 : Int32) = (1 : Int32))) (fun (c20 : ¬ (2 : Int32) = (1 : Int32)) => ?_)
    refine Xb0.blk hK (L := [(.aload_n 0, 1, 0, 0), (.iconst 1, 1, 1, 0), (.iload_n 1, 1, 0, 0)]) (pc' := 26) (ls' := #[.val (.ref a1), .val (.int (2 : Int32)), .val (.int (1 : Int32))]) (st' := [(.int (2 : Int32)), (.int (1 : Int32)), (.ref a1)]) (by decide +kernel) rfl ?_
    refine Xb0.callS 29 0 (argsL := [(.ref a1), (.int (1 : Int32)), (.int (2 : Int32))]) (rest := []) (rm_bf l Z a0 hw a1 K0 K1 K2 K3 1 2 h0 n0 Z0 A (by decide) (by decide)) (hw _ (List.mem_of_getElem? (i := 11) rfl)) (hw _ (List.mem_of_getElem? (i := 12) rfl)) (hw _ (List.mem_of_getElem? (i := 9) rfl)) (hw _ (List.mem_of_getElem? (i := 13) rfl)) (by decide) (ps := [(.array .long), .int, .int]) (r := some .boolean) (by decide +kernel) rfl rfl rfl rfl (by decide +kernel) (by decide) ?_
    rintro Tb1 hb1 vb1 Xb1 ⟨rfl, rfl⟩
    show Go p e below s _ n0 _ (Tb1.setTop (mkF m 29 #[.val (.ref a1), .val (.int (2 : Int32)), .val (.int (1 : Int32))] [(.int (if Lk (fun i => kN (kk K0 K1 K2 K3 i)) 1 2 then (1 : Int32) else 0))]))
    by_cases l1 : Lk (fun i => kN (kk K0 K1 K2 K3 i)) 1 2
    · rw [if_pos l1]
      refine Xb1.ifc .eq (6) 35 32 (by decide +kernel) (fun (c29 : (1 : Int32) = (0 : Int32)) => absurd c29 (by decide : ¬ (1 : Int32) = (0 : Int32))) (fun (c29 : ¬ (1 : Int32) = (0 : Int32)) => ?_)
      refine Xb1.blk hK (L := [(.iinc 2 1, 3, 1, 0), (.iload_n 1, 1, 0, 0), (.iconst 2, 1, 2, 0)]) (pc' := 37) (ls' := #[.val (.ref a1), .val (.int (2 : Int32)), .val (.int (2 : Int32))]) (st' := [(.int (2 : Int32)), (.int (2 : Int32))]) (by decide +kernel) rfl ?_
      refine Xb1.icmp .eq (15) 52 40 (by decide +kernel) (fun (c37 : (2 : Int32) = (2 : Int32)) => ?_) (fun (c37 : ¬ (2 : Int32) = (2 : Int32)) => absurd (by decide : (2 : Int32) = (2 : Int32)) c37)
      refine Xb1.blk hK (L := [(.iload_n 1, 1, 0, 0), (.iconst 3, 1, 3, 0)]) (pc' := 54) (ls' := #[.val (.ref a1), .val (.int (2 : Int32)), .val (.int (2 : Int32))]) (st' := [(.int (3 : Int32)), (.int (2 : Int32))]) (by decide +kernel) rfl ?_
      refine Xb1.icmp .eq (15) 69 57 (by decide +kernel) (fun (c54 : (2 : Int32) = (3 : Int32)) => absurd c54 (by decide : ¬ (2 : Int32) = (3 : Int32))) (fun (c54 : ¬ (2 : Int32) = (3 : Int32)) => ?_)
      refine Xb1.blk hK (L := [(.aload_n 0, 1, 0, 0), (.iconst 3, 1, 3, 0), (.iload_n 1, 1, 0, 0)]) (pc' := 60) (ls' := #[.val (.ref a1), .val (.int (2 : Int32)), .val (.int (2 : Int32))]) (st' := [(.int (2 : Int32)), (.int (3 : Int32)), (.ref a1)]) (by decide +kernel) rfl ?_
      refine Xb1.callS 63 0 (argsL := [(.ref a1), (.int (3 : Int32)), (.int (2 : Int32))]) (rest := []) (rm_bf l Z a0 hw a1 K0 K1 K2 K3 3 2 h0 n0 Z0 A (by decide) (by decide)) (hw _ (List.mem_of_getElem? (i := 11) rfl)) (hw _ (List.mem_of_getElem? (i := 12) rfl)) (hw _ (List.mem_of_getElem? (i := 9) rfl)) (hw _ (List.mem_of_getElem? (i := 13) rfl)) (by decide) (ps := [(.array .long), .int, .int]) (r := some .boolean) (by decide +kernel) rfl rfl rfl rfl (by decide +kernel) (by decide) ?_
      rintro Tb3 hb3 vb3 Xb3 ⟨rfl, rfl⟩
      show Go p e below s _ n0 _ (Tb3.setTop (mkF m 63 #[.val (.ref a1), .val (.int (2 : Int32)), .val (.int (2 : Int32))] [(.int (if Lk (fun i => kN (kk K0 K1 K2 K3 i)) 3 2 then (1 : Int32) else 0))]))
      by_cases l3 : Lk (fun i => kN (kk K0 K1 K2 K3 i)) 3 2
      · rw [if_pos l3]
        refine Xb3.ifc .eq (6) 69 66 (by decide +kernel) (fun (c63 : (1 : Int32) = (0 : Int32)) => absurd c63 (by decide : ¬ (1 : Int32) = (0 : Int32))) (fun (c63 : ¬ (1 : Int32) = (0 : Int32)) => ?_)
        refine Xb3.blk hK (L := [(.iinc 2 1, 3, 1, 0), (.iload_n 2, 1, 0, 0)]) (pc' := 70) (ls' := #[.val (.ref a1), .val (.int (2 : Int32)), .val (.int (3 : Int32))]) (st' := [(.int (3 : Int32))]) (by decide +kernel) rfl ?_
        exact Xb3.retI (by decide +kernel) (by decide) (by decide) (by refine ⟨?_, rfl⟩; simp only [rk, sum4, ir, if_false, l0, if_true, l1, if_true, l3, if_true] <;> rfl)
      · rw [if_neg l3]
        refine Xb3.ifc .eq (6) 69 66 (by decide +kernel) (fun (c63 : (0 : Int32) = (0 : Int32)) => ?_) (fun (c63 : ¬ (0 : Int32) = (0 : Int32)) => absurd (by decide : (0 : Int32) = (0 : Int32)) c63)
        refine Xb3.blk hK (L := [(.iload_n 2, 1, 0, 0)]) (pc' := 70) (ls' := #[.val (.ref a1), .val (.int (2 : Int32)), .val (.int (2 : Int32))]) (st' := [(.int (2 : Int32))]) (by decide +kernel) rfl ?_
        exact Xb3.retI (by decide +kernel) (by decide) (by decide) (by refine ⟨?_, rfl⟩; simp only [rk, sum4, ir, if_false, l0, if_true, l1, if_true, l3, if_false] <;> rfl)
    · rw [if_neg l1]
      refine Xb1.ifc .eq (6) 35 32 (by decide +kernel) (fun (c29 : (0 : Int32) = (0 : Int32)) => ?_) (fun (c29 : ¬ (0 : Int32) = (0 : Int32)) => absurd (by decide : (0 : Int32) = (0 : Int32)) c29)
      refine Xb1.blk hK (L := [(.iload_n 1, 1, 0, 0), (.iconst 2, 1, 2, 0)]) (pc' := 37) (ls' := #[.val (.ref a1), .val (.int (2 : Int32)), .val (.int (1 : Int32))]) (st' := [(.int (2 : Int32)), (.int (2 : Int32))]) (by decide +kernel) rfl ?_
      refine Xb1.icmp .eq (15) 52 40 (by decide +kernel) (fun (c37 : (2 : Int32) = (2 : Int32)) => ?_) (fun (c37 : ¬ (2 : Int32) = (2 : Int32)) => absurd (by decide : (2 : Int32) = (2 : Int32)) c37)
      refine Xb1.blk hK (L := [(.iload_n 1, 1, 0, 0), (.iconst 3, 1, 3, 0)]) (pc' := 54) (ls' := #[.val (.ref a1), .val (.int (2 : Int32)), .val (.int (1 : Int32))]) (st' := [(.int (3 : Int32)), (.int (2 : Int32))]) (by decide +kernel) rfl ?_
      refine Xb1.icmp .eq (15) 69 57 (by decide +kernel) (fun (c54 : (2 : Int32) = (3 : Int32)) => absurd c54 (by decide : ¬ (2 : Int32) = (3 : Int32))) (fun (c54 : ¬ (2 : Int32) = (3 : Int32)) => ?_)
      refine Xb1.blk hK (L := [(.aload_n 0, 1, 0, 0), (.iconst 3, 1, 3, 0), (.iload_n 1, 1, 0, 0)]) (pc' := 60) (ls' := #[.val (.ref a1), .val (.int (2 : Int32)), .val (.int (1 : Int32))]) (st' := [(.int (2 : Int32)), (.int (3 : Int32)), (.ref a1)]) (by decide +kernel) rfl ?_
      refine Xb1.callS 63 0 (argsL := [(.ref a1), (.int (3 : Int32)), (.int (2 : Int32))]) (rest := []) (rm_bf l Z a0 hw a1 K0 K1 K2 K3 3 2 h0 n0 Z0 A (by decide) (by decide)) (hw _ (List.mem_of_getElem? (i := 11) rfl)) (hw _ (List.mem_of_getElem? (i := 12) rfl)) (hw _ (List.mem_of_getElem? (i := 9) rfl)) (hw _ (List.mem_of_getElem? (i := 13) rfl)) (by decide) (ps := [(.array .long), .int, .int]) (r := some .boolean) (by decide +kernel) rfl rfl rfl rfl (by decide +kernel) (by decide) ?_
      rintro Tb3 hb3 vb3 Xb3 ⟨rfl, rfl⟩
      show Go p e below s _ n0 _ (Tb3.setTop (mkF m 63 #[.val (.ref a1), .val (.int (2 : Int32)), .val (.int (1 : Int32))] [(.int (if Lk (fun i => kN (kk K0 K1 K2 K3 i)) 3 2 then (1 : Int32) else 0))]))
      by_cases l3 : Lk (fun i => kN (kk K0 K1 K2 K3 i)) 3 2
      · rw [if_pos l3]
        refine Xb3.ifc .eq (6) 69 66 (by decide +kernel) (fun (c63 : (1 : Int32) = (0 : Int32)) => absurd c63 (by decide : ¬ (1 : Int32) = (0 : Int32))) (fun (c63 : ¬ (1 : Int32) = (0 : Int32)) => ?_)
        refine Xb3.blk hK (L := [(.iinc 2 1, 3, 1, 0), (.iload_n 2, 1, 0, 0)]) (pc' := 70) (ls' := #[.val (.ref a1), .val (.int (2 : Int32)), .val (.int (2 : Int32))]) (st' := [(.int (2 : Int32))]) (by decide +kernel) rfl ?_
        exact Xb3.retI (by decide +kernel) (by decide) (by decide) (by refine ⟨?_, rfl⟩; simp only [rk, sum4, ir, if_false, l0, if_true, l1, if_false, l3, if_true] <;> rfl)
      · rw [if_neg l3]
        refine Xb3.ifc .eq (6) 69 66 (by decide +kernel) (fun (c63 : (0 : Int32) = (0 : Int32)) => ?_) (fun (c63 : ¬ (0 : Int32) = (0 : Int32)) => absurd (by decide : (0 : Int32) = (0 : Int32)) c63)
        refine Xb3.blk hK (L := [(.iload_n 2, 1, 0, 0)]) (pc' := 70) (ls' := #[.val (.ref a1), .val (.int (2 : Int32)), .val (.int (1 : Int32))]) (st' := [(.int (1 : Int32))]) (by decide +kernel) rfl ?_
        exact Xb3.retI (by decide +kernel) (by decide) (by decide) (by refine ⟨?_, rfl⟩; simp only [rk, sum4, ir, if_false, l0, if_true, l1, if_false, l3, if_false] <;> rfl)
  · rw [if_neg l0]
    refine Xb0.ifc .eq (6) 18 15 (by decide +kernel) (fun (c12 : (0 : Int32) = (0 : Int32)) => ?_) (fun (c12 : ¬ (0 : Int32) = (0 : Int32)) => absurd (by decide : (0 : Int32) = (0 : Int32)) c12)
    refine Xb0.blk hK (L := [(.iload_n 1, 1, 0, 0), (.iconst 1, 1, 1, 0)]) (pc' := 20) (ls' := #[.val (.ref a1), .val (.int (2 : Int32)), .val (.int (0 : Int32))]) (st' := [(.int (1 : Int32)), (.int (2 : Int32))]) (by decide +kernel) rfl ?_
    refine Xb0.icmp .eq (15) 35 23 (by decide +kernel) (fun (c20 : (2 : Int32) = (1 : Int32)) => absurd c20 (by decide : ¬ (2 : Int32) = (1 : Int32))) (fun (c20 : ¬ (2 : Int32) = (1 : Int32)) => ?_)
    refine Xb0.blk hK (L := [(.aload_n 0, 1, 0, 0), (.iconst 1, 1, 1, 0), (.iload_n 1, 1, 0, 0)]) (pc' := 26) (ls' := #[.val (.ref a1), .val (.int (2 : Int32)), .val (.int (0 : Int32))]) (st' := [(.int (2 : Int32)), (.int (1 : Int32)), (.ref a1)]) (by decide +kernel) rfl ?_
    refine Xb0.callS 29 0 (argsL := [(.ref a1), (.int (1 : Int32)), (.int (2 : Int32))]) (rest := []) (rm_bf l Z a0 hw a1 K0 K1 K2 K3 1 2 h0 n0 Z0 A (by decide) (by decide)) (hw _ (List.mem_of_getElem? (i := 11) rfl)) (hw _ (List.mem_of_getElem? (i := 12) rfl)) (hw _ (List.mem_of_getElem? (i := 9) rfl)) (hw _ (List.mem_of_getElem? (i := 13) rfl)) (by decide) (ps := [(.array .long), .int, .int]) (r := some .boolean) (by decide +kernel) rfl rfl rfl rfl (by decide +kernel) (by decide) ?_
    rintro Tb1 hb1 vb1 Xb1 ⟨rfl, rfl⟩
    show Go p e below s _ n0 _ (Tb1.setTop (mkF m 29 #[.val (.ref a1), .val (.int (2 : Int32)), .val (.int (0 : Int32))] [(.int (if Lk (fun i => kN (kk K0 K1 K2 K3 i)) 1 2 then (1 : Int32) else 0))]))
    by_cases l1 : Lk (fun i => kN (kk K0 K1 K2 K3 i)) 1 2
    · rw [if_pos l1]
      refine Xb1.ifc .eq (6) 35 32 (by decide +kernel) (fun (c29 : (1 : Int32) = (0 : Int32)) => absurd c29 (by decide : ¬ (1 : Int32) = (0 : Int32))) (fun (c29 : ¬ (1 : Int32) = (0 : Int32)) => ?_)
      refine Xb1.blk hK (L := [(.iinc 2 1, 3, 1, 0), (.iload_n 1, 1, 0, 0), (.iconst 2, 1, 2, 0)]) (pc' := 37) (ls' := #[.val (.ref a1), .val (.int (2 : Int32)), .val (.int (1 : Int32))]) (st' := [(.int (2 : Int32)), (.int (2 : Int32))]) (by decide +kernel) rfl ?_
      refine Xb1.icmp .eq (15) 52 40 (by decide +kernel) (fun (c37 : (2 : Int32) = (2 : Int32)) => ?_) (fun (c37 : ¬ (2 : Int32) = (2 : Int32)) => absurd (by decide : (2 : Int32) = (2 : Int32)) c37)
      refine Xb1.blk hK (L := [(.iload_n 1, 1, 0, 0), (.iconst 3, 1, 3, 0)]) (pc' := 54) (ls' := #[.val (.ref a1), .val (.int (2 : Int32)), .val (.int (1 : Int32))]) (st' := [(.int (3 : Int32)), (.int (2 : Int32))]) (by decide +kernel) rfl ?_
      refine Xb1.icmp .eq (15) 69 57 (by decide +kernel) (fun (c54 : (2 : Int32) = (3 : Int32)) => absurd c54 (by decide : ¬ (2 : Int32) = (3 : Int32))) (fun (c54 : ¬ (2 : Int32) = (3 : Int32)) => ?_)
      refine Xb1.blk hK (L := [(.aload_n 0, 1, 0, 0), (.iconst 3, 1, 3, 0), (.iload_n 1, 1, 0, 0)]) (pc' := 60) (ls' := #[.val (.ref a1), .val (.int (2 : Int32)), .val (.int (1 : Int32))]) (st' := [(.int (2 : Int32)), (.int (3 : Int32)), (.ref a1)]) (by decide +kernel) rfl ?_
      refine Xb1.callS 63 0 (argsL := [(.ref a1), (.int (3 : Int32)), (.int (2 : Int32))]) (rest := []) (rm_bf l Z a0 hw a1 K0 K1 K2 K3 3 2 h0 n0 Z0 A (by decide) (by decide)) (hw _ (List.mem_of_getElem? (i := 11) rfl)) (hw _ (List.mem_of_getElem? (i := 12) rfl)) (hw _ (List.mem_of_getElem? (i := 9) rfl)) (hw _ (List.mem_of_getElem? (i := 13) rfl)) (by decide) (ps := [(.array .long), .int, .int]) (r := some .boolean) (by decide +kernel) rfl rfl rfl rfl (by decide +kernel) (by decide) ?_
      rintro Tb3 hb3 vb3 Xb3 ⟨rfl, rfl⟩
      show Go p e below s _ n0 _ (Tb3.setTop (mkF m 63 #[.val (.ref a1), .val (.int (2 : Int32)), .val (.int (1 : Int32))] [(.int (if Lk (fun i => kN (kk K0 K1 K2 K3 i)) 3 2 then (1 : Int32) else 0))]))
      by_cases l3 : Lk (fun i => kN (kk K0 K1 K2 K3 i)) 3 2
      · rw [if_pos l3]
        refine Xb3.ifc .eq (6) 69 66 (by decide +kernel) (fun (c63 : (1 : Int32) = (0 : Int32)) => absurd c63 (by decide : ¬ (1 : Int32) = (0 : Int32))) (fun (c63 : ¬ (1 : Int32) = (0 : Int32)) => ?_)
        refine Xb3.blk hK (L := [(.iinc 2 1, 3, 1, 0), (.iload_n 2, 1, 0, 0)]) (pc' := 70) (ls' := #[.val (.ref a1), .val (.int (2 : Int32)), .val (.int (2 : Int32))]) (st' := [(.int (2 : Int32))]) (by decide +kernel) rfl ?_
        exact Xb3.retI (by decide +kernel) (by decide) (by decide) (by refine ⟨?_, rfl⟩; simp only [rk, sum4, ir, if_false, l0, if_false, l1, if_true, l3, if_true] <;> rfl)
      · rw [if_neg l3]
        refine Xb3.ifc .eq (6) 69 66 (by decide +kernel) (fun (c63 : (0 : Int32) = (0 : Int32)) => ?_) (fun (c63 : ¬ (0 : Int32) = (0 : Int32)) => absurd (by decide : (0 : Int32) = (0 : Int32)) c63)
        refine Xb3.blk hK (L := [(.iload_n 2, 1, 0, 0)]) (pc' := 70) (ls' := #[.val (.ref a1), .val (.int (2 : Int32)), .val (.int (1 : Int32))]) (st' := [(.int (1 : Int32))]) (by decide +kernel) rfl ?_
        exact Xb3.retI (by decide +kernel) (by decide) (by decide) (by refine ⟨?_, rfl⟩; simp only [rk, sum4, ir, if_false, l0, if_false, l1, if_true, l3, if_false] <;> rfl)
    · rw [if_neg l1]
      refine Xb1.ifc .eq (6) 35 32 (by decide +kernel) (fun (c29 : (0 : Int32) = (0 : Int32)) => ?_) (fun (c29 : ¬ (0 : Int32) = (0 : Int32)) => absurd (by decide : (0 : Int32) = (0 : Int32)) c29)
      refine Xb1.blk hK (L := [(.iload_n 1, 1, 0, 0), (.iconst 2, 1, 2, 0)]) (pc' := 37) (ls' := #[.val (.ref a1), .val (.int (2 : Int32)), .val (.int (0 : Int32))]) (st' := [(.int (2 : Int32)), (.int (2 : Int32))]) (by decide +kernel) rfl ?_
      refine Xb1.icmp .eq (15) 52 40 (by decide +kernel) (fun (c37 : (2 : Int32) = (2 : Int32)) => ?_) (fun (c37 : ¬ (2 : Int32) = (2 : Int32)) => absurd (by decide : (2 : Int32) = (2 : Int32)) c37)
      refine Xb1.blk hK (L := [(.iload_n 1, 1, 0, 0), (.iconst 3, 1, 3, 0)]) (pc' := 54) (ls' := #[.val (.ref a1), .val (.int (2 : Int32)), .val (.int (0 : Int32))]) (st' := [(.int (3 : Int32)), (.int (2 : Int32))]) (by decide +kernel) rfl ?_
      refine Xb1.icmp .eq (15) 69 57 (by decide +kernel) (fun (c54 : (2 : Int32) = (3 : Int32)) => absurd c54 (by decide : ¬ (2 : Int32) = (3 : Int32))) (fun (c54 : ¬ (2 : Int32) = (3 : Int32)) => ?_)
      refine Xb1.blk hK (L := [(.aload_n 0, 1, 0, 0), (.iconst 3, 1, 3, 0), (.iload_n 1, 1, 0, 0)]) (pc' := 60) (ls' := #[.val (.ref a1), .val (.int (2 : Int32)), .val (.int (0 : Int32))]) (st' := [(.int (2 : Int32)), (.int (3 : Int32)), (.ref a1)]) (by decide +kernel) rfl ?_
      refine Xb1.callS 63 0 (argsL := [(.ref a1), (.int (3 : Int32)), (.int (2 : Int32))]) (rest := []) (rm_bf l Z a0 hw a1 K0 K1 K2 K3 3 2 h0 n0 Z0 A (by decide) (by decide)) (hw _ (List.mem_of_getElem? (i := 11) rfl)) (hw _ (List.mem_of_getElem? (i := 12) rfl)) (hw _ (List.mem_of_getElem? (i := 9) rfl)) (hw _ (List.mem_of_getElem? (i := 13) rfl)) (by decide) (ps := [(.array .long), .int, .int]) (r := some .boolean) (by decide +kernel) rfl rfl rfl rfl (by decide +kernel) (by decide) ?_
      rintro Tb3 hb3 vb3 Xb3 ⟨rfl, rfl⟩
      show Go p e below s _ n0 _ (Tb3.setTop (mkF m 63 #[.val (.ref a1), .val (.int (2 : Int32)), .val (.int (0 : Int32))] [(.int (if Lk (fun i => kN (kk K0 K1 K2 K3 i)) 3 2 then (1 : Int32) else 0))]))
      by_cases l3 : Lk (fun i => kN (kk K0 K1 K2 K3 i)) 3 2
      · rw [if_pos l3]
        refine Xb3.ifc .eq (6) 69 66 (by decide +kernel) (fun (c63 : (1 : Int32) = (0 : Int32)) => absurd c63 (by decide : ¬ (1 : Int32) = (0 : Int32))) (fun (c63 : ¬ (1 : Int32) = (0 : Int32)) => ?_)
        refine Xb3.blk hK (L := [(.iinc 2 1, 3, 1, 0), (.iload_n 2, 1, 0, 0)]) (pc' := 70) (ls' := #[.val (.ref a1), .val (.int (2 : Int32)), .val (.int (1 : Int32))]) (st' := [(.int (1 : Int32))]) (by decide +kernel) rfl ?_
        exact Xb3.retI (by decide +kernel) (by decide) (by decide) (by refine ⟨?_, rfl⟩; simp only [rk, sum4, ir, if_false, l0, if_false, l1, if_false, l3, if_true] <;> rfl)
      · rw [if_neg l3]
        refine Xb3.ifc .eq (6) 69 66 (by decide +kernel) (fun (c63 : (0 : Int32) = (0 : Int32)) => ?_) (fun (c63 : ¬ (0 : Int32) = (0 : Int32)) => absurd (by decide : (0 : Int32) = (0 : Int32)) c63)
        refine Xb3.blk hK (L := [(.iload_n 2, 1, 0, 0)]) (pc' := 70) (ls' := #[.val (.ref a1), .val (.int (2 : Int32)), .val (.int (0 : Int32))]) (st' := [(.int (0 : Int32))]) (by decide +kernel) rfl ?_
        exact Xb3.retI (by decide +kernel) (by decide) (by decide) (by refine ⟨?_, rfl⟩; simp only [rk, sum4, ir, if_false, l0, if_false, l1, if_false, l3, if_false] <;> rfl)
set_option maxRecDepth 65536 in
set_option maxHeartbeats 40000000 in
theorem rm_rk3 (l : Launch) (Z : State) (a0 : Array Value) (hw : ∀ d ∈ tables_1, d.before a0 Z = true) (a1 : Addr) (K0 K1 K2 K3 : Int64) (h0 : Heap) (n0 : Nat) (Z0 : n0 ≤ h0.size) (A : AV Z h0 a1 .long [.long K0, .long K1, .long K2, .long K3]) :
    Cnt l Z (⟨"com/example/text_to_fingerprint/texttofingerprint/service/PositionOrderByKeyPinLaw", "rank", "([JI)I"⟩ : MethodName) method_4_code 3 (some .int) ({ frames := 1, cells := 0, slots := 0, locals := 18 } : Room) n0 #[(.ref a1), (.int (3 : Int32))] h0 (fun v h => v = some (.int (Int32.ofNat (rk (Lk (fun i => kN (kk K0 K1 K2 K3 i))) 3))) ∧ h0 = h) := by
  refine Cnt.mk (by first | exact plainFor_of_name (by first | (simp [plainName, overriddenIn]; done) | decide +kernel) | decide +kernel) Z0 ?_
  intro p e s m below meth c T X
  refine Go.cast (g' := mkF m 0 #[.val (.ref a1), .val (.int (3 : Int32)), .unset] []) (by first | (simp [entryFrame, mkF, argsToLocals, Value.category, maxLocals]; done) | rfl) ?_
  have hK : (∀ q ∈ ([(7, (2147483647 : Int32))] : List (Nat × Int32)), (Jvm.Cond.constant "com/example/text_to_fingerprint/texttofingerprint/service/PositionOrderByKeyPinLaw" q.1 q.2).before a0 Z = true) ∧ (∀ q ∈ ([(24, (-9223372036854775808 : Int64)), (8, (-1 : Int64))] : List (Nat × Int64)), (Jvm.Cond.constantLong "com/example/text_to_fingerprint/texttofingerprint/service/PositionOrderByKeyPinLaw" q.1 q.2).before a0 Z = true) :=
    ⟨(fun q hq => by
      rcases List.mem_cons.mp hq with rfl | hq
      · exact hw _ (List.mem_of_getElem? (i := 0) rfl)
      exact nomatch hq), (fun q hq => by
      rcases List.mem_cons.mp hq with rfl | hq
      · exact hw _ (List.mem_of_getElem? (i := 14) rfl)
      rcases List.mem_cons.mp hq with rfl | hq
      · exact hw _ (List.mem_of_getElem? (i := 18) rfl)
      exact nomatch hq)⟩
  have ir : ¬ Lk (fun i => kN (kk K0 K1 K2 K3 i)) 3 3 := by unfold Lk; omega
  refine X.blk hK (L := [(.iconst 0, 1, 0, 0), (.istore_n 2, 1, 0, 0), (.iload_n 1, 1, 0, 0)]) (pc' := 3) (ls' := #[.val (.ref a1), .val (.int (3 : Int32)), .val (.int (0 : Int32))]) (st' := [(.int (3 : Int32))]) (by decide +kernel) rfl ?_
  refine X.ifc .eq (15) 18 6 (by decide +kernel) (fun (c3 : (3 : Int32) = (0 : Int32)) => absurd c3 (by decide : ¬ (3 : Int32) = (0 : Int32))) (fun (c3 : ¬ (3 : Int32) = (0 : Int32)) => ?_)
  refine X.blk hK (L := [(.aload_n 0, 1, 0, 0), (.iconst 0, 1, 0, 0), (.iload_n 1, 1, 0, 0)]) (pc' := 9) (ls' := #[.val (.ref a1), .val (.int (3 : Int32)), .val (.int (0 : Int32))]) (st' := [(.int (3 : Int32)), (.int (0 : Int32)), (.ref a1)]) (by decide +kernel) rfl ?_
  refine X.callS 12 0 (argsL := [(.ref a1), (.int (0 : Int32)), (.int (3 : Int32))]) (rest := []) (rm_bf l Z a0 hw a1 K0 K1 K2 K3 0 3 h0 n0 Z0 A (by decide) (by decide)) (hw _ (List.mem_of_getElem? (i := 11) rfl)) (hw _ (List.mem_of_getElem? (i := 12) rfl)) (hw _ (List.mem_of_getElem? (i := 9) rfl)) (hw _ (List.mem_of_getElem? (i := 13) rfl)) (by decide) (ps := [(.array .long), .int, .int]) (r := some .boolean) (by decide +kernel) rfl rfl rfl rfl (by decide +kernel) (by decide) ?_
  rintro Tb0 hb0 vb0 Xb0 ⟨rfl, rfl⟩
  show Go p e below s _ n0 _ (Tb0.setTop (mkF m 12 #[.val (.ref a1), .val (.int (3 : Int32)), .val (.int (0 : Int32))] [(.int (if Lk (fun i => kN (kk K0 K1 K2 K3 i)) 0 3 then (1 : Int32) else 0))]))
  by_cases l0 : Lk (fun i => kN (kk K0 K1 K2 K3 i)) 0 3
  · rw [if_pos l0]
    refine Xb0.ifc .eq (6) 18 15 (by decide +kernel) (fun (c12 : (1 : Int32) = (0 : Int32)) => absurd c12 (by decide : ¬ (1 : Int32) = (0 : Int32))) (fun (c12 : ¬ (1 : Int32) = (0 : Int32)) => ?_)
    refine Xb0.blk hK (L := [(.iinc 2 1, 3, 1, 0), (.iload_n 1, 1, 0, 0), (.iconst 1, 1, 1, 0)]) (pc' := 20) (ls' := #[.val (.ref a1), .val (.int (3 : Int32)), .val (.int (1 : Int32))]) (st' := [(.int (1 : Int32)), (.int (3 : Int32))]) (by decide +kernel) rfl ?_
    refine Xb0.icmp .eq (15) 35 23 (by decide +kernel) (fun (c20 : (3 : Int32) = (1 : Int32)) => absurd c20 (by decide : ¬ (3 : Int32) = (1 : Int32))) (fun (c20 : ¬ (3 : Int32) = (1 : Int32)) => ?_)
    refine Xb0.blk hK (L := [(.aload_n 0, 1, 0, 0), (.iconst 1, 1, 1, 0), (.iload_n 1, 1, 0, 0)]) (pc' := 26) (ls' := #[.val (.ref a1), .val (.int (3 : Int32)), .val (.int (1 : Int32))]) (st' := [(.int (3 : Int32)), (.int (1 : Int32)), (.ref a1)]) (by decide +kernel) rfl ?_
    refine Xb0.callS 29 0 (argsL := [(.ref a1), (.int (1 : Int32)), (.int (3 : Int32))]) (rest := []) (rm_bf l Z a0 hw a1 K0 K1 K2 K3 1 3 h0 n0 Z0 A (by decide) (by decide)) (hw _ (List.mem_of_getElem? (i := 11) rfl)) (hw _ (List.mem_of_getElem? (i := 12) rfl)) (hw _ (List.mem_of_getElem? (i := 9) rfl)) (hw _ (List.mem_of_getElem? (i := 13) rfl)) (by decide) (ps := [(.array .long), .int, .int]) (r := some .boolean) (by decide +kernel) rfl rfl rfl rfl (by decide +kernel) (by decide) ?_
    rintro Tb1 hb1 vb1 Xb1 ⟨rfl, rfl⟩
    show Go p e below s _ n0 _ (Tb1.setTop (mkF m 29 #[.val (.ref a1), .val (.int (3 : Int32)), .val (.int (1 : Int32))] [(.int (if Lk (fun i => kN (kk K0 K1 K2 K3 i)) 1 3 then (1 : Int32) else 0))]))
    by_cases l1 : Lk (fun i => kN (kk K0 K1 K2 K3 i)) 1 3
    · rw [if_pos l1]
      refine Xb1.ifc .eq (6) 35 32 (by decide +kernel) (fun (c29 : (1 : Int32) = (0 : Int32)) => absurd c29 (by decide : ¬ (1 : Int32) = (0 : Int32))) (fun (c29 : ¬ (1 : Int32) = (0 : Int32)) => ?_)
      refine Xb1.blk hK (L := [(.iinc 2 1, 3, 1, 0), (.iload_n 1, 1, 0, 0), (.iconst 2, 1, 2, 0)]) (pc' := 37) (ls' := #[.val (.ref a1), .val (.int (3 : Int32)), .val (.int (2 : Int32))]) (st' := [(.int (2 : Int32)), (.int (3 : Int32))]) (by decide +kernel) rfl ?_
      refine Xb1.icmp .eq (15) 52 40 (by decide +kernel) (fun (c37 : (3 : Int32) = (2 : Int32)) => absurd c37 (by decide : ¬ (3 : Int32) = (2 : Int32))) (fun (c37 : ¬ (3 : Int32) = (2 : Int32)) => ?_)
      refine Xb1.blk hK (L := [(.aload_n 0, 1, 0, 0), (.iconst 2, 1, 2, 0), (.iload_n 1, 1, 0, 0)]) (pc' := 43) (ls' := #[.val (.ref a1), .val (.int (3 : Int32)), .val (.int (2 : Int32))]) (st' := [(.int (3 : Int32)), (.int (2 : Int32)), (.ref a1)]) (by decide +kernel) rfl ?_
      refine Xb1.callS 46 0 (argsL := [(.ref a1), (.int (2 : Int32)), (.int (3 : Int32))]) (rest := []) (rm_bf l Z a0 hw a1 K0 K1 K2 K3 2 3 h0 n0 Z0 A (by decide) (by decide)) (hw _ (List.mem_of_getElem? (i := 11) rfl)) (hw _ (List.mem_of_getElem? (i := 12) rfl)) (hw _ (List.mem_of_getElem? (i := 9) rfl)) (hw _ (List.mem_of_getElem? (i := 13) rfl)) (by decide) (ps := [(.array .long), .int, .int]) (r := some .boolean) (by decide +kernel) rfl rfl rfl rfl (by decide +kernel) (by decide) ?_
      rintro Tb2 hb2 vb2 Xb2 ⟨rfl, rfl⟩
      show Go p e below s _ n0 _ (Tb2.setTop (mkF m 46 #[.val (.ref a1), .val (.int (3 : Int32)), .val (.int (2 : Int32))] [(.int (if Lk (fun i => kN (kk K0 K1 K2 K3 i)) 2 3 then (1 : Int32) else 0))]))
      by_cases l2 : Lk (fun i => kN (kk K0 K1 K2 K3 i)) 2 3
      · rw [if_pos l2]
        refine Xb2.ifc .eq (6) 52 49 (by decide +kernel) (fun (c46 : (1 : Int32) = (0 : Int32)) => absurd c46 (by decide : ¬ (1 : Int32) = (0 : Int32))) (fun (c46 : ¬ (1 : Int32) = (0 : Int32)) => ?_)
        refine Xb2.blk hK (L := [(.iinc 2 1, 3, 1, 0), (.iload_n 1, 1, 0, 0), (.iconst 3, 1, 3, 0)]) (pc' := 54) (ls' := #[.val (.ref a1), .val (.int (3 : Int32)), .val (.int (3 : Int32))]) (st' := [(.int (3 : Int32)), (.int (3 : Int32))]) (by decide +kernel) rfl ?_
        refine Xb2.icmp .eq (15) 69 57 (by decide +kernel) (fun (c54 : (3 : Int32) = (3 : Int32)) => ?_) (fun (c54 : ¬ (3 : Int32) = (3 : Int32)) => absurd (by decide : (3 : Int32) = (3 : Int32)) c54)
        refine Xb2.blk hK (L := [(.iload_n 2, 1, 0, 0)]) (pc' := 70) (ls' := #[.val (.ref a1), .val (.int (3 : Int32)), .val (.int (3 : Int32))]) (st' := [(.int (3 : Int32))]) (by decide +kernel) rfl ?_
        exact Xb2.retI (by decide +kernel) (by decide) (by decide) (by refine ⟨?_, rfl⟩; simp only [rk, sum4, ir, if_false, l0, if_true, l1, if_true, l2, if_true] <;> rfl)
      · rw [if_neg l2]
        refine Xb2.ifc .eq (6) 52 49 (by decide +kernel) (fun (c46 : (0 : Int32) = (0 : Int32)) => ?_) (fun (c46 : ¬ (0 : Int32) = (0 : Int32)) => absurd (by decide : (0 : Int32) = (0 : Int32)) c46)
        refine Xb2.blk hK (L := [(.iload_n 1, 1, 0, 0), (.iconst 3, 1, 3, 0)]) (pc' := 54) (ls' := #[.val (.ref a1), .val (.int (3 : Int32)), .val (.int (2 : Int32))]) (st' := [(.int (3 : Int32)), (.int (3 : Int32))]) (by decide +kernel) rfl ?_
        refine Xb2.icmp .eq (15) 69 57 (by decide +kernel) (fun (c54 : (3 : Int32) = (3 : Int32)) => ?_) (fun (c54 : ¬ (3 : Int32) = (3 : Int32)) => absurd (by decide : (3 : Int32) = (3 : Int32)) c54)
        refine Xb2.blk hK (L := [(.iload_n 2, 1, 0, 0)]) (pc' := 70) (ls' := #[.val (.ref a1), .val (.int (3 : Int32)), .val (.int (2 : Int32))]) (st' := [(.int (2 : Int32))]) (by decide +kernel) rfl ?_
        exact Xb2.retI (by decide +kernel) (by decide) (by decide) (by refine ⟨?_, rfl⟩; simp only [rk, sum4, ir, if_false, l0, if_true, l1, if_true, l2, if_false] <;> rfl)
    · rw [if_neg l1]
      refine Xb1.ifc .eq (6) 35 32 (by decide +kernel) (fun (c29 : (0 : Int32) = (0 : Int32)) => ?_) (fun (c29 : ¬ (0 : Int32) = (0 : Int32)) => absurd (by decide : (0 : Int32) = (0 : Int32)) c29)
      refine Xb1.blk hK (L := [(.iload_n 1, 1, 0, 0), (.iconst 2, 1, 2, 0)]) (pc' := 37) (ls' := #[.val (.ref a1), .val (.int (3 : Int32)), .val (.int (1 : Int32))]) (st' := [(.int (2 : Int32)), (.int (3 : Int32))]) (by decide +kernel) rfl ?_
      refine Xb1.icmp .eq (15) 52 40 (by decide +kernel) (fun (c37 : (3 : Int32) = (2 : Int32)) => absurd c37 (by decide : ¬ (3 : Int32) = (2 : Int32))) (fun (c37 : ¬ (3 : Int32) = (2 : Int32)) => ?_)
      refine Xb1.blk hK (L := [(.aload_n 0, 1, 0, 0), (.iconst 2, 1, 2, 0), (.iload_n 1, 1, 0, 0)]) (pc' := 43) (ls' := #[.val (.ref a1), .val (.int (3 : Int32)), .val (.int (1 : Int32))]) (st' := [(.int (3 : Int32)), (.int (2 : Int32)), (.ref a1)]) (by decide +kernel) rfl ?_
      refine Xb1.callS 46 0 (argsL := [(.ref a1), (.int (2 : Int32)), (.int (3 : Int32))]) (rest := []) (rm_bf l Z a0 hw a1 K0 K1 K2 K3 2 3 h0 n0 Z0 A (by decide) (by decide)) (hw _ (List.mem_of_getElem? (i := 11) rfl)) (hw _ (List.mem_of_getElem? (i := 12) rfl)) (hw _ (List.mem_of_getElem? (i := 9) rfl)) (hw _ (List.mem_of_getElem? (i := 13) rfl)) (by decide) (ps := [(.array .long), .int, .int]) (r := some .boolean) (by decide +kernel) rfl rfl rfl rfl (by decide +kernel) (by decide) ?_
      rintro Tb2 hb2 vb2 Xb2 ⟨rfl, rfl⟩
      show Go p e below s _ n0 _ (Tb2.setTop (mkF m 46 #[.val (.ref a1), .val (.int (3 : Int32)), .val (.int (1 : Int32))] [(.int (if Lk (fun i => kN (kk K0 K1 K2 K3 i)) 2 3 then (1 : Int32) else 0))]))
      by_cases l2 : Lk (fun i => kN (kk K0 K1 K2 K3 i)) 2 3
      · rw [if_pos l2]
        refine Xb2.ifc .eq (6) 52 49 (by decide +kernel) (fun (c46 : (1 : Int32) = (0 : Int32)) => absurd c46 (by decide : ¬ (1 : Int32) = (0 : Int32))) (fun (c46 : ¬ (1 : Int32) = (0 : Int32)) => ?_)
        refine Xb2.blk hK (L := [(.iinc 2 1, 3, 1, 0), (.iload_n 1, 1, 0, 0), (.iconst 3, 1, 3, 0)]) (pc' := 54) (ls' := #[.val (.ref a1), .val (.int (3 : Int32)), .val (.int (2 : Int32))]) (st' := [(.int (3 : Int32)), (.int (3 : Int32))]) (by decide +kernel) rfl ?_
        refine Xb2.icmp .eq (15) 69 57 (by decide +kernel) (fun (c54 : (3 : Int32) = (3 : Int32)) => ?_) (fun (c54 : ¬ (3 : Int32) = (3 : Int32)) => absurd (by decide : (3 : Int32) = (3 : Int32)) c54)
        refine Xb2.blk hK (L := [(.iload_n 2, 1, 0, 0)]) (pc' := 70) (ls' := #[.val (.ref a1), .val (.int (3 : Int32)), .val (.int (2 : Int32))]) (st' := [(.int (2 : Int32))]) (by decide +kernel) rfl ?_
        exact Xb2.retI (by decide +kernel) (by decide) (by decide) (by refine ⟨?_, rfl⟩; simp only [rk, sum4, ir, if_false, l0, if_true, l1, if_false, l2, if_true] <;> rfl)
      · rw [if_neg l2]
        refine Xb2.ifc .eq (6) 52 49 (by decide +kernel) (fun (c46 : (0 : Int32) = (0 : Int32)) => ?_) (fun (c46 : ¬ (0 : Int32) = (0 : Int32)) => absurd (by decide : (0 : Int32) = (0 : Int32)) c46)
        refine Xb2.blk hK (L := [(.iload_n 1, 1, 0, 0), (.iconst 3, 1, 3, 0)]) (pc' := 54) (ls' := #[.val (.ref a1), .val (.int (3 : Int32)), .val (.int (1 : Int32))]) (st' := [(.int (3 : Int32)), (.int (3 : Int32))]) (by decide +kernel) rfl ?_
        refine Xb2.icmp .eq (15) 69 57 (by decide +kernel) (fun (c54 : (3 : Int32) = (3 : Int32)) => ?_) (fun (c54 : ¬ (3 : Int32) = (3 : Int32)) => absurd (by decide : (3 : Int32) = (3 : Int32)) c54)
        refine Xb2.blk hK (L := [(.iload_n 2, 1, 0, 0)]) (pc' := 70) (ls' := #[.val (.ref a1), .val (.int (3 : Int32)), .val (.int (1 : Int32))]) (st' := [(.int (1 : Int32))]) (by decide +kernel) rfl ?_
        exact Xb2.retI (by decide +kernel) (by decide) (by decide) (by refine ⟨?_, rfl⟩; simp only [rk, sum4, ir, if_false, l0, if_true, l1, if_false, l2, if_false] <;> rfl)
  · rw [if_neg l0]
    refine Xb0.ifc .eq (6) 18 15 (by decide +kernel) (fun (c12 : (0 : Int32) = (0 : Int32)) => ?_) (fun (c12 : ¬ (0 : Int32) = (0 : Int32)) => absurd (by decide : (0 : Int32) = (0 : Int32)) c12)
    refine Xb0.blk hK (L := [(.iload_n 1, 1, 0, 0), (.iconst 1, 1, 1, 0)]) (pc' := 20) (ls' := #[.val (.ref a1), .val (.int (3 : Int32)), .val (.int (0 : Int32))]) (st' := [(.int (1 : Int32)), (.int (3 : Int32))]) (by decide +kernel) rfl ?_
    refine Xb0.icmp .eq (15) 35 23 (by decide +kernel) (fun (c20 : (3 : Int32) = (1 : Int32)) => absurd c20 (by decide : ¬ (3 : Int32) = (1 : Int32))) (fun (c20 : ¬ (3 : Int32) = (1 : Int32)) => ?_)
    refine Xb0.blk hK (L := [(.aload_n 0, 1, 0, 0), (.iconst 1, 1, 1, 0), (.iload_n 1, 1, 0, 0)]) (pc' := 26) (ls' := #[.val (.ref a1), .val (.int (3 : Int32)), .val (.int (0 : Int32))]) (st' := [(.int (3 : Int32)), (.int (1 : Int32)), (.ref a1)]) (by decide +kernel) rfl ?_
    refine Xb0.callS 29 0 (argsL := [(.ref a1), (.int (1 : Int32)), (.int (3 : Int32))]) (rest := []) (rm_bf l Z a0 hw a1 K0 K1 K2 K3 1 3 h0 n0 Z0 A (by decide) (by decide)) (hw _ (List.mem_of_getElem? (i := 11) rfl)) (hw _ (List.mem_of_getElem? (i := 12) rfl)) (hw _ (List.mem_of_getElem? (i := 9) rfl)) (hw _ (List.mem_of_getElem? (i := 13) rfl)) (by decide) (ps := [(.array .long), .int, .int]) (r := some .boolean) (by decide +kernel) rfl rfl rfl rfl (by decide +kernel) (by decide) ?_
    rintro Tb1 hb1 vb1 Xb1 ⟨rfl, rfl⟩
    show Go p e below s _ n0 _ (Tb1.setTop (mkF m 29 #[.val (.ref a1), .val (.int (3 : Int32)), .val (.int (0 : Int32))] [(.int (if Lk (fun i => kN (kk K0 K1 K2 K3 i)) 1 3 then (1 : Int32) else 0))]))
    by_cases l1 : Lk (fun i => kN (kk K0 K1 K2 K3 i)) 1 3
    · rw [if_pos l1]
      refine Xb1.ifc .eq (6) 35 32 (by decide +kernel) (fun (c29 : (1 : Int32) = (0 : Int32)) => absurd c29 (by decide : ¬ (1 : Int32) = (0 : Int32))) (fun (c29 : ¬ (1 : Int32) = (0 : Int32)) => ?_)
      refine Xb1.blk hK (L := [(.iinc 2 1, 3, 1, 0), (.iload_n 1, 1, 0, 0), (.iconst 2, 1, 2, 0)]) (pc' := 37) (ls' := #[.val (.ref a1), .val (.int (3 : Int32)), .val (.int (1 : Int32))]) (st' := [(.int (2 : Int32)), (.int (3 : Int32))]) (by decide +kernel) rfl ?_
      refine Xb1.icmp .eq (15) 52 40 (by decide +kernel) (fun (c37 : (3 : Int32) = (2 : Int32)) => absurd c37 (by decide : ¬ (3 : Int32) = (2 : Int32))) (fun (c37 : ¬ (3 : Int32) = (2 : Int32)) => ?_)
      refine Xb1.blk hK (L := [(.aload_n 0, 1, 0, 0), (.iconst 2, 1, 2, 0), (.iload_n 1, 1, 0, 0)]) (pc' := 43) (ls' := #[.val (.ref a1), .val (.int (3 : Int32)), .val (.int (1 : Int32))]) (st' := [(.int (3 : Int32)), (.int (2 : Int32)), (.ref a1)]) (by decide +kernel) rfl ?_
      refine Xb1.callS 46 0 (argsL := [(.ref a1), (.int (2 : Int32)), (.int (3 : Int32))]) (rest := []) (rm_bf l Z a0 hw a1 K0 K1 K2 K3 2 3 h0 n0 Z0 A (by decide) (by decide)) (hw _ (List.mem_of_getElem? (i := 11) rfl)) (hw _ (List.mem_of_getElem? (i := 12) rfl)) (hw _ (List.mem_of_getElem? (i := 9) rfl)) (hw _ (List.mem_of_getElem? (i := 13) rfl)) (by decide) (ps := [(.array .long), .int, .int]) (r := some .boolean) (by decide +kernel) rfl rfl rfl rfl (by decide +kernel) (by decide) ?_
      rintro Tb2 hb2 vb2 Xb2 ⟨rfl, rfl⟩
      show Go p e below s _ n0 _ (Tb2.setTop (mkF m 46 #[.val (.ref a1), .val (.int (3 : Int32)), .val (.int (1 : Int32))] [(.int (if Lk (fun i => kN (kk K0 K1 K2 K3 i)) 2 3 then (1 : Int32) else 0))]))
      by_cases l2 : Lk (fun i => kN (kk K0 K1 K2 K3 i)) 2 3
      · rw [if_pos l2]
        refine Xb2.ifc .eq (6) 52 49 (by decide +kernel) (fun (c46 : (1 : Int32) = (0 : Int32)) => absurd c46 (by decide : ¬ (1 : Int32) = (0 : Int32))) (fun (c46 : ¬ (1 : Int32) = (0 : Int32)) => ?_)
        refine Xb2.blk hK (L := [(.iinc 2 1, 3, 1, 0), (.iload_n 1, 1, 0, 0), (.iconst 3, 1, 3, 0)]) (pc' := 54) (ls' := #[.val (.ref a1), .val (.int (3 : Int32)), .val (.int (2 : Int32))]) (st' := [(.int (3 : Int32)), (.int (3 : Int32))]) (by decide +kernel) rfl ?_
        refine Xb2.icmp .eq (15) 69 57 (by decide +kernel) (fun (c54 : (3 : Int32) = (3 : Int32)) => ?_) (fun (c54 : ¬ (3 : Int32) = (3 : Int32)) => absurd (by decide : (3 : Int32) = (3 : Int32)) c54)
        refine Xb2.blk hK (L := [(.iload_n 2, 1, 0, 0)]) (pc' := 70) (ls' := #[.val (.ref a1), .val (.int (3 : Int32)), .val (.int (2 : Int32))]) (st' := [(.int (2 : Int32))]) (by decide +kernel) rfl ?_
        exact Xb2.retI (by decide +kernel) (by decide) (by decide) (by refine ⟨?_, rfl⟩; simp only [rk, sum4, ir, if_false, l0, if_false, l1, if_true, l2, if_true] <;> rfl)
      · rw [if_neg l2]
        refine Xb2.ifc .eq (6) 52 49 (by decide +kernel) (fun (c46 : (0 : Int32) = (0 : Int32)) => ?_) (fun (c46 : ¬ (0 : Int32) = (0 : Int32)) => absurd (by decide : (0 : Int32) = (0 : Int32)) c46)
        refine Xb2.blk hK (L := [(.iload_n 1, 1, 0, 0), (.iconst 3, 1, 3, 0)]) (pc' := 54) (ls' := #[.val (.ref a1), .val (.int (3 : Int32)), .val (.int (1 : Int32))]) (st' := [(.int (3 : Int32)), (.int (3 : Int32))]) (by decide +kernel) rfl ?_
        refine Xb2.icmp .eq (15) 69 57 (by decide +kernel) (fun (c54 : (3 : Int32) = (3 : Int32)) => ?_) (fun (c54 : ¬ (3 : Int32) = (3 : Int32)) => absurd (by decide : (3 : Int32) = (3 : Int32)) c54)
        refine Xb2.blk hK (L := [(.iload_n 2, 1, 0, 0)]) (pc' := 70) (ls' := #[.val (.ref a1), .val (.int (3 : Int32)), .val (.int (1 : Int32))]) (st' := [(.int (1 : Int32))]) (by decide +kernel) rfl ?_
        exact Xb2.retI (by decide +kernel) (by decide) (by decide) (by refine ⟨?_, rfl⟩; simp only [rk, sum4, ir, if_false, l0, if_false, l1, if_true, l2, if_false] <;> rfl)
    · rw [if_neg l1]
      refine Xb1.ifc .eq (6) 35 32 (by decide +kernel) (fun (c29 : (0 : Int32) = (0 : Int32)) => ?_) (fun (c29 : ¬ (0 : Int32) = (0 : Int32)) => absurd (by decide : (0 : Int32) = (0 : Int32)) c29)
      refine Xb1.blk hK (L := [(.iload_n 1, 1, 0, 0), (.iconst 2, 1, 2, 0)]) (pc' := 37) (ls' := #[.val (.ref a1), .val (.int (3 : Int32)), .val (.int (0 : Int32))]) (st' := [(.int (2 : Int32)), (.int (3 : Int32))]) (by decide +kernel) rfl ?_
      refine Xb1.icmp .eq (15) 52 40 (by decide +kernel) (fun (c37 : (3 : Int32) = (2 : Int32)) => absurd c37 (by decide : ¬ (3 : Int32) = (2 : Int32))) (fun (c37 : ¬ (3 : Int32) = (2 : Int32)) => ?_)
      refine Xb1.blk hK (L := [(.aload_n 0, 1, 0, 0), (.iconst 2, 1, 2, 0), (.iload_n 1, 1, 0, 0)]) (pc' := 43) (ls' := #[.val (.ref a1), .val (.int (3 : Int32)), .val (.int (0 : Int32))]) (st' := [(.int (3 : Int32)), (.int (2 : Int32)), (.ref a1)]) (by decide +kernel) rfl ?_
      refine Xb1.callS 46 0 (argsL := [(.ref a1), (.int (2 : Int32)), (.int (3 : Int32))]) (rest := []) (rm_bf l Z a0 hw a1 K0 K1 K2 K3 2 3 h0 n0 Z0 A (by decide) (by decide)) (hw _ (List.mem_of_getElem? (i := 11) rfl)) (hw _ (List.mem_of_getElem? (i := 12) rfl)) (hw _ (List.mem_of_getElem? (i := 9) rfl)) (hw _ (List.mem_of_getElem? (i := 13) rfl)) (by decide) (ps := [(.array .long), .int, .int]) (r := some .boolean) (by decide +kernel) rfl rfl rfl rfl (by decide +kernel) (by decide) ?_
      rintro Tb2 hb2 vb2 Xb2 ⟨rfl, rfl⟩
      show Go p e below s _ n0 _ (Tb2.setTop (mkF m 46 #[.val (.ref a1), .val (.int (3 : Int32)), .val (.int (0 : Int32))] [(.int (if Lk (fun i => kN (kk K0 K1 K2 K3 i)) 2 3 then (1 : Int32) else 0))]))
      by_cases l2 : Lk (fun i => kN (kk K0 K1 K2 K3 i)) 2 3
      · rw [if_pos l2]
        refine Xb2.ifc .eq (6) 52 49 (by decide +kernel) (fun (c46 : (1 : Int32) = (0 : Int32)) => absurd c46 (by decide : ¬ (1 : Int32) = (0 : Int32))) (fun (c46 : ¬ (1 : Int32) = (0 : Int32)) => ?_)
        refine Xb2.blk hK (L := [(.iinc 2 1, 3, 1, 0), (.iload_n 1, 1, 0, 0), (.iconst 3, 1, 3, 0)]) (pc' := 54) (ls' := #[.val (.ref a1), .val (.int (3 : Int32)), .val (.int (1 : Int32))]) (st' := [(.int (3 : Int32)), (.int (3 : Int32))]) (by decide +kernel) rfl ?_
        refine Xb2.icmp .eq (15) 69 57 (by decide +kernel) (fun (c54 : (3 : Int32) = (3 : Int32)) => ?_) (fun (c54 : ¬ (3 : Int32) = (3 : Int32)) => absurd (by decide : (3 : Int32) = (3 : Int32)) c54)
        refine Xb2.blk hK (L := [(.iload_n 2, 1, 0, 0)]) (pc' := 70) (ls' := #[.val (.ref a1), .val (.int (3 : Int32)), .val (.int (1 : Int32))]) (st' := [(.int (1 : Int32))]) (by decide +kernel) rfl ?_
        exact Xb2.retI (by decide +kernel) (by decide) (by decide) (by refine ⟨?_, rfl⟩; simp only [rk, sum4, ir, if_false, l0, if_false, l1, if_false, l2, if_true] <;> rfl)
      · rw [if_neg l2]
        refine Xb2.ifc .eq (6) 52 49 (by decide +kernel) (fun (c46 : (0 : Int32) = (0 : Int32)) => ?_) (fun (c46 : ¬ (0 : Int32) = (0 : Int32)) => absurd (by decide : (0 : Int32) = (0 : Int32)) c46)
        refine Xb2.blk hK (L := [(.iload_n 1, 1, 0, 0), (.iconst 3, 1, 3, 0)]) (pc' := 54) (ls' := #[.val (.ref a1), .val (.int (3 : Int32)), .val (.int (0 : Int32))]) (st' := [(.int (3 : Int32)), (.int (3 : Int32))]) (by decide +kernel) rfl ?_
        refine Xb2.icmp .eq (15) 69 57 (by decide +kernel) (fun (c54 : (3 : Int32) = (3 : Int32)) => ?_) (fun (c54 : ¬ (3 : Int32) = (3 : Int32)) => absurd (by decide : (3 : Int32) = (3 : Int32)) c54)
        refine Xb2.blk hK (L := [(.iload_n 2, 1, 0, 0)]) (pc' := 70) (ls' := #[.val (.ref a1), .val (.int (3 : Int32)), .val (.int (0 : Int32))]) (st' := [(.int (0 : Int32))]) (by decide +kernel) rfl ?_
        exact Xb2.retI (by decide +kernel) (by decide) (by decide) (by refine ⟨?_, rfl⟩; simp only [rk, sum4, ir, if_false, l0, if_false, l1, if_false, l2, if_false] <;> rfl)
set_option maxRecDepth 65536 in
set_option maxHeartbeats 40000000 in
theorem rm_by (l : Launch) (Z : State) (a0 : Array Value) (hw : ∀ d ∈ tables_1, d.before a0 Z = true) (ak : Addr) (K0 K1 K2 K3 : Int64) (p2 : Int32) (h0 : Heap) (n0 : Nat) (Z0 : n0 ≤ h0.size) (A : AV Z h0 ak .long [.long K0, .long K1, .long K2, .long K3]) (r2 : 0 ≤ p2.toInt ∧ p2.toInt ≤ 64) :
    Cnt l Z (⟨"com/example/text_to_fingerprint/texttofingerprint/service/PositionOrder", "byKey", "([JI)[I"⟩ : MethodName) prog_29_method_2_code 10 (some (.array .int)) ({ frames := 1, cells := 10, slots := 2064, locals := 20 } : Room) n0 #[(.ref ak), (.int p2)] h0 (fun v h => ∃ ao os o q, v = some (.ref ao) ∧ AV Z h ao .int os ∧ CV os 4 o ∧ Srt (fun i => kN (kk K0 K1 K2 K3 i)) q o ∧ p2.toInt ≤ q ∧ AV Z h ak .long [.long K0, .long K1, .long K2, .long K3]) := by
  refine Cnt.mk (by first | exact plainFor_of_name (by first | (simp [plainName, overriddenIn]; done) | decide +kernel) | decide +kernel) Z0 ?_
  intro p e s m below meth c T X
  refine Go.cast (g' := mkF m 0 #[.val (.ref ak), .val (.int p2), .unset, .unset, .unset, .unset, .unset, .unset, .unset, .unset] []) (by first | (simp [entryFrame, mkF, argsToLocals, Value.category, maxLocals]; done) | rfl) ?_
  have hK : (∀ q ∈ ([] : List (Nat × Int32)), (Jvm.Cond.constant "com/example/text_to_fingerprint/texttofingerprint/service/PositionOrder" q.1 q.2).before a0 Z = true) ∧ (∀ q ∈ ([] : List (Nat × Int64)), (Jvm.Cond.constantLong "com/example/text_to_fingerprint/texttofingerprint/service/PositionOrder" q.1 q.2).before a0 Z = true) :=
    ⟨(fun q hq => nomatch hq), (fun q hq => nomatch hq)⟩
  refine X.blk hK (L := [(.aload_n 0, 1, 0, 0)]) (pc' := 1) (ls' := #[.val (.ref ak), .val (.int p2), .unset, .unset, .unset, .unset, .unset, .unset, .unset, .unset]) (st' := [(.ref ak)]) (by decide +kernel) rfl ?_
  refine X.alen 2 (n := (4 : Int32)) A (by decide +kernel) (rfl) ?_
  refine X.newarr 4 4 (aty := .int) (hw _ (List.mem_of_getElem? (i := 6) rfl)) rfl (by decide +kernel) (by decide) (by decide) (by decide) ?_
  intro To ho Xo Eo O0
  obtain ⟨ao, go⟩ : ∃ z, z = h0.size := ⟨_, rfl⟩
  rw [← go] at O0 ⊢
  have O0 : AV Z ho ao .int (List.replicate 4 (.int 0)) := O0
  have ga : n0 ≤ ao := by rw [go]; exact Z0
  have dko : ak ≠ ao := by rw [go]; exact Nat.ne_of_lt A.lt
  have B0 := A.ext Eo
  refine Xo.blk hK (L := [(.astore_n 2, 1, 0, 0), (.iconst 0, 1, 0, 0), (.istore_n 3, 1, 0, 0)]) (pc' := 7) (ls' := #[.val (.ref ak), .val (.int p2), .val (.ref ao), .val (.int (0 : Int32)), .unset, .unset, .unset, .unset, .unset, .unset]) (st' := []) (by decide +kernel) rfl ?_
  refine Xo.blk hK (L := [(.iload_n 3, 1, 0, 0), (.aload_n 0, 1, 0, 0)]) (pc' := 9) (ls' := #[.val (.ref ak), .val (.int p2), .val (.ref ao), .val (.int (0 : Int32)), .unset, .unset, .unset, .unset, .unset, .unset]) (st' := [(.ref ak), (.int (0 : Int32))]) (by decide +kernel) rfl ?_
  refine Xo.alen 10 (n := (4 : Int32)) B0 (by decide +kernel) (rfl) ?_
  refine Xo.icmp .ge (13) 23 13 (by decide +kernel) (fun (c10 : ¬ (0 : Int32) < (4 : Int32)) => absurd (by decide : (0 : Int32) < (4 : Int32)) c10) (fun (c10 : (0 : Int32) < (4 : Int32)) => ?_)
  refine Xo.blk hK (L := [(.aload_n 2, 1, 0, 0), (.iload_n 3, 1, 0, 0), (.iload_n 3, 1, 0, 0)]) (pc' := 16) (ls' := #[.val (.ref ak), .val (.int p2), .val (.ref ao), .val (.int (0 : Int32)), .unset, .unset, .unset, .unset, .unset, .unset]) (st' := [(.int (0 : Int32)), (.int (0 : Int32)), (.ref ao)]) (by decide +kernel) rfl ?_
  refine Xo.iastore 17 O0 (by decide +kernel) (by decide) (by simp) (ga) ?_
  intro To0 ho0 Xo0 Wo0 O1
  have B1 := B0.other Wo0 dko
  refine Xo0.blk hK (L := [(.iinc 3 1, 3, 1, 0), (.goto (-13), 3, 0, 7)]) (pc' := 7) (ls' := #[.val (.ref ak), .val (.int p2), .val (.ref ao), .val (.int (1 : Int32)), .unset, .unset, .unset, .unset, .unset, .unset]) (st' := []) (by decide +kernel) rfl ?_
  refine Xo0.blk hK (L := [(.iload_n 3, 1, 0, 0), (.aload_n 0, 1, 0, 0)]) (pc' := 9) (ls' := #[.val (.ref ak), .val (.int p2), .val (.ref ao), .val (.int (1 : Int32)), .unset, .unset, .unset, .unset, .unset, .unset]) (st' := [(.ref ak), (.int (1 : Int32))]) (by decide +kernel) rfl ?_
  refine Xo0.alen 10 (n := (4 : Int32)) B1 (by decide +kernel) (rfl) ?_
  refine Xo0.icmp .ge (13) 23 13 (by decide +kernel) (fun (c10 : ¬ (1 : Int32) < (4 : Int32)) => absurd (by decide : (1 : Int32) < (4 : Int32)) c10) (fun (c10 : (1 : Int32) < (4 : Int32)) => ?_)
  refine Xo0.blk hK (L := [(.aload_n 2, 1, 0, 0), (.iload_n 3, 1, 0, 0), (.iload_n 3, 1, 0, 0)]) (pc' := 16) (ls' := #[.val (.ref ak), .val (.int p2), .val (.ref ao), .val (.int (1 : Int32)), .unset, .unset, .unset, .unset, .unset, .unset]) (st' := [(.int (1 : Int32)), (.int (1 : Int32)), (.ref ao)]) (by decide +kernel) rfl ?_
  refine Xo0.iastore 17 O1 (by decide +kernel) (by decide) (by simp) (ga) ?_
  intro To1 ho1 Xo1 Wo1 O2
  have B2 := B1.other Wo1 dko
  refine Xo1.blk hK (L := [(.iinc 3 1, 3, 1, 0), (.goto (-13), 3, 0, 7)]) (pc' := 7) (ls' := #[.val (.ref ak), .val (.int p2), .val (.ref ao), .val (.int (2 : Int32)), .unset, .unset, .unset, .unset, .unset, .unset]) (st' := []) (by decide +kernel) rfl ?_
  refine Xo1.blk hK (L := [(.iload_n 3, 1, 0, 0), (.aload_n 0, 1, 0, 0)]) (pc' := 9) (ls' := #[.val (.ref ak), .val (.int p2), .val (.ref ao), .val (.int (2 : Int32)), .unset, .unset, .unset, .unset, .unset, .unset]) (st' := [(.ref ak), (.int (2 : Int32))]) (by decide +kernel) rfl ?_
  refine Xo1.alen 10 (n := (4 : Int32)) B2 (by decide +kernel) (rfl) ?_
  refine Xo1.icmp .ge (13) 23 13 (by decide +kernel) (fun (c10 : ¬ (2 : Int32) < (4 : Int32)) => absurd (by decide : (2 : Int32) < (4 : Int32)) c10) (fun (c10 : (2 : Int32) < (4 : Int32)) => ?_)
  refine Xo1.blk hK (L := [(.aload_n 2, 1, 0, 0), (.iload_n 3, 1, 0, 0), (.iload_n 3, 1, 0, 0)]) (pc' := 16) (ls' := #[.val (.ref ak), .val (.int p2), .val (.ref ao), .val (.int (2 : Int32)), .unset, .unset, .unset, .unset, .unset, .unset]) (st' := [(.int (2 : Int32)), (.int (2 : Int32)), (.ref ao)]) (by decide +kernel) rfl ?_
  refine Xo1.iastore 17 O2 (by decide +kernel) (by decide) (by simp) (ga) ?_
  intro To2 ho2 Xo2 Wo2 O3
  have B3 := B2.other Wo2 dko
  refine Xo2.blk hK (L := [(.iinc 3 1, 3, 1, 0), (.goto (-13), 3, 0, 7)]) (pc' := 7) (ls' := #[.val (.ref ak), .val (.int p2), .val (.ref ao), .val (.int (3 : Int32)), .unset, .unset, .unset, .unset, .unset, .unset]) (st' := []) (by decide +kernel) rfl ?_
  refine Xo2.blk hK (L := [(.iload_n 3, 1, 0, 0), (.aload_n 0, 1, 0, 0)]) (pc' := 9) (ls' := #[.val (.ref ak), .val (.int p2), .val (.ref ao), .val (.int (3 : Int32)), .unset, .unset, .unset, .unset, .unset, .unset]) (st' := [(.ref ak), (.int (3 : Int32))]) (by decide +kernel) rfl ?_
  refine Xo2.alen 10 (n := (4 : Int32)) B3 (by decide +kernel) (rfl) ?_
  refine Xo2.icmp .ge (13) 23 13 (by decide +kernel) (fun (c10 : ¬ (3 : Int32) < (4 : Int32)) => absurd (by decide : (3 : Int32) < (4 : Int32)) c10) (fun (c10 : (3 : Int32) < (4 : Int32)) => ?_)
  refine Xo2.blk hK (L := [(.aload_n 2, 1, 0, 0), (.iload_n 3, 1, 0, 0), (.iload_n 3, 1, 0, 0)]) (pc' := 16) (ls' := #[.val (.ref ak), .val (.int p2), .val (.ref ao), .val (.int (3 : Int32)), .unset, .unset, .unset, .unset, .unset, .unset]) (st' := [(.int (3 : Int32)), (.int (3 : Int32)), (.ref ao)]) (by decide +kernel) rfl ?_
  refine Xo2.iastore 17 O3 (by decide +kernel) (by decide) (by simp) (ga) ?_
  intro To3 ho3 Xo3 Wo3 O4
  have B4 := B3.other Wo3 dko
  refine Xo3.blk hK (L := [(.iinc 3 1, 3, 1, 0), (.goto (-13), 3, 0, 7)]) (pc' := 7) (ls' := #[.val (.ref ak), .val (.int p2), .val (.ref ao), .val (.int (4 : Int32)), .unset, .unset, .unset, .unset, .unset, .unset]) (st' := []) (by decide +kernel) rfl ?_
  refine Xo3.blk hK (L := [(.iload_n 3, 1, 0, 0), (.aload_n 0, 1, 0, 0)]) (pc' := 9) (ls' := #[.val (.ref ak), .val (.int p2), .val (.ref ao), .val (.int (4 : Int32)), .unset, .unset, .unset, .unset, .unset, .unset]) (st' := [(.ref ak), (.int (4 : Int32))]) (by decide +kernel) rfl ?_
  refine Xo3.alen 10 (n := (4 : Int32)) B4 (by decide +kernel) (rfl) ?_
  refine Xo3.icmp .ge (13) 23 13 (by decide +kernel) (fun (c10 : ¬ (4 : Int32) < (4 : Int32)) => ?_) (fun (c10 : (4 : Int32) < (4 : Int32)) => absurd c10 (by decide : ¬ (4 : Int32) < (4 : Int32)))
  replace O4 : AV Z ho3 ao .int [.int 0, .int 1, .int 2, .int 3] := O4
  refine Xo3.blk hK (L := [(.aload_n 0, 1, 0, 0)]) (pc' := 24) (ls' := #[.val (.ref ak), .val (.int p2), .val (.ref ao), .val (.int (4 : Int32)), .unset, .unset, .unset, .unset, .unset, .unset]) (st' := [(.ref ak)]) (by decide +kernel) rfl ?_
  refine Xo3.alen 25 (n := (4 : Int32)) B4 (by decide +kernel) (rfl) ?_
  refine Xo3.newarr 27 4 (aty := .int) (hw _ (List.mem_of_getElem? (i := 6) rfl)) rfl (by decide +kernel) (by decide) (by decide) (by decide) ?_
  intro Tu hu Xu Eu U0
  obtain ⟨au, gu⟩ : ∃ z, z = ho3.size := ⟨_, rfl⟩
  rw [← gu] at U0 ⊢
  have U0 : AV Z hu au .int (List.replicate 4 (.int 0)) := U0
  have gu2 : n0 ≤ au := by rw [gu]; exact Xo3.size
  have dou : ao ≠ au := by rw [gu]; exact Nat.ne_of_lt O4.lt
  have dku : ak ≠ au := by rw [gu]; exact Nat.ne_of_lt B4.lt
  have O5 := O4.ext Eu
  have B5 := B4.ext Eu
  refine Xu.blk hK (L := [(.astore_n 3, 1, 0, 0), (.iconst 0, 1, 0, 0), (.istore 4, 2, 0, 0)]) (pc' := 31) (ls' := #[.val (.ref ak), .val (.int p2), .val (.ref ao), .val (.ref au), .val (.int (0 : Int32)), .unset, .unset, .unset, .unset, .unset]) (st' := []) (by decide +kernel) rfl ?_
  have J125 : ∀ (cc sl q : Nat) (b1 b2 ac : Addr) (os ts : List Value) (o dg : Nat → Nat), cc ≤ 10 → sl ≤ 2064 → q < 64 → (n0 ≤ b1 ∧ n0 ≤ b2 ∧ n0 ≤ ac) → (b1 ≠ b2 ∧ ak ≠ b1 ∧ ak ≠ b2) → (b1 ≠ ac ∧ b2 ≠ ac ∧ ak ≠ ac) → CV os 4 o → ts.length = 4 → Srt (fun i => kN (kk K0 K1 K2 K3 i)) q o → (dg = fun r => kN (kk K0 K1 K2 K3 (o r)) / 2 ^ q % 256) → (∀ (TN : State) (hN : Heap) (i9 : Int32) (o2 : Nat → Nat) (us : List Value), Wk Z l p e ({ frames := 1, cells := 10, slots := 2064, locals := 20 } : Room) s m #[(.ref ak), (.int p2)] below meth c "com/example/text_to_fingerprint/texttofingerprint/service/PositionOrder" "byKey" prog_29_method_2_code 10 (some (.array .int)) n0 TN hN cc sl → AV Z hN ak .long [.long K0, .long K1, .long K2, .long K3] → AV Z hN b2 .int us → AV Z hN b1 .int os → CV us 4 o2 → Srt (fun i => kN (kk K0 K1 K2 K3 i)) (q + 8) o2 → Go p e below s ({ frames := 1, cells := 10, slots := 2064, locals := 20 } : Room) n0 (fun v h => ∃ ao os o q, v = some (.ref ao) ∧ AV Z h ao .int os ∧ CV os 4 o ∧ Srt (fun i => kN (kk K0 K1 K2 K3 i)) q o ∧ p2.toInt ≤ q ∧ AV Z h ak .long [.long K0, .long K1, .long K2, .long K3]) (TN.setTop (mkF m 31 #[.val (.ref ak), .val (.int p2), .val (.ref b2), .val (.ref b1), .val (.int (Int32.ofNat (q + 8))), .val (.ref ac), .val (.ref b1), .val (.int (4 : Int32)), .val (.int (4 : Int32)), .val (.int i9)] []))) → ∀ (TS : State) (hS : Heap) (i9 : Int32) (cs : List Value), Wk Z l p e ({ frames := 1, cells := 10, slots := 2064, locals := 20 } : Room) s m #[(.ref ak), (.int p2)] below meth c "com/example/text_to_fingerprint/texttofingerprint/service/PositionOrder" "byKey" prog_29_method_2_code 10 (some (.array .int)) n0 TS hS cc sl → AV Z hS ak .long [.long K0, .long K1, .long K2, .long K3] → AV Z hS b1 .int os → AV Z hS b2 .int ts → AV Z hS ac .int cs → CV cs 257 (pre (hist dg)) → Go p e below s ({ frames := 1, cells := 10, slots := 2064, locals := 20 } : Room) n0 (fun v h => ∃ ao os o q, v = some (.ref ao) ∧ AV Z h ao .int os ∧ CV os 4 o ∧ Srt (fun i => kN (kk K0 K1 K2 K3 i)) q o ∧ p2.toInt ≤ q ∧ AV Z h ak .long [.long K0, .long K1, .long K2, .long K3]) (TS.setTop (mkF m 125 #[.val (.ref ak), .val (.int p2), .val (.ref b1), .val (.ref b2), .val (.int (Int32.ofNat q)), .val (.ref ac), .val (.int (Int32.ofNat 256)), .val (.int (4 : Int32)), .val (.int (4 : Int32)), .val (.int i9)] [])) := by
    intro cc sl q b1 b2 ac os ts o dg hcc hsl hq hn3 hd3 hc3 VO lT SO hdg KNX
    obtain ⟨n1, n2, n3⟩ := hn3
    obtain ⟨d1, d2, d3⟩ := hd3
    obtain ⟨e1, e2, e3⟩ := hc3
    have dlt : ∀ r, dg r < 256 := fun r => by rw [hdg]; exact Nat.mod_lt _ (by decide)
    have dgv : ∀ r, kN (kk K0 K1 K2 K3 (o r)) / 2 ^ q % 256 = dg r := fun r => by rw [hdg]
    have hdl := own_hist_le dg
    intro TS hS i9 cs XS_ AK A1 A2 AC VC
    refine XS_.blk hK (L := [(.aload_n 2, 1, 0, 0), (.astore 6, 2, 0, 0), (.aload 6, 2, 0, 0)]) (pc' := 130) (ls' := #[.val (.ref ak), .val (.int p2), .val (.ref b1), .val (.ref b2), .val (.int (Int32.ofNat q)), .val (.ref ac), .val (.ref b1), .val (.int (4 : Int32)), .val (.int (4 : Int32)), .val (.int i9)]) (st' := [(.ref b1)]) (by decide +kernel) rfl ?_
    refine XS_.alen 131 (n := (4 : Int32)) A1 (by decide +kernel) (by rw [VO.1]; rfl) ?_
    refine XS_.blk hK (L := [(.istore 7, 2, 0, 0), (.iconst 0, 1, 0, 0), (.istore 8, 2, 0, 0)]) (pc' := 136) (ls' := #[.val (.ref ak), .val (.int p2), .val (.ref b1), .val (.ref b2), .val (.int (Int32.ofNat q)), .val (.ref ac), .val (.ref b1), .val (.int (4 : Int32)), .val (.int (0 : Int32)), .val (.int i9)]) (st' := []) (by decide +kernel) rfl ?_
    obtain ⟨f0, hf0⟩ : ∃ f : Nat → Nat, f = pre (hist dg) := ⟨_, rfl⟩
    rw [← hf0] at VC
    refine XS_.blk hK (L := [(.iload 8, 2, 0, 0), (.iload 7, 2, 0, 0)]) (pc' := 140) (ls' := #[.val (.ref ak), .val (.int p2), .val (.ref b1), .val (.ref b2), .val (.int (Int32.ofNat q)), .val (.ref ac), .val (.ref b1), .val (.int (4 : Int32)), .val (.int (0 : Int32)), .val (.int i9)]) (st' := [(.int (4 : Int32)), (.int (0 : Int32))]) (by decide +kernel) rfl ?_
    refine XS_.icmp .ge (37) 177 143 (by decide +kernel) (fun (c140 : ¬ (0 : Int32) < (4 : Int32)) => absurd (by decide : (0 : Int32) < (4 : Int32)) c140) (fun (c140 : (0 : Int32) < (4 : Int32)) => ?_)
    refine XS_.blk hK (L := [(.aload 6, 2, 0, 0), (.iload 8, 2, 0, 0)]) (pc' := 147) (ls' := #[.val (.ref ak), .val (.int p2), .val (.ref b1), .val (.ref b2), .val (.int (Int32.ofNat q)), .val (.ref ac), .val (.ref b1), .val (.int (4 : Int32)), .val (.int (0 : Int32)), .val (.int i9)]) (st' := [(.int (0 : Int32)), (.ref b1)]) (by decide +kernel) rfl ?_
    refine XS_.iaload 148 A1 (by decide +kernel) (by decide) (VO.lit 0 (by decide) (by decide)) ?_
    refine XS_.blk hK (L := [(.istore 9, 2, 0, 0), (.aload_n 3, 1, 0, 0), (.aload 5, 2, 0, 0), (.aload_n 0, 1, 0, 0), (.iload 9, 2, 0, 0)]) (pc' := 156) (ls' := #[.val (.ref ak), .val (.int p2), .val (.ref b1), .val (.ref b2), .val (.int (Int32.ofNat q)), .val (.ref ac), .val (.ref b1), .val (.int (4 : Int32)), .val (.int (0 : Int32)), .val (.int (Int32.ofNat (o 0)))]) (st' := [(.int (Int32.ofNat (o 0))), (.ref ak), (.ref ac), (.ref b2)]) (by decide +kernel) rfl ?_
    refine XS_.laload 157 AK (by decide +kernel) ((own_ofn (by have := SO.1 0 (by decide); omega)).1) (own_kk _ _ _ _ (SO.1 0 (by decide))) ?_
    refine XS_.blk hK (L := [(.iload 4, 2, 0, 0)]) (pc' := 159) (ls' := #[.val (.ref ak), .val (.int p2), .val (.ref b1), .val (.ref b2), .val (.int (Int32.ofNat q)), .val (.ref ac), .val (.ref b1), .val (.int (4 : Int32)), .val (.int (0 : Int32)), .val (.int (Int32.ofNat (o 0)))]) (st' := [(.int (Int32.ofNat q)), (.long (kk K0 K1 K2 K3 (o 0))), (.ref ac), (.ref b2)]) (by decide +kernel) rfl ?_
    refine XS_.callS 162 2 (argsL := [(.long (kk K0 K1 K2 K3 (o 0))), (.int (Int32.ofNat q))]) (rest := [(.ref ac), (.ref b2)]) (rm_dg l Z a0 hw (kk K0 K1 K2 K3 (o 0)) q hS n0 XS_.size hq) (hw _ (List.mem_of_getElem? (i := 15) rfl)) (hw _ (List.mem_of_getElem? (i := 16) rfl)) (hw _ (List.mem_of_getElem? (i := 4) rfl)) (hw _ (List.mem_of_getElem? (i := 17) rfl)) (by decide) (ps := [.long, .int]) (r := some .int) (by decide +kernel) rfl rfl rfl rfl (by decide +kernel) (by simp [hcc, hsl]) ?_
    rintro Tg0 hg0 vg0 Xg0 ⟨rfl, rfl⟩
    show Go p e below s _ n0 _ (Tg0.setTop (mkF m 162 #[.val (.ref ak), .val (.int p2), .val (.ref b1), .val (.ref b2), .val (.int (Int32.ofNat q)), .val (.ref ac), .val (.ref b1), .val (.int (4 : Int32)), .val (.int (0 : Int32)), .val (.int (Int32.ofNat (o 0)))] [(.int (Int32.ofNat (kN (kk K0 K1 K2 K3 (o 0)) / 2 ^ q % 256))), (.ref ac), (.ref b2)]))
    rw [dgv 0]
    refine Xg0.blk hK (L := [(.dup2, 1, 0, 0)]) (pc' := 163) (ls' := #[.val (.ref ak), .val (.int p2), .val (.ref b1), .val (.ref b2), .val (.int (Int32.ofNat q)), .val (.ref ac), .val (.ref b1), .val (.int (4 : Int32)), .val (.int (0 : Int32)), .val (.int (Int32.ofNat (o 0)))]) (st' := [(.int (Int32.ofNat (dg 0))), (.ref ac), (.int (Int32.ofNat (dg 0))), (.ref ac), (.ref b2)]) (by decide +kernel) rfl ?_
    have vc0 : f0 (dg 0) = np dg 0 := by rw [own_np0]; simp only [hf0]
    have l40 := own_np_4 (D := dg) (q := 0) (by decide)
    refine Xg0.iaload 164 AC (by decide +kernel) ((own_ofn (by have := dlt 0; omega)).1) (by have z := VC.lit (dg 0) (by have := dlt 0; omega) (by have := dlt 0; omega); rw [vc0] at z; exact z) ?_
    refine Xg0.blk hK (L := [(.dup_x2, 1, 0, 0), (.iconst 1, 1, 1, 0), (.iadd, 1, 0, 0)]) (pc' := 167) (ls' := #[.val (.ref ak), .val (.int p2), .val (.ref b1), .val (.ref b2), .val (.int (Int32.ofNat q)), .val (.ref ac), .val (.ref b1), .val (.int (4 : Int32)), .val (.int (0 : Int32)), .val (.int (Int32.ofNat (o 0)))]) (st' := [(.int ((Int32.ofNat (np dg 0)) + (1 : Int32))), (.int (Int32.ofNat (dg 0))), (.ref ac), (.int (Int32.ofNat (np dg 0))), (.ref b2)]) (by decide +kernel) rfl ?_
    rw [own_suc (n := np dg 0) (by omega)]
    refine Xg0.iastore 168 AC (by decide +kernel) ((own_ofn (by have := dlt 0; omega)).1) (by rw [(own_ofn (by have := dlt 0; omega)).2, VC.1]; have := dlt 0; omega) (n3) ?_
    intro Tc0 hc0 Xc0 Wc0 C0
    rw [(own_ofn (by have := dlt 0; omega)).2] at C0 Wc0
    obtain ⟨f1, hf1⟩ : ∃ f : Nat → Nat, f = fun d => f0 d + (if dg 0 = d then 1 else 0) := ⟨_, rfl⟩
    have VC0 := (VC.set (t := dg 0) (v := np dg 0 + 1) (by have := dlt 0; omega)).congr (g := f1) (fun d _ => by rw [← vc0, hf1]; exact own_inc (f := f0) rfl d)
    have AK_c0 := AK.other Wc0 e3
    have A1_c0 := A1.other Wc0 e1
    have A2_c0 := A2.other Wc0 e2
    refine Xc0.blk hK (L := [(.iload 9, 2, 0, 0)]) (pc' := 170) (ls' := #[.val (.ref ak), .val (.int p2), .val (.ref b1), .val (.ref b2), .val (.int (Int32.ofNat q)), .val (.ref ac), .val (.ref b1), .val (.int (4 : Int32)), .val (.int (0 : Int32)), .val (.int (Int32.ofNat (o 0)))]) (st' := [(.int (Int32.ofNat (o 0))), (.int (Int32.ofNat (np dg 0))), (.ref b2)]) (by decide +kernel) rfl ?_
    refine Xc0.iastore 171 A2_c0 (by decide +kernel) ((own_ofn (by omega)).1) (by rw [(own_ofn (by omega)).2]; (try simp only [List.length_set]); omega) (n2) ?_
    intro Td0 hd0 Xd0 Wd0 D0
    rw [(own_ofn (by omega)).2] at D0 Wd0
    have AK_d0 := AK_c0.other Wd0 d3
    have A1_d0 := A1_c0.other Wd0 d1
    have AC_d0 := C0.other Wd0 e2.symm
    refine Xd0.blk hK (L := [(.iinc 8 1, 3, 1, 0), (.goto (-38), 3, 0, 136)]) (pc' := 136) (ls' := #[.val (.ref ak), .val (.int p2), .val (.ref b1), .val (.ref b2), .val (.int (Int32.ofNat q)), .val (.ref ac), .val (.ref b1), .val (.int (4 : Int32)), .val (.int (1 : Int32)), .val (.int (Int32.ofNat (o 0)))]) (st' := []) (by decide +kernel) rfl ?_
    refine Xd0.blk hK (L := [(.iload 8, 2, 0, 0), (.iload 7, 2, 0, 0)]) (pc' := 140) (ls' := #[.val (.ref ak), .val (.int p2), .val (.ref b1), .val (.ref b2), .val (.int (Int32.ofNat q)), .val (.ref ac), .val (.ref b1), .val (.int (4 : Int32)), .val (.int (1 : Int32)), .val (.int (Int32.ofNat (o 0)))]) (st' := [(.int (4 : Int32)), (.int (1 : Int32))]) (by decide +kernel) rfl ?_
    refine Xd0.icmp .ge (37) 177 143 (by decide +kernel) (fun (c140 : ¬ (1 : Int32) < (4 : Int32)) => absurd (by decide : (1 : Int32) < (4 : Int32)) c140) (fun (c140 : (1 : Int32) < (4 : Int32)) => ?_)
    refine Xd0.blk hK (L := [(.aload 6, 2, 0, 0), (.iload 8, 2, 0, 0)]) (pc' := 147) (ls' := #[.val (.ref ak), .val (.int p2), .val (.ref b1), .val (.ref b2), .val (.int (Int32.ofNat q)), .val (.ref ac), .val (.ref b1), .val (.int (4 : Int32)), .val (.int (1 : Int32)), .val (.int (Int32.ofNat (o 0)))]) (st' := [(.int (1 : Int32)), (.ref b1)]) (by decide +kernel) rfl ?_
    refine Xd0.iaload 148 A1_d0 (by decide +kernel) (by decide) (VO.lit 1 (by decide) (by decide)) ?_
    refine Xd0.blk hK (L := [(.istore 9, 2, 0, 0), (.aload_n 3, 1, 0, 0), (.aload 5, 2, 0, 0), (.aload_n 0, 1, 0, 0), (.iload 9, 2, 0, 0)]) (pc' := 156) (ls' := #[.val (.ref ak), .val (.int p2), .val (.ref b1), .val (.ref b2), .val (.int (Int32.ofNat q)), .val (.ref ac), .val (.ref b1), .val (.int (4 : Int32)), .val (.int (1 : Int32)), .val (.int (Int32.ofNat (o 1)))]) (st' := [(.int (Int32.ofNat (o 1))), (.ref ak), (.ref ac), (.ref b2)]) (by decide +kernel) rfl ?_
    refine Xd0.laload 157 AK_d0 (by decide +kernel) ((own_ofn (by have := SO.1 1 (by decide); omega)).1) (own_kk _ _ _ _ (SO.1 1 (by decide))) ?_
    refine Xd0.blk hK (L := [(.iload 4, 2, 0, 0)]) (pc' := 159) (ls' := #[.val (.ref ak), .val (.int p2), .val (.ref b1), .val (.ref b2), .val (.int (Int32.ofNat q)), .val (.ref ac), .val (.ref b1), .val (.int (4 : Int32)), .val (.int (1 : Int32)), .val (.int (Int32.ofNat (o 1)))]) (st' := [(.int (Int32.ofNat q)), (.long (kk K0 K1 K2 K3 (o 1))), (.ref ac), (.ref b2)]) (by decide +kernel) rfl ?_
    refine Xd0.callS 162 2 (argsL := [(.long (kk K0 K1 K2 K3 (o 1))), (.int (Int32.ofNat q))]) (rest := [(.ref ac), (.ref b2)]) (rm_dg l Z a0 hw (kk K0 K1 K2 K3 (o 1)) q hd0 n0 Xd0.size hq) (hw _ (List.mem_of_getElem? (i := 15) rfl)) (hw _ (List.mem_of_getElem? (i := 16) rfl)) (hw _ (List.mem_of_getElem? (i := 4) rfl)) (hw _ (List.mem_of_getElem? (i := 17) rfl)) (by decide) (ps := [.long, .int]) (r := some .int) (by decide +kernel) rfl rfl rfl rfl (by decide +kernel) (by simp [hcc, hsl]) ?_
    rintro Tg1 hg1 vg1 Xg1 ⟨rfl, rfl⟩
    show Go p e below s _ n0 _ (Tg1.setTop (mkF m 162 #[.val (.ref ak), .val (.int p2), .val (.ref b1), .val (.ref b2), .val (.int (Int32.ofNat q)), .val (.ref ac), .val (.ref b1), .val (.int (4 : Int32)), .val (.int (1 : Int32)), .val (.int (Int32.ofNat (o 1)))] [(.int (Int32.ofNat (kN (kk K0 K1 K2 K3 (o 1)) / 2 ^ q % 256))), (.ref ac), (.ref b2)]))
    rw [dgv 1]
    refine Xg1.blk hK (L := [(.dup2, 1, 0, 0)]) (pc' := 163) (ls' := #[.val (.ref ak), .val (.int p2), .val (.ref b1), .val (.ref b2), .val (.int (Int32.ofNat q)), .val (.ref ac), .val (.ref b1), .val (.int (4 : Int32)), .val (.int (1 : Int32)), .val (.int (Int32.ofNat (o 1)))]) (st' := [(.int (Int32.ofNat (dg 1))), (.ref ac), (.int (Int32.ofNat (dg 1))), (.ref ac), (.ref b2)]) (by decide +kernel) rfl ?_
    have vc1 : f1 (dg 1) = np dg 1 := by rw [own_np1]; simp only [hf0, hf1]
    have l41 := own_np_4 (D := dg) (q := 1) (by decide)
    refine Xg1.iaload 164 AC_d0 (by decide +kernel) ((own_ofn (by have := dlt 1; omega)).1) (by have z := VC0.lit (dg 1) (by have := dlt 1; omega) (by have := dlt 1; omega); rw [vc1] at z; exact z) ?_
    refine Xg1.blk hK (L := [(.dup_x2, 1, 0, 0), (.iconst 1, 1, 1, 0), (.iadd, 1, 0, 0)]) (pc' := 167) (ls' := #[.val (.ref ak), .val (.int p2), .val (.ref b1), .val (.ref b2), .val (.int (Int32.ofNat q)), .val (.ref ac), .val (.ref b1), .val (.int (4 : Int32)), .val (.int (1 : Int32)), .val (.int (Int32.ofNat (o 1)))]) (st' := [(.int ((Int32.ofNat (np dg 1)) + (1 : Int32))), (.int (Int32.ofNat (dg 1))), (.ref ac), (.int (Int32.ofNat (np dg 1))), (.ref b2)]) (by decide +kernel) rfl ?_
    rw [own_suc (n := np dg 1) (by omega)]
    refine Xg1.iastore 168 AC_d0 (by decide +kernel) ((own_ofn (by have := dlt 1; omega)).1) (by rw [(own_ofn (by have := dlt 1; omega)).2, VC0.1]; have := dlt 1; omega) (n3) ?_
    intro Tc1 hc1 Xc1 Wc1 C1
    rw [(own_ofn (by have := dlt 1; omega)).2] at C1 Wc1
    obtain ⟨f2, hf2⟩ : ∃ f : Nat → Nat, f = fun d => f1 d + (if dg 1 = d then 1 else 0) := ⟨_, rfl⟩
    have VC1 := (VC0.set (t := dg 1) (v := np dg 1 + 1) (by have := dlt 1; omega)).congr (g := f2) (fun d _ => by rw [← vc1, hf2]; exact own_inc (f := f1) rfl d)
    have AK_c1 := AK_d0.other Wc1 e3
    have A1_c1 := A1_d0.other Wc1 e1
    have A2_c1 := D0.other Wc1 e2
    refine Xc1.blk hK (L := [(.iload 9, 2, 0, 0)]) (pc' := 170) (ls' := #[.val (.ref ak), .val (.int p2), .val (.ref b1), .val (.ref b2), .val (.int (Int32.ofNat q)), .val (.ref ac), .val (.ref b1), .val (.int (4 : Int32)), .val (.int (1 : Int32)), .val (.int (Int32.ofNat (o 1)))]) (st' := [(.int (Int32.ofNat (o 1))), (.int (Int32.ofNat (np dg 1))), (.ref b2)]) (by decide +kernel) rfl ?_
    refine Xc1.iastore 171 A2_c1 (by decide +kernel) ((own_ofn (by omega)).1) (by rw [(own_ofn (by omega)).2]; (try simp only [List.length_set]); omega) (n2) ?_
    intro Td1 hd1 Xd1 Wd1 D1
    rw [(own_ofn (by omega)).2] at D1 Wd1
    have AK_d1 := AK_c1.other Wd1 d3
    have A1_d1 := A1_c1.other Wd1 d1
    have AC_d1 := C1.other Wd1 e2.symm
    refine Xd1.blk hK (L := [(.iinc 8 1, 3, 1, 0), (.goto (-38), 3, 0, 136)]) (pc' := 136) (ls' := #[.val (.ref ak), .val (.int p2), .val (.ref b1), .val (.ref b2), .val (.int (Int32.ofNat q)), .val (.ref ac), .val (.ref b1), .val (.int (4 : Int32)), .val (.int (2 : Int32)), .val (.int (Int32.ofNat (o 1)))]) (st' := []) (by decide +kernel) rfl ?_
    refine Xd1.blk hK (L := [(.iload 8, 2, 0, 0), (.iload 7, 2, 0, 0)]) (pc' := 140) (ls' := #[.val (.ref ak), .val (.int p2), .val (.ref b1), .val (.ref b2), .val (.int (Int32.ofNat q)), .val (.ref ac), .val (.ref b1), .val (.int (4 : Int32)), .val (.int (2 : Int32)), .val (.int (Int32.ofNat (o 1)))]) (st' := [(.int (4 : Int32)), (.int (2 : Int32))]) (by decide +kernel) rfl ?_
    refine Xd1.icmp .ge (37) 177 143 (by decide +kernel) (fun (c140 : ¬ (2 : Int32) < (4 : Int32)) => absurd (by decide : (2 : Int32) < (4 : Int32)) c140) (fun (c140 : (2 : Int32) < (4 : Int32)) => ?_)
    refine Xd1.blk hK (L := [(.aload 6, 2, 0, 0), (.iload 8, 2, 0, 0)]) (pc' := 147) (ls' := #[.val (.ref ak), .val (.int p2), .val (.ref b1), .val (.ref b2), .val (.int (Int32.ofNat q)), .val (.ref ac), .val (.ref b1), .val (.int (4 : Int32)), .val (.int (2 : Int32)), .val (.int (Int32.ofNat (o 1)))]) (st' := [(.int (2 : Int32)), (.ref b1)]) (by decide +kernel) rfl ?_
    refine Xd1.iaload 148 A1_d1 (by decide +kernel) (by decide) (VO.lit 2 (by decide) (by decide)) ?_
    refine Xd1.blk hK (L := [(.istore 9, 2, 0, 0), (.aload_n 3, 1, 0, 0), (.aload 5, 2, 0, 0), (.aload_n 0, 1, 0, 0), (.iload 9, 2, 0, 0)]) (pc' := 156) (ls' := #[.val (.ref ak), .val (.int p2), .val (.ref b1), .val (.ref b2), .val (.int (Int32.ofNat q)), .val (.ref ac), .val (.ref b1), .val (.int (4 : Int32)), .val (.int (2 : Int32)), .val (.int (Int32.ofNat (o 2)))]) (st' := [(.int (Int32.ofNat (o 2))), (.ref ak), (.ref ac), (.ref b2)]) (by decide +kernel) rfl ?_
    refine Xd1.laload 157 AK_d1 (by decide +kernel) ((own_ofn (by have := SO.1 2 (by decide); omega)).1) (own_kk _ _ _ _ (SO.1 2 (by decide))) ?_
    refine Xd1.blk hK (L := [(.iload 4, 2, 0, 0)]) (pc' := 159) (ls' := #[.val (.ref ak), .val (.int p2), .val (.ref b1), .val (.ref b2), .val (.int (Int32.ofNat q)), .val (.ref ac), .val (.ref b1), .val (.int (4 : Int32)), .val (.int (2 : Int32)), .val (.int (Int32.ofNat (o 2)))]) (st' := [(.int (Int32.ofNat q)), (.long (kk K0 K1 K2 K3 (o 2))), (.ref ac), (.ref b2)]) (by decide +kernel) rfl ?_
    refine Xd1.callS 162 2 (argsL := [(.long (kk K0 K1 K2 K3 (o 2))), (.int (Int32.ofNat q))]) (rest := [(.ref ac), (.ref b2)]) (rm_dg l Z a0 hw (kk K0 K1 K2 K3 (o 2)) q hd1 n0 Xd1.size hq) (hw _ (List.mem_of_getElem? (i := 15) rfl)) (hw _ (List.mem_of_getElem? (i := 16) rfl)) (hw _ (List.mem_of_getElem? (i := 4) rfl)) (hw _ (List.mem_of_getElem? (i := 17) rfl)) (by decide) (ps := [.long, .int]) (r := some .int) (by decide +kernel) rfl rfl rfl rfl (by decide +kernel) (by simp [hcc, hsl]) ?_
    rintro Tg2 hg2 vg2 Xg2 ⟨rfl, rfl⟩
    show Go p e below s _ n0 _ (Tg2.setTop (mkF m 162 #[.val (.ref ak), .val (.int p2), .val (.ref b1), .val (.ref b2), .val (.int (Int32.ofNat q)), .val (.ref ac), .val (.ref b1), .val (.int (4 : Int32)), .val (.int (2 : Int32)), .val (.int (Int32.ofNat (o 2)))] [(.int (Int32.ofNat (kN (kk K0 K1 K2 K3 (o 2)) / 2 ^ q % 256))), (.ref ac), (.ref b2)]))
    rw [dgv 2]
    refine Xg2.blk hK (L := [(.dup2, 1, 0, 0)]) (pc' := 163) (ls' := #[.val (.ref ak), .val (.int p2), .val (.ref b1), .val (.ref b2), .val (.int (Int32.ofNat q)), .val (.ref ac), .val (.ref b1), .val (.int (4 : Int32)), .val (.int (2 : Int32)), .val (.int (Int32.ofNat (o 2)))]) (st' := [(.int (Int32.ofNat (dg 2))), (.ref ac), (.int (Int32.ofNat (dg 2))), (.ref ac), (.ref b2)]) (by decide +kernel) rfl ?_
    have vc2 : f2 (dg 2) = np dg 2 := by rw [own_np2]; simp only [hf0, hf1, hf2]
    have l42 := own_np_4 (D := dg) (q := 2) (by decide)
    refine Xg2.iaload 164 AC_d1 (by decide +kernel) ((own_ofn (by have := dlt 2; omega)).1) (by have z := VC1.lit (dg 2) (by have := dlt 2; omega) (by have := dlt 2; omega); rw [vc2] at z; exact z) ?_
    refine Xg2.blk hK (L := [(.dup_x2, 1, 0, 0), (.iconst 1, 1, 1, 0), (.iadd, 1, 0, 0)]) (pc' := 167) (ls' := #[.val (.ref ak), .val (.int p2), .val (.ref b1), .val (.ref b2), .val (.int (Int32.ofNat q)), .val (.ref ac), .val (.ref b1), .val (.int (4 : Int32)), .val (.int (2 : Int32)), .val (.int (Int32.ofNat (o 2)))]) (st' := [(.int ((Int32.ofNat (np dg 2)) + (1 : Int32))), (.int (Int32.ofNat (dg 2))), (.ref ac), (.int (Int32.ofNat (np dg 2))), (.ref b2)]) (by decide +kernel) rfl ?_
    rw [own_suc (n := np dg 2) (by omega)]
    refine Xg2.iastore 168 AC_d1 (by decide +kernel) ((own_ofn (by have := dlt 2; omega)).1) (by rw [(own_ofn (by have := dlt 2; omega)).2, VC1.1]; have := dlt 2; omega) (n3) ?_
    intro Tc2 hc2 Xc2 Wc2 C2
    rw [(own_ofn (by have := dlt 2; omega)).2] at C2 Wc2
    obtain ⟨f3, hf3⟩ : ∃ f : Nat → Nat, f = fun d => f2 d + (if dg 2 = d then 1 else 0) := ⟨_, rfl⟩
    have VC2 := (VC1.set (t := dg 2) (v := np dg 2 + 1) (by have := dlt 2; omega)).congr (g := f3) (fun d _ => by rw [← vc2, hf3]; exact own_inc (f := f2) rfl d)
    have AK_c2 := AK_d1.other Wc2 e3
    have A1_c2 := A1_d1.other Wc2 e1
    have A2_c2 := D1.other Wc2 e2
    refine Xc2.blk hK (L := [(.iload 9, 2, 0, 0)]) (pc' := 170) (ls' := #[.val (.ref ak), .val (.int p2), .val (.ref b1), .val (.ref b2), .val (.int (Int32.ofNat q)), .val (.ref ac), .val (.ref b1), .val (.int (4 : Int32)), .val (.int (2 : Int32)), .val (.int (Int32.ofNat (o 2)))]) (st' := [(.int (Int32.ofNat (o 2))), (.int (Int32.ofNat (np dg 2))), (.ref b2)]) (by decide +kernel) rfl ?_
    refine Xc2.iastore 171 A2_c2 (by decide +kernel) ((own_ofn (by omega)).1) (by rw [(own_ofn (by omega)).2]; (try simp only [List.length_set]); omega) (n2) ?_
    intro Td2 hd2 Xd2 Wd2 D2
    rw [(own_ofn (by omega)).2] at D2 Wd2
    have AK_d2 := AK_c2.other Wd2 d3
    have A1_d2 := A1_c2.other Wd2 d1
    have AC_d2 := C2.other Wd2 e2.symm
    refine Xd2.blk hK (L := [(.iinc 8 1, 3, 1, 0), (.goto (-38), 3, 0, 136)]) (pc' := 136) (ls' := #[.val (.ref ak), .val (.int p2), .val (.ref b1), .val (.ref b2), .val (.int (Int32.ofNat q)), .val (.ref ac), .val (.ref b1), .val (.int (4 : Int32)), .val (.int (3 : Int32)), .val (.int (Int32.ofNat (o 2)))]) (st' := []) (by decide +kernel) rfl ?_
    refine Xd2.blk hK (L := [(.iload 8, 2, 0, 0), (.iload 7, 2, 0, 0)]) (pc' := 140) (ls' := #[.val (.ref ak), .val (.int p2), .val (.ref b1), .val (.ref b2), .val (.int (Int32.ofNat q)), .val (.ref ac), .val (.ref b1), .val (.int (4 : Int32)), .val (.int (3 : Int32)), .val (.int (Int32.ofNat (o 2)))]) (st' := [(.int (4 : Int32)), (.int (3 : Int32))]) (by decide +kernel) rfl ?_
    refine Xd2.icmp .ge (37) 177 143 (by decide +kernel) (fun (c140 : ¬ (3 : Int32) < (4 : Int32)) => absurd (by decide : (3 : Int32) < (4 : Int32)) c140) (fun (c140 : (3 : Int32) < (4 : Int32)) => ?_)
    refine Xd2.blk hK (L := [(.aload 6, 2, 0, 0), (.iload 8, 2, 0, 0)]) (pc' := 147) (ls' := #[.val (.ref ak), .val (.int p2), .val (.ref b1), .val (.ref b2), .val (.int (Int32.ofNat q)), .val (.ref ac), .val (.ref b1), .val (.int (4 : Int32)), .val (.int (3 : Int32)), .val (.int (Int32.ofNat (o 2)))]) (st' := [(.int (3 : Int32)), (.ref b1)]) (by decide +kernel) rfl ?_
    refine Xd2.iaload 148 A1_d2 (by decide +kernel) (by decide) (VO.lit 3 (by decide) (by decide)) ?_
    refine Xd2.blk hK (L := [(.istore 9, 2, 0, 0), (.aload_n 3, 1, 0, 0), (.aload 5, 2, 0, 0), (.aload_n 0, 1, 0, 0), (.iload 9, 2, 0, 0)]) (pc' := 156) (ls' := #[.val (.ref ak), .val (.int p2), .val (.ref b1), .val (.ref b2), .val (.int (Int32.ofNat q)), .val (.ref ac), .val (.ref b1), .val (.int (4 : Int32)), .val (.int (3 : Int32)), .val (.int (Int32.ofNat (o 3)))]) (st' := [(.int (Int32.ofNat (o 3))), (.ref ak), (.ref ac), (.ref b2)]) (by decide +kernel) rfl ?_
    refine Xd2.laload 157 AK_d2 (by decide +kernel) ((own_ofn (by have := SO.1 3 (by decide); omega)).1) (own_kk _ _ _ _ (SO.1 3 (by decide))) ?_
    refine Xd2.blk hK (L := [(.iload 4, 2, 0, 0)]) (pc' := 159) (ls' := #[.val (.ref ak), .val (.int p2), .val (.ref b1), .val (.ref b2), .val (.int (Int32.ofNat q)), .val (.ref ac), .val (.ref b1), .val (.int (4 : Int32)), .val (.int (3 : Int32)), .val (.int (Int32.ofNat (o 3)))]) (st' := [(.int (Int32.ofNat q)), (.long (kk K0 K1 K2 K3 (o 3))), (.ref ac), (.ref b2)]) (by decide +kernel) rfl ?_
    refine Xd2.callS 162 2 (argsL := [(.long (kk K0 K1 K2 K3 (o 3))), (.int (Int32.ofNat q))]) (rest := [(.ref ac), (.ref b2)]) (rm_dg l Z a0 hw (kk K0 K1 K2 K3 (o 3)) q hd2 n0 Xd2.size hq) (hw _ (List.mem_of_getElem? (i := 15) rfl)) (hw _ (List.mem_of_getElem? (i := 16) rfl)) (hw _ (List.mem_of_getElem? (i := 4) rfl)) (hw _ (List.mem_of_getElem? (i := 17) rfl)) (by decide) (ps := [.long, .int]) (r := some .int) (by decide +kernel) rfl rfl rfl rfl (by decide +kernel) (by simp [hcc, hsl]) ?_
    rintro Tg3 hg3 vg3 Xg3 ⟨rfl, rfl⟩
    show Go p e below s _ n0 _ (Tg3.setTop (mkF m 162 #[.val (.ref ak), .val (.int p2), .val (.ref b1), .val (.ref b2), .val (.int (Int32.ofNat q)), .val (.ref ac), .val (.ref b1), .val (.int (4 : Int32)), .val (.int (3 : Int32)), .val (.int (Int32.ofNat (o 3)))] [(.int (Int32.ofNat (kN (kk K0 K1 K2 K3 (o 3)) / 2 ^ q % 256))), (.ref ac), (.ref b2)]))
    rw [dgv 3]
    refine Xg3.blk hK (L := [(.dup2, 1, 0, 0)]) (pc' := 163) (ls' := #[.val (.ref ak), .val (.int p2), .val (.ref b1), .val (.ref b2), .val (.int (Int32.ofNat q)), .val (.ref ac), .val (.ref b1), .val (.int (4 : Int32)), .val (.int (3 : Int32)), .val (.int (Int32.ofNat (o 3)))]) (st' := [(.int (Int32.ofNat (dg 3))), (.ref ac), (.int (Int32.ofNat (dg 3))), (.ref ac), (.ref b2)]) (by decide +kernel) rfl ?_
    have vc3 : f3 (dg 3) = np dg 3 := by rw [own_np3]; simp only [hf0, hf1, hf2, hf3]
    have l43 := own_np_4 (D := dg) (q := 3) (by decide)
    refine Xg3.iaload 164 AC_d2 (by decide +kernel) ((own_ofn (by have := dlt 3; omega)).1) (by have z := VC2.lit (dg 3) (by have := dlt 3; omega) (by have := dlt 3; omega); rw [vc3] at z; exact z) ?_
    refine Xg3.blk hK (L := [(.dup_x2, 1, 0, 0), (.iconst 1, 1, 1, 0), (.iadd, 1, 0, 0)]) (pc' := 167) (ls' := #[.val (.ref ak), .val (.int p2), .val (.ref b1), .val (.ref b2), .val (.int (Int32.ofNat q)), .val (.ref ac), .val (.ref b1), .val (.int (4 : Int32)), .val (.int (3 : Int32)), .val (.int (Int32.ofNat (o 3)))]) (st' := [(.int ((Int32.ofNat (np dg 3)) + (1 : Int32))), (.int (Int32.ofNat (dg 3))), (.ref ac), (.int (Int32.ofNat (np dg 3))), (.ref b2)]) (by decide +kernel) rfl ?_
    rw [own_suc (n := np dg 3) (by omega)]
    refine Xg3.iastore 168 AC_d2 (by decide +kernel) ((own_ofn (by have := dlt 3; omega)).1) (by rw [(own_ofn (by have := dlt 3; omega)).2, VC2.1]; have := dlt 3; omega) (n3) ?_
    intro Tc3 hc3 Xc3 Wc3 C3
    rw [(own_ofn (by have := dlt 3; omega)).2] at C3 Wc3
    obtain ⟨f4, hf4⟩ : ∃ f : Nat → Nat, f = fun d => f3 d + (if dg 3 = d then 1 else 0) := ⟨_, rfl⟩
    have VC3 := (VC2.set (t := dg 3) (v := np dg 3 + 1) (by have := dlt 3; omega)).congr (g := f4) (fun d _ => by rw [← vc3, hf4]; exact own_inc (f := f3) rfl d)
    have AK_c3 := AK_d2.other Wc3 e3
    have A1_c3 := A1_d2.other Wc3 e1
    have A2_c3 := D2.other Wc3 e2
    refine Xc3.blk hK (L := [(.iload 9, 2, 0, 0)]) (pc' := 170) (ls' := #[.val (.ref ak), .val (.int p2), .val (.ref b1), .val (.ref b2), .val (.int (Int32.ofNat q)), .val (.ref ac), .val (.ref b1), .val (.int (4 : Int32)), .val (.int (3 : Int32)), .val (.int (Int32.ofNat (o 3)))]) (st' := [(.int (Int32.ofNat (o 3))), (.int (Int32.ofNat (np dg 3))), (.ref b2)]) (by decide +kernel) rfl ?_
    refine Xc3.iastore 171 A2_c3 (by decide +kernel) ((own_ofn (by omega)).1) (by rw [(own_ofn (by omega)).2]; (try simp only [List.length_set]); omega) (n2) ?_
    intro Td3 hd3 Xd3 Wd3 D3
    rw [(own_ofn (by omega)).2] at D3 Wd3
    have AK_d3 := AK_c3.other Wd3 d3
    have A1_d3 := A1_c3.other Wd3 d1
    have AC_d3 := C3.other Wd3 e2.symm
    refine Xd3.blk hK (L := [(.iinc 8 1, 3, 1, 0), (.goto (-38), 3, 0, 136)]) (pc' := 136) (ls' := #[.val (.ref ak), .val (.int p2), .val (.ref b1), .val (.ref b2), .val (.int (Int32.ofNat q)), .val (.ref ac), .val (.ref b1), .val (.int (4 : Int32)), .val (.int (4 : Int32)), .val (.int (Int32.ofNat (o 3)))]) (st' := []) (by decide +kernel) rfl ?_
    refine Xd3.blk hK (L := [(.iload 8, 2, 0, 0), (.iload 7, 2, 0, 0)]) (pc' := 140) (ls' := #[.val (.ref ak), .val (.int p2), .val (.ref b1), .val (.ref b2), .val (.int (Int32.ofNat q)), .val (.ref ac), .val (.ref b1), .val (.int (4 : Int32)), .val (.int (4 : Int32)), .val (.int (Int32.ofNat (o 3)))]) (st' := [(.int (4 : Int32)), (.int (4 : Int32))]) (by decide +kernel) rfl ?_
    refine Xd3.icmp .ge (37) 177 143 (by decide +kernel) (fun (c140 : ¬ (4 : Int32) < (4 : Int32)) => ?_) (fun (c140 : (4 : Int32) < (4 : Int32)) => absurd c140 (by decide : ¬ (4 : Int32) < (4 : Int32)))
    refine Xd3.blk hK (L := [(.aload_n 2, 1, 0, 0), (.astore 6, 2, 0, 0), (.aload_n 3, 1, 0, 0), (.astore_n 2, 1, 0, 0), (.aload 6, 2, 0, 0), (.astore_n 3, 1, 0, 0), (.iinc 4 8, 3, 8, 0), (.goto (-157), 3, 0, 31)]) (pc' := 31) (ls' := #[.val (.ref ak), .val (.int p2), .val (.ref b2), .val (.ref b1), .val (.int ((Int32.ofNat q) + (8 : Int32))), .val (.ref ac), .val (.ref b1), .val (.int (4 : Int32)), .val (.int (4 : Int32)), .val (.int (Int32.ofNat (o 3)))]) (st' := []) (by decide +kernel) rfl ?_
    rw [show Int32.ofNat q + (8 : Int32) = Int32.ofNat (q + 8) from own_plus (a := q) (b := 8) (by omega)]
    exact KNX _ _ _ (inv4 (np dg) o) _ Xd3 AK_d3 D3 A1_d3 (own_scat lT) (own_Srt_step SO (fun r hr => by rw [← hdg]; exact own_inv hr))
  have J96 : ∀ (cc sl q : Nat) (b1 b2 ac : Addr) (os ts : List Value) (o dg : Nat → Nat), cc ≤ 10 → sl ≤ 2064 → q < 64 → (n0 ≤ b1 ∧ n0 ≤ b2 ∧ n0 ≤ ac) → (b1 ≠ b2 ∧ ak ≠ b1 ∧ ak ≠ b2) → (b1 ≠ ac ∧ b2 ≠ ac ∧ ak ≠ ac) → CV os 4 o → ts.length = 4 → Srt (fun i => kN (kk K0 K1 K2 K3 i)) q o → (dg = fun r => kN (kk K0 K1 K2 K3 (o r)) / 2 ^ q % 256) → (∀ (TN : State) (hN : Heap) (i9 : Int32) (o2 : Nat → Nat) (us : List Value), Wk Z l p e ({ frames := 1, cells := 10, slots := 2064, locals := 20 } : Room) s m #[(.ref ak), (.int p2)] below meth c "com/example/text_to_fingerprint/texttofingerprint/service/PositionOrder" "byKey" prog_29_method_2_code 10 (some (.array .int)) n0 TN hN cc sl → AV Z hN ak .long [.long K0, .long K1, .long K2, .long K3] → AV Z hN b2 .int us → AV Z hN b1 .int os → CV us 4 o2 → Srt (fun i => kN (kk K0 K1 K2 K3 i)) (q + 8) o2 → Go p e below s ({ frames := 1, cells := 10, slots := 2064, locals := 20 } : Room) n0 (fun v h => ∃ ao os o q, v = some (.ref ao) ∧ AV Z h ao .int os ∧ CV os 4 o ∧ Srt (fun i => kN (kk K0 K1 K2 K3 i)) q o ∧ p2.toInt ≤ q ∧ AV Z h ak .long [.long K0, .long K1, .long K2, .long K3]) (TN.setTop (mkF m 31 #[.val (.ref ak), .val (.int p2), .val (.ref b2), .val (.ref b1), .val (.int (Int32.ofNat (q + 8))), .val (.ref ac), .val (.ref b1), .val (.int (4 : Int32)), .val (.int (4 : Int32)), .val (.int i9)] []))) → ∀ (k d : Nat) (TP : State) (hP : Heap) (i9 : Int32) (cs : List Value), d + k = 256 → Wk Z l p e ({ frames := 1, cells := 10, slots := 2064, locals := 20 } : Room) s m #[(.ref ak), (.int p2)] below meth c "com/example/text_to_fingerprint/texttofingerprint/service/PositionOrder" "byKey" prog_29_method_2_code 10 (some (.array .int)) n0 TP hP cc sl → AV Z hP ak .long [.long K0, .long K1, .long K2, .long K3] → AV Z hP b1 .int os → AV Z hP b2 .int ts → AV Z hP ac .int cs → CV cs 257 (fun e => if e ≤ d then pre (hist dg) e else hist dg e) → Go p e below s ({ frames := 1, cells := 10, slots := 2064, locals := 20 } : Room) n0 (fun v h => ∃ ao os o q, v = some (.ref ao) ∧ AV Z h ao .int os ∧ CV os 4 o ∧ Srt (fun i => kN (kk K0 K1 K2 K3 i)) q o ∧ p2.toInt ≤ q ∧ AV Z h ak .long [.long K0, .long K1, .long K2, .long K3]) (TP.setTop (mkF m 96 #[.val (.ref ak), .val (.int p2), .val (.ref b1), .val (.ref b2), .val (.int (Int32.ofNat q)), .val (.ref ac), .val (.int (Int32.ofNat d)), .val (.int (4 : Int32)), .val (.int (4 : Int32)), .val (.int i9)] [])) := by
    intro cc sl q b1 b2 ac os ts o dg hcc hsl hq hn3 hd3 hc3 VO lT SO hdg KNX
    obtain ⟨n1, n2, n3⟩ := hn3
    obtain ⟨d1, d2, d3⟩ := hd3
    obtain ⟨e1, e2, e3⟩ := hc3
    have dlt : ∀ r, dg r < 256 := fun r => by rw [hdg]; exact Nat.mod_lt _ (by decide)
    have dgv : ∀ r, kN (kk K0 K1 K2 K3 (o r)) / 2 ^ q % 256 = dg r := fun r => by rw [hdg]
    have hdl := own_hist_le dg
    intro k
    induction k with
    | zero =>
      intro d TP hP i9 cs hd XP AK A1 A2 AC VC
      obtain rfl : d = 256 := by omega
      refine XP.blk hK (L := [(.iload 6, 2, 0, 0), (.sipush 256, 3, 256, 0)]) (pc' := 101) (ls' := #[.val (.ref ak), .val (.int p2), .val (.ref b1), .val (.ref b2), .val (.int (Int32.ofNat q)), .val (.ref ac), .val (.int (Int32.ofNat 256)), .val (.int (4 : Int32)), .val (.int (4 : Int32)), .val (.int i9)]) (st' := [(.int (256 : Int32)), (.int (Int32.ofNat 256))]) (by decide +kernel) rfl ?_
      refine XP.icmp .ge (24) 125 104 (by decide +kernel) (fun (c101 : ¬ (Int32.ofNat 256) < (256 : Int32)) => ?_) (fun (c101 : (Int32.ofNat 256) < (256 : Int32)) => absurd c101 (by decide : ¬ (Int32.ofNat 256) < (256 : Int32)))
      exact J125 cc sl q b1 b2 ac os ts o dg hcc hsl hq ⟨n1, n2, n3⟩ ⟨d1, d2, d3⟩ ⟨e1, e2, e3⟩ VO lT SO hdg KNX _ _ i9 cs XP AK A1 A2 AC (VC.congr (fun e he => by rw [if_pos (by omega)]))
    | succ k ih =>
      intro d TP hP i9 cs hd XP AK A1 A2 AC VC
      have ld : d < 256 := by omega
      have h1 := (hdl (d + 1)).1
      have h2 := (hdl d).2
      refine XP.blk hK (L := [(.iload 6, 2, 0, 0), (.sipush 256, 3, 256, 0)]) (pc' := 101) (ls' := #[.val (.ref ak), .val (.int p2), .val (.ref b1), .val (.ref b2), .val (.int (Int32.ofNat q)), .val (.ref ac), .val (.int (Int32.ofNat d)), .val (.int (4 : Int32)), .val (.int (4 : Int32)), .val (.int i9)]) (st' := [(.int (256 : Int32)), (.int (Int32.ofNat d))]) (by decide +kernel) rfl ?_
      refine XP.icmp .ge (24) 125 104 (by decide +kernel) (fun (c101 : ¬ (Int32.ofNat d) < (256 : Int32)) => absurd (by rw [Int32.lt_iff_toInt_lt, own_of (by omega)]; have : (256 : Int32).toInt = 256 := rfl; omega : (Int32.ofNat d) < (256 : Int32)) c101) (fun (c101 : (Int32.ofNat d) < (256 : Int32)) => ?_)
      refine XP.blk hK (L := [(.aload 5, 2, 0, 0), (.iload 6, 2, 0, 0), (.iconst 1, 1, 1, 0), (.iadd, 1, 0, 0), (.dup2, 1, 0, 0)]) (pc' := 111) (ls' := #[.val (.ref ak), .val (.int p2), .val (.ref b1), .val (.ref b2), .val (.int (Int32.ofNat q)), .val (.ref ac), .val (.int (Int32.ofNat d)), .val (.int (4 : Int32)), .val (.int (4 : Int32)), .val (.int i9)]) (st' := [(.int ((Int32.ofNat d) + (1 : Int32))), (.ref ac), (.int ((Int32.ofNat d) + (1 : Int32))), (.ref ac)]) (by decide +kernel) rfl ?_
      rw [own_suc (n := d) (by omega)]
      refine XP.iaload 112 AC (by decide +kernel) ((own_ofn (by omega)).1) (by have z := VC.lit (d + 1) (by omega) (by omega); rw [if_neg (by omega)] at z; exact z) ?_
      refine XP.blk hK (L := [(.aload 5, 2, 0, 0), (.iload 6, 2, 0, 0)]) (pc' := 116) (ls' := #[.val (.ref ak), .val (.int p2), .val (.ref b1), .val (.ref b2), .val (.int (Int32.ofNat q)), .val (.ref ac), .val (.int (Int32.ofNat d)), .val (.int (4 : Int32)), .val (.int (4 : Int32)), .val (.int i9)]) (st' := [(.int (Int32.ofNat d)), (.ref ac), (.int (Int32.ofNat (hist dg (d + 1)))), (.int (Int32.ofNat (d + 1))), (.ref ac)]) (by decide +kernel) rfl ?_
      refine XP.iaload 117 AC (by decide +kernel) ((own_ofn (by omega)).1) (by have z := VC.lit d (by omega) (by omega); rw [if_pos (by omega)] at z; exact z) ?_
      refine XP.blk hK (L := [(.iadd, 1, 0, 0)]) (pc' := 118) (ls' := #[.val (.ref ak), .val (.int p2), .val (.ref b1), .val (.ref b2), .val (.int (Int32.ofNat q)), .val (.ref ac), .val (.int (Int32.ofNat d)), .val (.int (4 : Int32)), .val (.int (4 : Int32)), .val (.int i9)]) (st' := [(.int ((Int32.ofNat (hist dg (d + 1))) + (Int32.ofNat (pre (hist dg) d)))), (.int (Int32.ofNat (d + 1))), (.ref ac)]) (by decide +kernel) rfl ?_
      rw [own_plus (a := hist dg (d + 1)) (b := pre (hist dg) d) (by omega)]
      refine XP.iastore 119 AC (by decide +kernel) ((own_ofn (by omega)).1) (by rw [(own_ofn (by omega)).2, VC.1]; omega) (n3) ?_
      intro Tw hw Xw Ww AW
      rw [(own_ofn (by omega)).2] at AW Ww
      refine Xw.blk hK (L := [(.iinc 6 1, 3, 1, 0), (.goto (-26), 3, 0, 96)]) (pc' := 96) (ls' := #[.val (.ref ak), .val (.int p2), .val (.ref b1), .val (.ref b2), .val (.int (Int32.ofNat q)), .val (.ref ac), .val (.int ((Int32.ofNat d) + (1 : Int32))), .val (.int (4 : Int32)), .val (.int (4 : Int32)), .val (.int i9)]) (st' := []) (by decide +kernel) rfl ?_
      rw [own_suc (n := d) (by omega)]
      exact ih (d + 1) _ _ i9 _ (by omega) Xw (AK.other Ww e3) (A1.other Ww e1) (A2.other Ww e2) AW ((VC.set (t := d + 1) (v := hist dg (d + 1) + pre (hist dg) d) (by omega)).congr (fun e he => by
        by_cases z : e = d + 1
        · subst z; rw [if_pos rfl, if_pos (Nat.le_refl _)]; show _ = pre (hist dg) d + hist dg (d + 1); omega
        · rw [if_neg z]; by_cases y : e ≤ d
          · rw [if_pos y, if_pos (by omega)]
          · rw [if_neg y, if_neg (by omega)]))
  have J31 : ∀ (k q : Nat) (b1 b2 c5 a6 : Addr) (i9 : Int32) (os ts : List Value) (o : Nat → Nat) (TJ : State) (hJ : Heap), q + 8 * k = 64 → Wk Z l p e ({ frames := 1, cells := 10, slots := 2064, locals := 20 } : Room) s m #[(.ref ak), (.int p2)] below meth c "com/example/text_to_fingerprint/texttofingerprint/service/PositionOrder" "byKey" prog_29_method_2_code 10 (some (.array .int)) n0 TJ hJ (10 - k) (2064 - 257 * k) → (n0 ≤ b1 ∧ n0 ≤ b2) → (b1 ≠ b2 ∧ ak ≠ b1 ∧ ak ≠ b2) → AV Z hJ ak .long [.long K0, .long K1, .long K2, .long K3] → AV Z hJ b1 .int os → AV Z hJ b2 .int ts → CV os 4 o → ts.length = 4 → Srt (fun i => kN (kk K0 K1 K2 K3 i)) q o → Go p e below s ({ frames := 1, cells := 10, slots := 2064, locals := 20 } : Room) n0 (fun v h => ∃ ao os o q, v = some (.ref ao) ∧ AV Z h ao .int os ∧ CV os 4 o ∧ Srt (fun i => kN (kk K0 K1 K2 K3 i)) q o ∧ p2.toInt ≤ q ∧ AV Z h ak .long [.long K0, .long K1, .long K2, .long K3]) (TJ.setTop (mkF m 31 #[.val (.ref ak), .val (.int p2), .val (.ref b1), .val (.ref b2), .val (.int (Int32.ofNat q)), .val (.ref c5), .val (.ref a6), .val (.int (4 : Int32)), .val (.int (4 : Int32)), .val (.int i9)] [])) := by
    intro k
    induction k with
    | zero =>
      intro q b1 b2 c5 a6 i9 os ts o TJ hJ hq XJ hn2 hd3 AK A1 A2 VO lT SO
      refine XJ.blk hK (L := [(.iload 4, 2, 0, 0), (.iload_n 1, 1, 0, 0)]) (pc' := 34) (ls' := #[.val (.ref ak), .val (.int p2), .val (.ref b1), .val (.ref b2), .val (.int (Int32.ofNat q)), .val (.ref c5), .val (.ref a6), .val (.int (4 : Int32)), .val (.int (4 : Int32)), .val (.int i9)]) (st' := [(.int p2), (.int (Int32.ofNat q))]) (by decide +kernel) rfl ?_
      refine XJ.icmp .ge (157) 191 37 (by decide +kernel) (fun (c34 : ¬ (Int32.ofNat q) < p2) => ?_) (fun (c34 : (Int32.ofNat q) < p2) => absurd c34 (by rw [Int32.lt_iff_toInt_lt, own_of (by omega)]; omega : ¬ (Int32.ofNat q) < p2))
      refine XJ.blk hK (L := [(.aload_n 2, 1, 0, 0)]) (pc' := 192) (ls' := #[.val (.ref ak), .val (.int p2), .val (.ref b1), .val (.ref b2), .val (.int (Int32.ofNat q)), .val (.ref c5), .val (.ref a6), .val (.int (4 : Int32)), .val (.int (4 : Int32)), .val (.int i9)]) (st' := [(.ref b1)]) (by decide +kernel) rfl ?_
      exact XJ.retA (by decide +kernel) rfl rfl rfl (by decide) (by decide) (⟨_, os, o, q, rfl, A1, VO, SO, by omega, AK⟩)
    | succ k ih =>
      intro q b1 b2 c5 a6 i9 os ts o TJ hJ hqk XJ hn2 hd3 AK A1 A2 VO lT SO
      have hq : q < 64 := by omega
      obtain ⟨n1, n2⟩ := hn2
      obtain ⟨d1, d2, d3⟩ := hd3
      have hc8 : 10 - (k + 1) + 1 ≤ 10 := by omega
      have hs8 : 2064 - 257 * (k + 1) + 257 ≤ 2064 := by omega
      have hc9 := hc8
      have hs9 := hs8
      refine XJ.blk hK (L := [(.iload 4, 2, 0, 0), (.iload_n 1, 1, 0, 0)]) (pc' := 34) (ls' := #[.val (.ref ak), .val (.int p2), .val (.ref b1), .val (.ref b2), .val (.int (Int32.ofNat q)), .val (.ref c5), .val (.ref a6), .val (.int (4 : Int32)), .val (.int (4 : Int32)), .val (.int i9)]) (st' := [(.int p2), (.int (Int32.ofNat q))]) (by decide +kernel) rfl ?_
      refine XJ.icmp .ge (157) 191 37 (by decide +kernel) (fun (c34 : ¬ (Int32.ofNat q) < p2) => ?_) (fun (c34 : (Int32.ofNat q) < p2) => ?_)
      · refine XJ.blk hK (L := [(.aload_n 2, 1, 0, 0)]) (pc' := 192) (ls' := #[.val (.ref ak), .val (.int p2), .val (.ref b1), .val (.ref b2), .val (.int (Int32.ofNat q)), .val (.ref c5), .val (.ref a6), .val (.int (4 : Int32)), .val (.int (4 : Int32)), .val (.int i9)]) (st' := [(.ref b1)]) (by decide +kernel) rfl ?_
        exact XJ.retA (by decide +kernel) rfl rfl rfl (by show 10 - (k + 1) ≤ 10; omega) (by show 2064 - 257 * (k + 1) ≤ 2064; omega) (⟨_, os, o, q, rfl, A1, VO, SO, by rw [Int32.lt_iff_toInt_lt, own_of (by omega)] at c34; omega, AK⟩)
      · refine XJ.blk hK (L := [(.sipush 257, 3, 257, 0)]) (pc' := 40) (ls' := #[.val (.ref ak), .val (.int p2), .val (.ref b1), .val (.ref b2), .val (.int (Int32.ofNat q)), .val (.ref c5), .val (.ref a6), .val (.int (4 : Int32)), .val (.int (4 : Int32)), .val (.int i9)]) (st' := [(.int (257 : Int32))]) (by decide +kernel) rfl ?_
        refine XJ.newarr 42 257 (aty := .int) (hw _ (List.mem_of_getElem? (i := 6) rfl)) rfl (by decide +kernel) (by decide) (by decide) (by simp [hc8, hs8]) ?_
        intro Tcr hcr Xcr Ecr C0
        obtain ⟨acr, gcr⟩ : ∃ z, z = hJ.size := ⟨_, rfl⟩
        rw [← gcr] at C0 ⊢
        have C0 : AV Z hcr acr .int (List.replicate 257 (.int 0)) := C0
        have gc2 : n0 ≤ acr := by rw [gcr]; exact XJ.size
        have e1 : b1 ≠ acr := by rw [gcr]; exact Nat.ne_of_lt A1.lt
        have e2 : b2 ≠ acr := by rw [gcr]; exact Nat.ne_of_lt A2.lt
        have e3 : ak ≠ acr := by rw [gcr]; exact Nat.ne_of_lt AK.lt
        obtain ⟨f0, hf0⟩ : ∃ f : Nat → Nat, f = fun _ => 0 := ⟨_, rfl⟩
        have V0 : CV (List.replicate 257 (.int 0)) 257 f0 := ⟨by simp, fun d hd => by rw [List.getElem?_replicate, if_pos hd, hf0]; rfl⟩
        obtain ⟨dg, hdg⟩ : ∃ f : Nat → Nat, f = fun r => kN (kk K0 K1 K2 K3 (o r)) / 2 ^ q % 256 := ⟨_, rfl⟩
        have dlt : ∀ r, dg r < 256 := fun r => by rw [hdg]; exact Nat.mod_lt _ (by decide)
        have dgv : ∀ r, kN (kk K0 K1 K2 K3 (o r)) / 2 ^ q % 256 = dg r := fun r => by rw [hdg]
        refine Xcr.blk hK (L := [(.astore 5, 2, 0, 0), (.aload_n 2, 1, 0, 0), (.astore 6, 2, 0, 0), (.aload 6, 2, 0, 0)]) (pc' := 49) (ls' := #[.val (.ref ak), .val (.int p2), .val (.ref b1), .val (.ref b2), .val (.int (Int32.ofNat q)), .val (.ref acr), .val (.ref b1), .val (.int (4 : Int32)), .val (.int (4 : Int32)), .val (.int i9)]) (st' := [(.ref b1)]) (by decide +kernel) rfl ?_
        refine Xcr.alen 50 (n := (4 : Int32)) (A1.ext Ecr) (by decide +kernel) (by rw [VO.1]; rfl) ?_
        refine Xcr.blk hK (L := [(.istore 7, 2, 0, 0), (.iconst 0, 1, 0, 0), (.istore 8, 2, 0, 0)]) (pc' := 55) (ls' := #[.val (.ref ak), .val (.int p2), .val (.ref b1), .val (.ref b2), .val (.int (Int32.ofNat q)), .val (.ref acr), .val (.ref b1), .val (.int (4 : Int32)), .val (.int (0 : Int32)), .val (.int i9)]) (st' := []) (by decide +kernel) rfl ?_
        refine Xcr.blk hK (L := [(.iload 8, 2, 0, 0), (.iload 7, 2, 0, 0)]) (pc' := 59) (ls' := #[.val (.ref ak), .val (.int p2), .val (.ref b1), .val (.ref b2), .val (.int (Int32.ofNat q)), .val (.ref acr), .val (.ref b1), .val (.int (4 : Int32)), .val (.int (0 : Int32)), .val (.int i9)]) (st' := [(.int (4 : Int32)), (.int (0 : Int32))]) (by decide +kernel) rfl ?_
        refine Xcr.icmp .ge (34) 93 62 (by decide +kernel) (fun (c59 : ¬ (0 : Int32) < (4 : Int32)) => absurd (by decide : (0 : Int32) < (4 : Int32)) c59) (fun (c59 : (0 : Int32) < (4 : Int32)) => ?_)
        refine Xcr.blk hK (L := [(.aload 6, 2, 0, 0), (.iload 8, 2, 0, 0)]) (pc' := 66) (ls' := #[.val (.ref ak), .val (.int p2), .val (.ref b1), .val (.ref b2), .val (.int (Int32.ofNat q)), .val (.ref acr), .val (.ref b1), .val (.int (4 : Int32)), .val (.int (0 : Int32)), .val (.int i9)]) (st' := [(.int (0 : Int32)), (.ref b1)]) (by decide +kernel) rfl ?_
        refine Xcr.iaload 67 (A1.ext Ecr) (by decide +kernel) (by decide) (VO.lit 0 (by decide) (by decide)) ?_
        refine Xcr.blk hK (L := [(.istore 9, 2, 0, 0), (.aload 5, 2, 0, 0), (.aload_n 0, 1, 0, 0), (.iload 9, 2, 0, 0)]) (pc' := 74) (ls' := #[.val (.ref ak), .val (.int p2), .val (.ref b1), .val (.ref b2), .val (.int (Int32.ofNat q)), .val (.ref acr), .val (.ref b1), .val (.int (4 : Int32)), .val (.int (0 : Int32)), .val (.int (Int32.ofNat (o 0)))]) (st' := [(.int (Int32.ofNat (o 0))), (.ref ak), (.ref acr)]) (by decide +kernel) rfl ?_
        refine Xcr.laload 75 (AK.ext Ecr) (by decide +kernel) ((own_ofn (by have := SO.1 0 (by decide); omega)).1) (own_kk _ _ _ _ (SO.1 0 (by decide))) ?_
        refine Xcr.blk hK (L := [(.iload 4, 2, 0, 0)]) (pc' := 77) (ls' := #[.val (.ref ak), .val (.int p2), .val (.ref b1), .val (.ref b2), .val (.int (Int32.ofNat q)), .val (.ref acr), .val (.ref b1), .val (.int (4 : Int32)), .val (.int (0 : Int32)), .val (.int (Int32.ofNat (o 0)))]) (st' := [(.int (Int32.ofNat q)), (.long (kk K0 K1 K2 K3 (o 0))), (.ref acr)]) (by decide +kernel) rfl ?_
        refine Xcr.callS 80 1 (argsL := [(.long (kk K0 K1 K2 K3 (o 0))), (.int (Int32.ofNat q))]) (rest := [(.ref acr)]) (rm_dg l Z a0 hw (kk K0 K1 K2 K3 (o 0)) q hcr n0 Xcr.size hq) (hw _ (List.mem_of_getElem? (i := 15) rfl)) (hw _ (List.mem_of_getElem? (i := 16) rfl)) (hw _ (List.mem_of_getElem? (i := 4) rfl)) (hw _ (List.mem_of_getElem? (i := 17) rfl)) (by decide) (ps := [.long, .int]) (r := some .int) (by decide +kernel) rfl rfl rfl rfl (by decide +kernel) (by simp [hc9, hs9]) ?_
        rintro Tgr0 hgr0 vgr0 Xgr0 ⟨rfl, rfl⟩
        show Go p e below s _ n0 _ (Tgr0.setTop (mkF m 80 #[.val (.ref ak), .val (.int p2), .val (.ref b1), .val (.ref b2), .val (.int (Int32.ofNat q)), .val (.ref acr), .val (.ref b1), .val (.int (4 : Int32)), .val (.int (0 : Int32)), .val (.int (Int32.ofNat (o 0)))] [(.int (Int32.ofNat (kN (kk K0 K1 K2 K3 (o 0)) / 2 ^ q % 256))), (.ref acr)]))
        rw [dgv 0]
        refine Xgr0.blk hK (L := [(.iconst 1, 1, 1, 0), (.iadd, 1, 0, 0), (.dup2, 1, 0, 0)]) (pc' := 83) (ls' := #[.val (.ref ak), .val (.int p2), .val (.ref b1), .val (.ref b2), .val (.int (Int32.ofNat q)), .val (.ref acr), .val (.ref b1), .val (.int (4 : Int32)), .val (.int (0 : Int32)), .val (.int (Int32.ofNat (o 0)))]) (st' := [(.int ((Int32.ofNat (dg 0)) + (1 : Int32))), (.ref acr), (.int ((Int32.ofNat (dg 0)) + (1 : Int32))), (.ref acr)]) (by decide +kernel) rfl ?_
        rw [own_suc (n := dg 0) (by have := dlt 0; omega)]
        have bd0 : f0 (dg 0 + 1) ≤ 4 := by  simp only [hf0]; omega
        refine Xgr0.iaload 84 C0 (by decide +kernel) ((own_ofn (by have := dlt 0; omega)).1) (V0.lit (dg 0 + 1) (by have := dlt 0; omega) (by have := dlt 0; omega)) ?_
        refine Xgr0.blk hK (L := [(.iconst 1, 1, 1, 0), (.iadd, 1, 0, 0)]) (pc' := 86) (ls' := #[.val (.ref ak), .val (.int p2), .val (.ref b1), .val (.ref b2), .val (.int (Int32.ofNat q)), .val (.ref acr), .val (.ref b1), .val (.int (4 : Int32)), .val (.int (0 : Int32)), .val (.int (Int32.ofNat (o 0)))]) (st' := [(.int ((Int32.ofNat (f0 (dg 0 + 1))) + (1 : Int32))), (.int (Int32.ofNat (dg 0 + 1))), (.ref acr)]) (by decide +kernel) rfl ?_
        rw [own_suc (n := f0 (dg 0 + 1)) (by omega)]
        refine Xgr0.iastore 87 C0 (by decide +kernel) ((own_ofn (by have := dlt 0; omega)).1) (by rw [(own_ofn (by have := dlt 0; omega)).2, V0.1]; have := dlt 0; omega) (gc2) ?_
        intro Tkr0 hkr0 Xkr0 Wkr0 C1
        rw [(own_ofn (by have := dlt 0; omega)).2] at C1 Wkr0
        obtain ⟨f1, hf1⟩ : ∃ f : Nat → Nat, f = fun d => f0 d + (if dg 0 + 1 = d then 1 else 0) := ⟨_, rfl⟩
        have V1 := (V0.set (t := dg 0 + 1) (v := f0 (dg 0 + 1) + 1) (by have := dlt 0; omega)).congr (g := f1) (fun d _ => by rw [hf1]; exact own_inc (f := f0) rfl d)
        have AK_r0 := (AK.ext Ecr).other Wkr0 e3
        have A1_r0 := (A1.ext Ecr).other Wkr0 e1
        have A2_r0 := (A2.ext Ecr).other Wkr0 e2
        refine Xkr0.blk hK (L := [(.iinc 8 1, 3, 1, 0), (.goto (-35), 3, 0, 55)]) (pc' := 55) (ls' := #[.val (.ref ak), .val (.int p2), .val (.ref b1), .val (.ref b2), .val (.int (Int32.ofNat q)), .val (.ref acr), .val (.ref b1), .val (.int (4 : Int32)), .val (.int (1 : Int32)), .val (.int (Int32.ofNat (o 0)))]) (st' := []) (by decide +kernel) rfl ?_
        refine Xkr0.blk hK (L := [(.iload 8, 2, 0, 0), (.iload 7, 2, 0, 0)]) (pc' := 59) (ls' := #[.val (.ref ak), .val (.int p2), .val (.ref b1), .val (.ref b2), .val (.int (Int32.ofNat q)), .val (.ref acr), .val (.ref b1), .val (.int (4 : Int32)), .val (.int (1 : Int32)), .val (.int (Int32.ofNat (o 0)))]) (st' := [(.int (4 : Int32)), (.int (1 : Int32))]) (by decide +kernel) rfl ?_
        refine Xkr0.icmp .ge (34) 93 62 (by decide +kernel) (fun (c59 : ¬ (1 : Int32) < (4 : Int32)) => absurd (by decide : (1 : Int32) < (4 : Int32)) c59) (fun (c59 : (1 : Int32) < (4 : Int32)) => ?_)
        refine Xkr0.blk hK (L := [(.aload 6, 2, 0, 0), (.iload 8, 2, 0, 0)]) (pc' := 66) (ls' := #[.val (.ref ak), .val (.int p2), .val (.ref b1), .val (.ref b2), .val (.int (Int32.ofNat q)), .val (.ref acr), .val (.ref b1), .val (.int (4 : Int32)), .val (.int (1 : Int32)), .val (.int (Int32.ofNat (o 0)))]) (st' := [(.int (1 : Int32)), (.ref b1)]) (by decide +kernel) rfl ?_
        refine Xkr0.iaload 67 A1_r0 (by decide +kernel) (by decide) (VO.lit 1 (by decide) (by decide)) ?_
        refine Xkr0.blk hK (L := [(.istore 9, 2, 0, 0), (.aload 5, 2, 0, 0), (.aload_n 0, 1, 0, 0), (.iload 9, 2, 0, 0)]) (pc' := 74) (ls' := #[.val (.ref ak), .val (.int p2), .val (.ref b1), .val (.ref b2), .val (.int (Int32.ofNat q)), .val (.ref acr), .val (.ref b1), .val (.int (4 : Int32)), .val (.int (1 : Int32)), .val (.int (Int32.ofNat (o 1)))]) (st' := [(.int (Int32.ofNat (o 1))), (.ref ak), (.ref acr)]) (by decide +kernel) rfl ?_
        refine Xkr0.laload 75 AK_r0 (by decide +kernel) ((own_ofn (by have := SO.1 1 (by decide); omega)).1) (own_kk _ _ _ _ (SO.1 1 (by decide))) ?_
        refine Xkr0.blk hK (L := [(.iload 4, 2, 0, 0)]) (pc' := 77) (ls' := #[.val (.ref ak), .val (.int p2), .val (.ref b1), .val (.ref b2), .val (.int (Int32.ofNat q)), .val (.ref acr), .val (.ref b1), .val (.int (4 : Int32)), .val (.int (1 : Int32)), .val (.int (Int32.ofNat (o 1)))]) (st' := [(.int (Int32.ofNat q)), (.long (kk K0 K1 K2 K3 (o 1))), (.ref acr)]) (by decide +kernel) rfl ?_
        refine Xkr0.callS 80 1 (argsL := [(.long (kk K0 K1 K2 K3 (o 1))), (.int (Int32.ofNat q))]) (rest := [(.ref acr)]) (rm_dg l Z a0 hw (kk K0 K1 K2 K3 (o 1)) q hkr0 n0 Xkr0.size hq) (hw _ (List.mem_of_getElem? (i := 15) rfl)) (hw _ (List.mem_of_getElem? (i := 16) rfl)) (hw _ (List.mem_of_getElem? (i := 4) rfl)) (hw _ (List.mem_of_getElem? (i := 17) rfl)) (by decide) (ps := [.long, .int]) (r := some .int) (by decide +kernel) rfl rfl rfl rfl (by decide +kernel) (by simp [hc9, hs9]) ?_
        rintro Tgr1 hgr1 vgr1 Xgr1 ⟨rfl, rfl⟩
        show Go p e below s _ n0 _ (Tgr1.setTop (mkF m 80 #[.val (.ref ak), .val (.int p2), .val (.ref b1), .val (.ref b2), .val (.int (Int32.ofNat q)), .val (.ref acr), .val (.ref b1), .val (.int (4 : Int32)), .val (.int (1 : Int32)), .val (.int (Int32.ofNat (o 1)))] [(.int (Int32.ofNat (kN (kk K0 K1 K2 K3 (o 1)) / 2 ^ q % 256))), (.ref acr)]))
        rw [dgv 1]
        refine Xgr1.blk hK (L := [(.iconst 1, 1, 1, 0), (.iadd, 1, 0, 0), (.dup2, 1, 0, 0)]) (pc' := 83) (ls' := #[.val (.ref ak), .val (.int p2), .val (.ref b1), .val (.ref b2), .val (.int (Int32.ofNat q)), .val (.ref acr), .val (.ref b1), .val (.int (4 : Int32)), .val (.int (1 : Int32)), .val (.int (Int32.ofNat (o 1)))]) (st' := [(.int ((Int32.ofNat (dg 1)) + (1 : Int32))), (.ref acr), (.int ((Int32.ofNat (dg 1)) + (1 : Int32))), (.ref acr)]) (by decide +kernel) rfl ?_
        rw [own_suc (n := dg 1) (by have := dlt 1; omega)]
        have bd1 : f1 (dg 1 + 1) ≤ 4 := by have z0 := own_01 (dg 0 + 1 = dg 1 + 1); simp only [hf0, hf1]; omega
        refine Xgr1.iaload 84 C1 (by decide +kernel) ((own_ofn (by have := dlt 1; omega)).1) (V1.lit (dg 1 + 1) (by have := dlt 1; omega) (by have := dlt 1; omega)) ?_
        refine Xgr1.blk hK (L := [(.iconst 1, 1, 1, 0), (.iadd, 1, 0, 0)]) (pc' := 86) (ls' := #[.val (.ref ak), .val (.int p2), .val (.ref b1), .val (.ref b2), .val (.int (Int32.ofNat q)), .val (.ref acr), .val (.ref b1), .val (.int (4 : Int32)), .val (.int (1 : Int32)), .val (.int (Int32.ofNat (o 1)))]) (st' := [(.int ((Int32.ofNat (f1 (dg 1 + 1))) + (1 : Int32))), (.int (Int32.ofNat (dg 1 + 1))), (.ref acr)]) (by decide +kernel) rfl ?_
        rw [own_suc (n := f1 (dg 1 + 1)) (by omega)]
        refine Xgr1.iastore 87 C1 (by decide +kernel) ((own_ofn (by have := dlt 1; omega)).1) (by rw [(own_ofn (by have := dlt 1; omega)).2, V1.1]; have := dlt 1; omega) (gc2) ?_
        intro Tkr1 hkr1 Xkr1 Wkr1 C2
        rw [(own_ofn (by have := dlt 1; omega)).2] at C2 Wkr1
        obtain ⟨f2, hf2⟩ : ∃ f : Nat → Nat, f = fun d => f1 d + (if dg 1 + 1 = d then 1 else 0) := ⟨_, rfl⟩
        have V2 := (V1.set (t := dg 1 + 1) (v := f1 (dg 1 + 1) + 1) (by have := dlt 1; omega)).congr (g := f2) (fun d _ => by rw [hf2]; exact own_inc (f := f1) rfl d)
        have AK_r1 := AK_r0.other Wkr1 e3
        have A1_r1 := A1_r0.other Wkr1 e1
        have A2_r1 := A2_r0.other Wkr1 e2
        refine Xkr1.blk hK (L := [(.iinc 8 1, 3, 1, 0), (.goto (-35), 3, 0, 55)]) (pc' := 55) (ls' := #[.val (.ref ak), .val (.int p2), .val (.ref b1), .val (.ref b2), .val (.int (Int32.ofNat q)), .val (.ref acr), .val (.ref b1), .val (.int (4 : Int32)), .val (.int (2 : Int32)), .val (.int (Int32.ofNat (o 1)))]) (st' := []) (by decide +kernel) rfl ?_
        refine Xkr1.blk hK (L := [(.iload 8, 2, 0, 0), (.iload 7, 2, 0, 0)]) (pc' := 59) (ls' := #[.val (.ref ak), .val (.int p2), .val (.ref b1), .val (.ref b2), .val (.int (Int32.ofNat q)), .val (.ref acr), .val (.ref b1), .val (.int (4 : Int32)), .val (.int (2 : Int32)), .val (.int (Int32.ofNat (o 1)))]) (st' := [(.int (4 : Int32)), (.int (2 : Int32))]) (by decide +kernel) rfl ?_
        refine Xkr1.icmp .ge (34) 93 62 (by decide +kernel) (fun (c59 : ¬ (2 : Int32) < (4 : Int32)) => absurd (by decide : (2 : Int32) < (4 : Int32)) c59) (fun (c59 : (2 : Int32) < (4 : Int32)) => ?_)
        refine Xkr1.blk hK (L := [(.aload 6, 2, 0, 0), (.iload 8, 2, 0, 0)]) (pc' := 66) (ls' := #[.val (.ref ak), .val (.int p2), .val (.ref b1), .val (.ref b2), .val (.int (Int32.ofNat q)), .val (.ref acr), .val (.ref b1), .val (.int (4 : Int32)), .val (.int (2 : Int32)), .val (.int (Int32.ofNat (o 1)))]) (st' := [(.int (2 : Int32)), (.ref b1)]) (by decide +kernel) rfl ?_
        refine Xkr1.iaload 67 A1_r1 (by decide +kernel) (by decide) (VO.lit 2 (by decide) (by decide)) ?_
        refine Xkr1.blk hK (L := [(.istore 9, 2, 0, 0), (.aload 5, 2, 0, 0), (.aload_n 0, 1, 0, 0), (.iload 9, 2, 0, 0)]) (pc' := 74) (ls' := #[.val (.ref ak), .val (.int p2), .val (.ref b1), .val (.ref b2), .val (.int (Int32.ofNat q)), .val (.ref acr), .val (.ref b1), .val (.int (4 : Int32)), .val (.int (2 : Int32)), .val (.int (Int32.ofNat (o 2)))]) (st' := [(.int (Int32.ofNat (o 2))), (.ref ak), (.ref acr)]) (by decide +kernel) rfl ?_
        refine Xkr1.laload 75 AK_r1 (by decide +kernel) ((own_ofn (by have := SO.1 2 (by decide); omega)).1) (own_kk _ _ _ _ (SO.1 2 (by decide))) ?_
        refine Xkr1.blk hK (L := [(.iload 4, 2, 0, 0)]) (pc' := 77) (ls' := #[.val (.ref ak), .val (.int p2), .val (.ref b1), .val (.ref b2), .val (.int (Int32.ofNat q)), .val (.ref acr), .val (.ref b1), .val (.int (4 : Int32)), .val (.int (2 : Int32)), .val (.int (Int32.ofNat (o 2)))]) (st' := [(.int (Int32.ofNat q)), (.long (kk K0 K1 K2 K3 (o 2))), (.ref acr)]) (by decide +kernel) rfl ?_
        refine Xkr1.callS 80 1 (argsL := [(.long (kk K0 K1 K2 K3 (o 2))), (.int (Int32.ofNat q))]) (rest := [(.ref acr)]) (rm_dg l Z a0 hw (kk K0 K1 K2 K3 (o 2)) q hkr1 n0 Xkr1.size hq) (hw _ (List.mem_of_getElem? (i := 15) rfl)) (hw _ (List.mem_of_getElem? (i := 16) rfl)) (hw _ (List.mem_of_getElem? (i := 4) rfl)) (hw _ (List.mem_of_getElem? (i := 17) rfl)) (by decide) (ps := [.long, .int]) (r := some .int) (by decide +kernel) rfl rfl rfl rfl (by decide +kernel) (by simp [hc9, hs9]) ?_
        rintro Tgr2 hgr2 vgr2 Xgr2 ⟨rfl, rfl⟩
        show Go p e below s _ n0 _ (Tgr2.setTop (mkF m 80 #[.val (.ref ak), .val (.int p2), .val (.ref b1), .val (.ref b2), .val (.int (Int32.ofNat q)), .val (.ref acr), .val (.ref b1), .val (.int (4 : Int32)), .val (.int (2 : Int32)), .val (.int (Int32.ofNat (o 2)))] [(.int (Int32.ofNat (kN (kk K0 K1 K2 K3 (o 2)) / 2 ^ q % 256))), (.ref acr)]))
        rw [dgv 2]
        refine Xgr2.blk hK (L := [(.iconst 1, 1, 1, 0), (.iadd, 1, 0, 0), (.dup2, 1, 0, 0)]) (pc' := 83) (ls' := #[.val (.ref ak), .val (.int p2), .val (.ref b1), .val (.ref b2), .val (.int (Int32.ofNat q)), .val (.ref acr), .val (.ref b1), .val (.int (4 : Int32)), .val (.int (2 : Int32)), .val (.int (Int32.ofNat (o 2)))]) (st' := [(.int ((Int32.ofNat (dg 2)) + (1 : Int32))), (.ref acr), (.int ((Int32.ofNat (dg 2)) + (1 : Int32))), (.ref acr)]) (by decide +kernel) rfl ?_
        rw [own_suc (n := dg 2) (by have := dlt 2; omega)]
        have bd2 : f2 (dg 2 + 1) ≤ 4 := by have z0 := own_01 (dg 0 + 1 = dg 2 + 1); have z1 := own_01 (dg 1 + 1 = dg 2 + 1); simp only [hf0, hf1, hf2]; omega
        refine Xgr2.iaload 84 C2 (by decide +kernel) ((own_ofn (by have := dlt 2; omega)).1) (V2.lit (dg 2 + 1) (by have := dlt 2; omega) (by have := dlt 2; omega)) ?_
        refine Xgr2.blk hK (L := [(.iconst 1, 1, 1, 0), (.iadd, 1, 0, 0)]) (pc' := 86) (ls' := #[.val (.ref ak), .val (.int p2), .val (.ref b1), .val (.ref b2), .val (.int (Int32.ofNat q)), .val (.ref acr), .val (.ref b1), .val (.int (4 : Int32)), .val (.int (2 : Int32)), .val (.int (Int32.ofNat (o 2)))]) (st' := [(.int ((Int32.ofNat (f2 (dg 2 + 1))) + (1 : Int32))), (.int (Int32.ofNat (dg 2 + 1))), (.ref acr)]) (by decide +kernel) rfl ?_
        rw [own_suc (n := f2 (dg 2 + 1)) (by omega)]
        refine Xgr2.iastore 87 C2 (by decide +kernel) ((own_ofn (by have := dlt 2; omega)).1) (by rw [(own_ofn (by have := dlt 2; omega)).2, V2.1]; have := dlt 2; omega) (gc2) ?_
        intro Tkr2 hkr2 Xkr2 Wkr2 C3
        rw [(own_ofn (by have := dlt 2; omega)).2] at C3 Wkr2
        obtain ⟨f3, hf3⟩ : ∃ f : Nat → Nat, f = fun d => f2 d + (if dg 2 + 1 = d then 1 else 0) := ⟨_, rfl⟩
        have V3 := (V2.set (t := dg 2 + 1) (v := f2 (dg 2 + 1) + 1) (by have := dlt 2; omega)).congr (g := f3) (fun d _ => by rw [hf3]; exact own_inc (f := f2) rfl d)
        have AK_r2 := AK_r1.other Wkr2 e3
        have A1_r2 := A1_r1.other Wkr2 e1
        have A2_r2 := A2_r1.other Wkr2 e2
        refine Xkr2.blk hK (L := [(.iinc 8 1, 3, 1, 0), (.goto (-35), 3, 0, 55)]) (pc' := 55) (ls' := #[.val (.ref ak), .val (.int p2), .val (.ref b1), .val (.ref b2), .val (.int (Int32.ofNat q)), .val (.ref acr), .val (.ref b1), .val (.int (4 : Int32)), .val (.int (3 : Int32)), .val (.int (Int32.ofNat (o 2)))]) (st' := []) (by decide +kernel) rfl ?_
        refine Xkr2.blk hK (L := [(.iload 8, 2, 0, 0), (.iload 7, 2, 0, 0)]) (pc' := 59) (ls' := #[.val (.ref ak), .val (.int p2), .val (.ref b1), .val (.ref b2), .val (.int (Int32.ofNat q)), .val (.ref acr), .val (.ref b1), .val (.int (4 : Int32)), .val (.int (3 : Int32)), .val (.int (Int32.ofNat (o 2)))]) (st' := [(.int (4 : Int32)), (.int (3 : Int32))]) (by decide +kernel) rfl ?_
        refine Xkr2.icmp .ge (34) 93 62 (by decide +kernel) (fun (c59 : ¬ (3 : Int32) < (4 : Int32)) => absurd (by decide : (3 : Int32) < (4 : Int32)) c59) (fun (c59 : (3 : Int32) < (4 : Int32)) => ?_)
        refine Xkr2.blk hK (L := [(.aload 6, 2, 0, 0), (.iload 8, 2, 0, 0)]) (pc' := 66) (ls' := #[.val (.ref ak), .val (.int p2), .val (.ref b1), .val (.ref b2), .val (.int (Int32.ofNat q)), .val (.ref acr), .val (.ref b1), .val (.int (4 : Int32)), .val (.int (3 : Int32)), .val (.int (Int32.ofNat (o 2)))]) (st' := [(.int (3 : Int32)), (.ref b1)]) (by decide +kernel) rfl ?_
        refine Xkr2.iaload 67 A1_r2 (by decide +kernel) (by decide) (VO.lit 3 (by decide) (by decide)) ?_
        refine Xkr2.blk hK (L := [(.istore 9, 2, 0, 0), (.aload 5, 2, 0, 0), (.aload_n 0, 1, 0, 0), (.iload 9, 2, 0, 0)]) (pc' := 74) (ls' := #[.val (.ref ak), .val (.int p2), .val (.ref b1), .val (.ref b2), .val (.int (Int32.ofNat q)), .val (.ref acr), .val (.ref b1), .val (.int (4 : Int32)), .val (.int (3 : Int32)), .val (.int (Int32.ofNat (o 3)))]) (st' := [(.int (Int32.ofNat (o 3))), (.ref ak), (.ref acr)]) (by decide +kernel) rfl ?_
        refine Xkr2.laload 75 AK_r2 (by decide +kernel) ((own_ofn (by have := SO.1 3 (by decide); omega)).1) (own_kk _ _ _ _ (SO.1 3 (by decide))) ?_
        refine Xkr2.blk hK (L := [(.iload 4, 2, 0, 0)]) (pc' := 77) (ls' := #[.val (.ref ak), .val (.int p2), .val (.ref b1), .val (.ref b2), .val (.int (Int32.ofNat q)), .val (.ref acr), .val (.ref b1), .val (.int (4 : Int32)), .val (.int (3 : Int32)), .val (.int (Int32.ofNat (o 3)))]) (st' := [(.int (Int32.ofNat q)), (.long (kk K0 K1 K2 K3 (o 3))), (.ref acr)]) (by decide +kernel) rfl ?_
        refine Xkr2.callS 80 1 (argsL := [(.long (kk K0 K1 K2 K3 (o 3))), (.int (Int32.ofNat q))]) (rest := [(.ref acr)]) (rm_dg l Z a0 hw (kk K0 K1 K2 K3 (o 3)) q hkr2 n0 Xkr2.size hq) (hw _ (List.mem_of_getElem? (i := 15) rfl)) (hw _ (List.mem_of_getElem? (i := 16) rfl)) (hw _ (List.mem_of_getElem? (i := 4) rfl)) (hw _ (List.mem_of_getElem? (i := 17) rfl)) (by decide) (ps := [.long, .int]) (r := some .int) (by decide +kernel) rfl rfl rfl rfl (by decide +kernel) (by simp [hc9, hs9]) ?_
        rintro Tgr3 hgr3 vgr3 Xgr3 ⟨rfl, rfl⟩
        show Go p e below s _ n0 _ (Tgr3.setTop (mkF m 80 #[.val (.ref ak), .val (.int p2), .val (.ref b1), .val (.ref b2), .val (.int (Int32.ofNat q)), .val (.ref acr), .val (.ref b1), .val (.int (4 : Int32)), .val (.int (3 : Int32)), .val (.int (Int32.ofNat (o 3)))] [(.int (Int32.ofNat (kN (kk K0 K1 K2 K3 (o 3)) / 2 ^ q % 256))), (.ref acr)]))
        rw [dgv 3]
        refine Xgr3.blk hK (L := [(.iconst 1, 1, 1, 0), (.iadd, 1, 0, 0), (.dup2, 1, 0, 0)]) (pc' := 83) (ls' := #[.val (.ref ak), .val (.int p2), .val (.ref b1), .val (.ref b2), .val (.int (Int32.ofNat q)), .val (.ref acr), .val (.ref b1), .val (.int (4 : Int32)), .val (.int (3 : Int32)), .val (.int (Int32.ofNat (o 3)))]) (st' := [(.int ((Int32.ofNat (dg 3)) + (1 : Int32))), (.ref acr), (.int ((Int32.ofNat (dg 3)) + (1 : Int32))), (.ref acr)]) (by decide +kernel) rfl ?_
        rw [own_suc (n := dg 3) (by have := dlt 3; omega)]
        have bd3 : f3 (dg 3 + 1) ≤ 4 := by have z0 := own_01 (dg 0 + 1 = dg 3 + 1); have z1 := own_01 (dg 1 + 1 = dg 3 + 1); have z2 := own_01 (dg 2 + 1 = dg 3 + 1); simp only [hf0, hf1, hf2, hf3]; omega
        refine Xgr3.iaload 84 C3 (by decide +kernel) ((own_ofn (by have := dlt 3; omega)).1) (V3.lit (dg 3 + 1) (by have := dlt 3; omega) (by have := dlt 3; omega)) ?_
        refine Xgr3.blk hK (L := [(.iconst 1, 1, 1, 0), (.iadd, 1, 0, 0)]) (pc' := 86) (ls' := #[.val (.ref ak), .val (.int p2), .val (.ref b1), .val (.ref b2), .val (.int (Int32.ofNat q)), .val (.ref acr), .val (.ref b1), .val (.int (4 : Int32)), .val (.int (3 : Int32)), .val (.int (Int32.ofNat (o 3)))]) (st' := [(.int ((Int32.ofNat (f3 (dg 3 + 1))) + (1 : Int32))), (.int (Int32.ofNat (dg 3 + 1))), (.ref acr)]) (by decide +kernel) rfl ?_
        rw [own_suc (n := f3 (dg 3 + 1)) (by omega)]
        refine Xgr3.iastore 87 C3 (by decide +kernel) ((own_ofn (by have := dlt 3; omega)).1) (by rw [(own_ofn (by have := dlt 3; omega)).2, V3.1]; have := dlt 3; omega) (gc2) ?_
        intro Tkr3 hkr3 Xkr3 Wkr3 C4
        rw [(own_ofn (by have := dlt 3; omega)).2] at C4 Wkr3
        obtain ⟨f4, hf4⟩ : ∃ f : Nat → Nat, f = fun d => f3 d + (if dg 3 + 1 = d then 1 else 0) := ⟨_, rfl⟩
        have V4 := (V3.set (t := dg 3 + 1) (v := f3 (dg 3 + 1) + 1) (by have := dlt 3; omega)).congr (g := f4) (fun d _ => by rw [hf4]; exact own_inc (f := f3) rfl d)
        have AK_r3 := AK_r2.other Wkr3 e3
        have A1_r3 := A1_r2.other Wkr3 e1
        have A2_r3 := A2_r2.other Wkr3 e2
        refine Xkr3.blk hK (L := [(.iinc 8 1, 3, 1, 0), (.goto (-35), 3, 0, 55)]) (pc' := 55) (ls' := #[.val (.ref ak), .val (.int p2), .val (.ref b1), .val (.ref b2), .val (.int (Int32.ofNat q)), .val (.ref acr), .val (.ref b1), .val (.int (4 : Int32)), .val (.int (4 : Int32)), .val (.int (Int32.ofNat (o 3)))]) (st' := []) (by decide +kernel) rfl ?_
        refine Xkr3.blk hK (L := [(.iload 8, 2, 0, 0), (.iload 7, 2, 0, 0)]) (pc' := 59) (ls' := #[.val (.ref ak), .val (.int p2), .val (.ref b1), .val (.ref b2), .val (.int (Int32.ofNat q)), .val (.ref acr), .val (.ref b1), .val (.int (4 : Int32)), .val (.int (4 : Int32)), .val (.int (Int32.ofNat (o 3)))]) (st' := [(.int (4 : Int32)), (.int (4 : Int32))]) (by decide +kernel) rfl ?_
        refine Xkr3.icmp .ge (34) 93 62 (by decide +kernel) (fun (c59 : ¬ (4 : Int32) < (4 : Int32)) => ?_) (fun (c59 : (4 : Int32) < (4 : Int32)) => absurd c59 (by decide : ¬ (4 : Int32) < (4 : Int32)))
        refine Xkr3.blk hK (L := [(.iconst 0, 1, 0, 0), (.istore 6, 2, 0, 0)]) (pc' := 96) (ls' := #[.val (.ref ak), .val (.int p2), .val (.ref b1), .val (.ref b2), .val (.int (Int32.ofNat q)), .val (.ref acr), .val (.int (0 : Int32)), .val (.int (4 : Int32)), .val (.int (4 : Int32)), .val (.int (Int32.ofNat (o 3)))]) (st' := []) (by decide +kernel) rfl ?_
        have ec : 10 - (k + 1) + 1 = 10 - k := by omega
        have es : 2064 - 257 * (k + 1) + 257 = 2064 - 257 * k := by omega
        exact J96 ((10 - (k + 1)) + 1) ((2064 - 257 * (k + 1)) + 257) q b1 b2 acr _ _ o dg hc9 hs9 hq ⟨n1, n2, gc2⟩ ⟨d1, d2, d3⟩ ⟨e1, e2, e3⟩ VO lT SO hdg (fun TN hN i9 o2 us XN AKN AU AO VU SU => ih (q + 8) b2 b1 acr b1 i9 us os o2 TN hN (by omega) (by rw [← ec, ← es]; exact XN) ⟨n2, n1⟩ ⟨d1.symm, d3, d2⟩ AKN AU AO VU VO.1 SU) 256 0 _ _ _ _ (by decide) Xkr3 AK_r3 A1_r3 A2_r3 C4 (V4.congr (fun e _ => by
          by_cases z : e ≤ 0
          · obtain rfl : e = 0 := by omega
            rw [if_pos (Nat.le_refl _)]; show _ = hist dg 0; simp only [hf0, hf1, hf2, hf3, hf4, hist, sum4]; omega
          · rw [if_neg z]; simp only [hf0, hf1, hf2, hf3, hf4, hist, sum4]; omega))
  have hq : 0 < 64 := by decide
  obtain ⟨q, e_q⟩ : ∃ q : Nat, q = 0 := ⟨_, rfl⟩
  rw [← e_q] at hq
  obtain ⟨o, e_o⟩ : ∃ f : Nat → Nat, f = fun r => r := ⟨_, rfl⟩
  have VO : CV [.int 0, .int 1, .int 2, .int 3] 4 o := by rw [e_o]; exact ⟨rfl, fun d hd => by match d, hd with | 0, _ => rfl | 1, _ => rfl | 2, _ => rfl | 3, _ => rfl⟩
  have SO : Srt (fun i => kN (kk K0 K1 K2 K3 i)) q o := by rw [e_q, e_o]; exact own_Srt_0 _
  have lT : (List.replicate 4 (Value.int 0)).length = 4 := rfl
  have hc8 : 2 + 1 ≤ 10 := by decide
  have hs8 : 8 + 257 ≤ 2064 := by decide
  have hc9 := hc8
  have hs9 := hs8
  have X2 : Wk Z l p e ({ frames := 1, cells := 10, slots := 2064, locals := 20 } : Room) s m #[(.ref ak), (.int p2)] below meth c "com/example/text_to_fingerprint/texttofingerprint/service/PositionOrder" "byKey" prog_29_method_2_code 10 (some (.array .int)) n0 Tu hu 2 8 := Xu.more (by decide) (by decide)
  show Go p e below s ({ frames := 1, cells := 10, slots := 2064, locals := 20 } : Room) n0 (fun v h => ∃ ao os o q, v = some (.ref ao) ∧ AV Z h ao .int os ∧ CV os 4 o ∧ Srt (fun i => kN (kk K0 K1 K2 K3 i)) q o ∧ p2.toInt ≤ q ∧ AV Z h ak .long [.long K0, .long K1, .long K2, .long K3]) (Tu.setTop (mkF m 31 #[.val (.ref ak), .val (.int p2), .val (.ref ao), .val (.ref au), .val (.int (0 : Int32)), .unset, .unset, .unset, .unset, .unset] []))
  have e0 : (0 : Int32) = Int32.ofNat q := by rw [e_q]; rfl
  suffices sf : Go p e below s ({ frames := 1, cells := 10, slots := 2064, locals := 20 } : Room) n0 (fun v h => ∃ ao os o q, v = some (.ref ao) ∧ AV Z h ao .int os ∧ CV os 4 o ∧ Srt (fun i => kN (kk K0 K1 K2 K3 i)) q o ∧ p2.toInt ≤ q ∧ AV Z h ak .long [.long K0, .long K1, .long K2, .long K3]) (Tu.setTop (mkF m 31 #[.val (.ref ak), .val (.int p2), .val (.ref ao), .val (.ref au), .val (.int (Int32.ofNat q)), .unset, .unset, .unset, .unset, .unset] [])) by
    rw [← e0] at sf; exact sf
  refine X2.blk hK (L := [(.iload 4, 2, 0, 0), (.iload_n 1, 1, 0, 0)]) (pc' := 34) (ls' := #[.val (.ref ak), .val (.int p2), .val (.ref ao), .val (.ref au), .val (.int (Int32.ofNat q)), .unset, .unset, .unset, .unset, .unset]) (st' := [(.int p2), (.int (Int32.ofNat q))]) (by decide +kernel) rfl ?_
  refine X2.icmp .ge (157) 191 37 (by decide +kernel) (fun (c34 : ¬ (Int32.ofNat q) < p2) => ?_) (fun (c34 : (Int32.ofNat q) < p2) => ?_)
  · refine X2.blk hK (L := [(.aload_n 2, 1, 0, 0)]) (pc' := 192) (ls' := #[.val (.ref ak), .val (.int p2), .val (.ref ao), .val (.ref au), .val (.int (Int32.ofNat q)), .unset, .unset, .unset, .unset, .unset]) (st' := [(.ref ao)]) (by decide +kernel) rfl ?_
    exact X2.retA (by decide +kernel) rfl rfl rfl (by decide) (by decide) (⟨_, _, o, q, rfl, O5, VO, SO, by rw [Int32.lt_iff_toInt_lt, own_of (by omega)] at c34; omega, B5⟩)
  · refine X2.blk hK (L := [(.sipush 257, 3, 257, 0)]) (pc' := 40) (ls' := #[.val (.ref ak), .val (.int p2), .val (.ref ao), .val (.ref au), .val (.int (Int32.ofNat q)), .unset, .unset, .unset, .unset, .unset]) (st' := [(.int (257 : Int32))]) (by decide +kernel) rfl ?_
    refine X2.newarr 42 257 (aty := .int) (hw _ (List.mem_of_getElem? (i := 6) rfl)) rfl (by decide +kernel) (by decide) (by decide) (by simp [hc8, hs8]) ?_
    intro Tcs hcs Xcs Ecs C0
    obtain ⟨acs, gcs⟩ : ∃ z, z = hu.size := ⟨_, rfl⟩
    rw [← gcs] at C0 ⊢
    have C0 : AV Z hcs acs .int (List.replicate 257 (.int 0)) := C0
    have gc2 : n0 ≤ acs := by rw [gcs]; exact X2.size
    have e1 : ao ≠ acs := by rw [gcs]; exact Nat.ne_of_lt O5.lt
    have e2 : au ≠ acs := by rw [gcs]; exact Nat.ne_of_lt U0.lt
    have e3 : ak ≠ acs := by rw [gcs]; exact Nat.ne_of_lt B5.lt
    obtain ⟨f0, hf0⟩ : ∃ f : Nat → Nat, f = fun _ => 0 := ⟨_, rfl⟩
    have V0 : CV (List.replicate 257 (.int 0)) 257 f0 := ⟨by simp, fun d hd => by rw [List.getElem?_replicate, if_pos hd, hf0]; rfl⟩
    obtain ⟨dg, hdg⟩ : ∃ f : Nat → Nat, f = fun r => kN (kk K0 K1 K2 K3 (o r)) / 2 ^ q % 256 := ⟨_, rfl⟩
    have dlt : ∀ r, dg r < 256 := fun r => by rw [hdg]; exact Nat.mod_lt _ (by decide)
    have dgv : ∀ r, kN (kk K0 K1 K2 K3 (o r)) / 2 ^ q % 256 = dg r := fun r => by rw [hdg]
    refine Xcs.blk hK (L := [(.astore 5, 2, 0, 0), (.aload_n 2, 1, 0, 0), (.astore 6, 2, 0, 0), (.aload 6, 2, 0, 0)]) (pc' := 49) (ls' := #[.val (.ref ak), .val (.int p2), .val (.ref ao), .val (.ref au), .val (.int (Int32.ofNat q)), .val (.ref acs), .val (.ref ao), .unset, .unset, .unset]) (st' := [(.ref ao)]) (by decide +kernel) rfl ?_
    refine Xcs.alen 50 (n := (4 : Int32)) (O5.ext Ecs) (by decide +kernel) (by rw [VO.1]; rfl) ?_
    refine Xcs.blk hK (L := [(.istore 7, 2, 0, 0), (.iconst 0, 1, 0, 0), (.istore 8, 2, 0, 0)]) (pc' := 55) (ls' := #[.val (.ref ak), .val (.int p2), .val (.ref ao), .val (.ref au), .val (.int (Int32.ofNat q)), .val (.ref acs), .val (.ref ao), .val (.int (4 : Int32)), .val (.int (0 : Int32)), .unset]) (st' := []) (by decide +kernel) rfl ?_
    refine Xcs.blk hK (L := [(.iload 8, 2, 0, 0), (.iload 7, 2, 0, 0)]) (pc' := 59) (ls' := #[.val (.ref ak), .val (.int p2), .val (.ref ao), .val (.ref au), .val (.int (Int32.ofNat q)), .val (.ref acs), .val (.ref ao), .val (.int (4 : Int32)), .val (.int (0 : Int32)), .unset]) (st' := [(.int (4 : Int32)), (.int (0 : Int32))]) (by decide +kernel) rfl ?_
    refine Xcs.icmp .ge (34) 93 62 (by decide +kernel) (fun (c59 : ¬ (0 : Int32) < (4 : Int32)) => absurd (by decide : (0 : Int32) < (4 : Int32)) c59) (fun (c59 : (0 : Int32) < (4 : Int32)) => ?_)
    refine Xcs.blk hK (L := [(.aload 6, 2, 0, 0), (.iload 8, 2, 0, 0)]) (pc' := 66) (ls' := #[.val (.ref ak), .val (.int p2), .val (.ref ao), .val (.ref au), .val (.int (Int32.ofNat q)), .val (.ref acs), .val (.ref ao), .val (.int (4 : Int32)), .val (.int (0 : Int32)), .unset]) (st' := [(.int (0 : Int32)), (.ref ao)]) (by decide +kernel) rfl ?_
    refine Xcs.iaload 67 (O5.ext Ecs) (by decide +kernel) (by decide) (VO.lit 0 (by decide) (by decide)) ?_
    refine Xcs.blk hK (L := [(.istore 9, 2, 0, 0), (.aload 5, 2, 0, 0), (.aload_n 0, 1, 0, 0), (.iload 9, 2, 0, 0)]) (pc' := 74) (ls' := #[.val (.ref ak), .val (.int p2), .val (.ref ao), .val (.ref au), .val (.int (Int32.ofNat q)), .val (.ref acs), .val (.ref ao), .val (.int (4 : Int32)), .val (.int (0 : Int32)), .val (.int (Int32.ofNat (o 0)))]) (st' := [(.int (Int32.ofNat (o 0))), (.ref ak), (.ref acs)]) (by decide +kernel) rfl ?_
    refine Xcs.laload 75 (B5.ext Ecs) (by decide +kernel) ((own_ofn (by have := SO.1 0 (by decide); omega)).1) (own_kk _ _ _ _ (SO.1 0 (by decide))) ?_
    refine Xcs.blk hK (L := [(.iload 4, 2, 0, 0)]) (pc' := 77) (ls' := #[.val (.ref ak), .val (.int p2), .val (.ref ao), .val (.ref au), .val (.int (Int32.ofNat q)), .val (.ref acs), .val (.ref ao), .val (.int (4 : Int32)), .val (.int (0 : Int32)), .val (.int (Int32.ofNat (o 0)))]) (st' := [(.int (Int32.ofNat q)), (.long (kk K0 K1 K2 K3 (o 0))), (.ref acs)]) (by decide +kernel) rfl ?_
    refine Xcs.callS 80 1 (argsL := [(.long (kk K0 K1 K2 K3 (o 0))), (.int (Int32.ofNat q))]) (rest := [(.ref acs)]) (rm_dg l Z a0 hw (kk K0 K1 K2 K3 (o 0)) q hcs n0 Xcs.size hq) (hw _ (List.mem_of_getElem? (i := 15) rfl)) (hw _ (List.mem_of_getElem? (i := 16) rfl)) (hw _ (List.mem_of_getElem? (i := 4) rfl)) (hw _ (List.mem_of_getElem? (i := 17) rfl)) (by decide) (ps := [.long, .int]) (r := some .int) (by decide +kernel) rfl rfl rfl rfl (by decide +kernel) (by simp [hc9, hs9]) ?_
    rintro Tgs0 hgs0 vgs0 Xgs0 ⟨rfl, rfl⟩
    show Go p e below s _ n0 _ (Tgs0.setTop (mkF m 80 #[.val (.ref ak), .val (.int p2), .val (.ref ao), .val (.ref au), .val (.int (Int32.ofNat q)), .val (.ref acs), .val (.ref ao), .val (.int (4 : Int32)), .val (.int (0 : Int32)), .val (.int (Int32.ofNat (o 0)))] [(.int (Int32.ofNat (kN (kk K0 K1 K2 K3 (o 0)) / 2 ^ q % 256))), (.ref acs)]))
    rw [dgv 0]
    refine Xgs0.blk hK (L := [(.iconst 1, 1, 1, 0), (.iadd, 1, 0, 0), (.dup2, 1, 0, 0)]) (pc' := 83) (ls' := #[.val (.ref ak), .val (.int p2), .val (.ref ao), .val (.ref au), .val (.int (Int32.ofNat q)), .val (.ref acs), .val (.ref ao), .val (.int (4 : Int32)), .val (.int (0 : Int32)), .val (.int (Int32.ofNat (o 0)))]) (st' := [(.int ((Int32.ofNat (dg 0)) + (1 : Int32))), (.ref acs), (.int ((Int32.ofNat (dg 0)) + (1 : Int32))), (.ref acs)]) (by decide +kernel) rfl ?_
    rw [own_suc (n := dg 0) (by have := dlt 0; omega)]
    have bd0 : f0 (dg 0 + 1) ≤ 4 := by  simp only [hf0]; omega
    refine Xgs0.iaload 84 C0 (by decide +kernel) ((own_ofn (by have := dlt 0; omega)).1) (V0.lit (dg 0 + 1) (by have := dlt 0; omega) (by have := dlt 0; omega)) ?_
    refine Xgs0.blk hK (L := [(.iconst 1, 1, 1, 0), (.iadd, 1, 0, 0)]) (pc' := 86) (ls' := #[.val (.ref ak), .val (.int p2), .val (.ref ao), .val (.ref au), .val (.int (Int32.ofNat q)), .val (.ref acs), .val (.ref ao), .val (.int (4 : Int32)), .val (.int (0 : Int32)), .val (.int (Int32.ofNat (o 0)))]) (st' := [(.int ((Int32.ofNat (f0 (dg 0 + 1))) + (1 : Int32))), (.int (Int32.ofNat (dg 0 + 1))), (.ref acs)]) (by decide +kernel) rfl ?_
    rw [own_suc (n := f0 (dg 0 + 1)) (by omega)]
    refine Xgs0.iastore 87 C0 (by decide +kernel) ((own_ofn (by have := dlt 0; omega)).1) (by rw [(own_ofn (by have := dlt 0; omega)).2, V0.1]; have := dlt 0; omega) (gc2) ?_
    intro Tks0 hks0 Xks0 Wks0 C1
    rw [(own_ofn (by have := dlt 0; omega)).2] at C1 Wks0
    obtain ⟨f1, hf1⟩ : ∃ f : Nat → Nat, f = fun d => f0 d + (if dg 0 + 1 = d then 1 else 0) := ⟨_, rfl⟩
    have V1 := (V0.set (t := dg 0 + 1) (v := f0 (dg 0 + 1) + 1) (by have := dlt 0; omega)).congr (g := f1) (fun d _ => by rw [hf1]; exact own_inc (f := f0) rfl d)
    have AK_s0 := (B5.ext Ecs).other Wks0 e3
    have A1_s0 := (O5.ext Ecs).other Wks0 e1
    have A2_s0 := (U0.ext Ecs).other Wks0 e2
    refine Xks0.blk hK (L := [(.iinc 8 1, 3, 1, 0), (.goto (-35), 3, 0, 55)]) (pc' := 55) (ls' := #[.val (.ref ak), .val (.int p2), .val (.ref ao), .val (.ref au), .val (.int (Int32.ofNat q)), .val (.ref acs), .val (.ref ao), .val (.int (4 : Int32)), .val (.int (1 : Int32)), .val (.int (Int32.ofNat (o 0)))]) (st' := []) (by decide +kernel) rfl ?_
    refine Xks0.blk hK (L := [(.iload 8, 2, 0, 0), (.iload 7, 2, 0, 0)]) (pc' := 59) (ls' := #[.val (.ref ak), .val (.int p2), .val (.ref ao), .val (.ref au), .val (.int (Int32.ofNat q)), .val (.ref acs), .val (.ref ao), .val (.int (4 : Int32)), .val (.int (1 : Int32)), .val (.int (Int32.ofNat (o 0)))]) (st' := [(.int (4 : Int32)), (.int (1 : Int32))]) (by decide +kernel) rfl ?_
    refine Xks0.icmp .ge (34) 93 62 (by decide +kernel) (fun (c59 : ¬ (1 : Int32) < (4 : Int32)) => absurd (by decide : (1 : Int32) < (4 : Int32)) c59) (fun (c59 : (1 : Int32) < (4 : Int32)) => ?_)
    refine Xks0.blk hK (L := [(.aload 6, 2, 0, 0), (.iload 8, 2, 0, 0)]) (pc' := 66) (ls' := #[.val (.ref ak), .val (.int p2), .val (.ref ao), .val (.ref au), .val (.int (Int32.ofNat q)), .val (.ref acs), .val (.ref ao), .val (.int (4 : Int32)), .val (.int (1 : Int32)), .val (.int (Int32.ofNat (o 0)))]) (st' := [(.int (1 : Int32)), (.ref ao)]) (by decide +kernel) rfl ?_
    refine Xks0.iaload 67 A1_s0 (by decide +kernel) (by decide) (VO.lit 1 (by decide) (by decide)) ?_
    refine Xks0.blk hK (L := [(.istore 9, 2, 0, 0), (.aload 5, 2, 0, 0), (.aload_n 0, 1, 0, 0), (.iload 9, 2, 0, 0)]) (pc' := 74) (ls' := #[.val (.ref ak), .val (.int p2), .val (.ref ao), .val (.ref au), .val (.int (Int32.ofNat q)), .val (.ref acs), .val (.ref ao), .val (.int (4 : Int32)), .val (.int (1 : Int32)), .val (.int (Int32.ofNat (o 1)))]) (st' := [(.int (Int32.ofNat (o 1))), (.ref ak), (.ref acs)]) (by decide +kernel) rfl ?_
    refine Xks0.laload 75 AK_s0 (by decide +kernel) ((own_ofn (by have := SO.1 1 (by decide); omega)).1) (own_kk _ _ _ _ (SO.1 1 (by decide))) ?_
    refine Xks0.blk hK (L := [(.iload 4, 2, 0, 0)]) (pc' := 77) (ls' := #[.val (.ref ak), .val (.int p2), .val (.ref ao), .val (.ref au), .val (.int (Int32.ofNat q)), .val (.ref acs), .val (.ref ao), .val (.int (4 : Int32)), .val (.int (1 : Int32)), .val (.int (Int32.ofNat (o 1)))]) (st' := [(.int (Int32.ofNat q)), (.long (kk K0 K1 K2 K3 (o 1))), (.ref acs)]) (by decide +kernel) rfl ?_
    refine Xks0.callS 80 1 (argsL := [(.long (kk K0 K1 K2 K3 (o 1))), (.int (Int32.ofNat q))]) (rest := [(.ref acs)]) (rm_dg l Z a0 hw (kk K0 K1 K2 K3 (o 1)) q hks0 n0 Xks0.size hq) (hw _ (List.mem_of_getElem? (i := 15) rfl)) (hw _ (List.mem_of_getElem? (i := 16) rfl)) (hw _ (List.mem_of_getElem? (i := 4) rfl)) (hw _ (List.mem_of_getElem? (i := 17) rfl)) (by decide) (ps := [.long, .int]) (r := some .int) (by decide +kernel) rfl rfl rfl rfl (by decide +kernel) (by simp [hc9, hs9]) ?_
    rintro Tgs1 hgs1 vgs1 Xgs1 ⟨rfl, rfl⟩
    show Go p e below s _ n0 _ (Tgs1.setTop (mkF m 80 #[.val (.ref ak), .val (.int p2), .val (.ref ao), .val (.ref au), .val (.int (Int32.ofNat q)), .val (.ref acs), .val (.ref ao), .val (.int (4 : Int32)), .val (.int (1 : Int32)), .val (.int (Int32.ofNat (o 1)))] [(.int (Int32.ofNat (kN (kk K0 K1 K2 K3 (o 1)) / 2 ^ q % 256))), (.ref acs)]))
    rw [dgv 1]
    refine Xgs1.blk hK (L := [(.iconst 1, 1, 1, 0), (.iadd, 1, 0, 0), (.dup2, 1, 0, 0)]) (pc' := 83) (ls' := #[.val (.ref ak), .val (.int p2), .val (.ref ao), .val (.ref au), .val (.int (Int32.ofNat q)), .val (.ref acs), .val (.ref ao), .val (.int (4 : Int32)), .val (.int (1 : Int32)), .val (.int (Int32.ofNat (o 1)))]) (st' := [(.int ((Int32.ofNat (dg 1)) + (1 : Int32))), (.ref acs), (.int ((Int32.ofNat (dg 1)) + (1 : Int32))), (.ref acs)]) (by decide +kernel) rfl ?_
    rw [own_suc (n := dg 1) (by have := dlt 1; omega)]
    have bd1 : f1 (dg 1 + 1) ≤ 4 := by have z0 := own_01 (dg 0 + 1 = dg 1 + 1); simp only [hf0, hf1]; omega
    refine Xgs1.iaload 84 C1 (by decide +kernel) ((own_ofn (by have := dlt 1; omega)).1) (V1.lit (dg 1 + 1) (by have := dlt 1; omega) (by have := dlt 1; omega)) ?_
    refine Xgs1.blk hK (L := [(.iconst 1, 1, 1, 0), (.iadd, 1, 0, 0)]) (pc' := 86) (ls' := #[.val (.ref ak), .val (.int p2), .val (.ref ao), .val (.ref au), .val (.int (Int32.ofNat q)), .val (.ref acs), .val (.ref ao), .val (.int (4 : Int32)), .val (.int (1 : Int32)), .val (.int (Int32.ofNat (o 1)))]) (st' := [(.int ((Int32.ofNat (f1 (dg 1 + 1))) + (1 : Int32))), (.int (Int32.ofNat (dg 1 + 1))), (.ref acs)]) (by decide +kernel) rfl ?_
    rw [own_suc (n := f1 (dg 1 + 1)) (by omega)]
    refine Xgs1.iastore 87 C1 (by decide +kernel) ((own_ofn (by have := dlt 1; omega)).1) (by rw [(own_ofn (by have := dlt 1; omega)).2, V1.1]; have := dlt 1; omega) (gc2) ?_
    intro Tks1 hks1 Xks1 Wks1 C2
    rw [(own_ofn (by have := dlt 1; omega)).2] at C2 Wks1
    obtain ⟨f2, hf2⟩ : ∃ f : Nat → Nat, f = fun d => f1 d + (if dg 1 + 1 = d then 1 else 0) := ⟨_, rfl⟩
    have V2 := (V1.set (t := dg 1 + 1) (v := f1 (dg 1 + 1) + 1) (by have := dlt 1; omega)).congr (g := f2) (fun d _ => by rw [hf2]; exact own_inc (f := f1) rfl d)
    have AK_s1 := AK_s0.other Wks1 e3
    have A1_s1 := A1_s0.other Wks1 e1
    have A2_s1 := A2_s0.other Wks1 e2
    refine Xks1.blk hK (L := [(.iinc 8 1, 3, 1, 0), (.goto (-35), 3, 0, 55)]) (pc' := 55) (ls' := #[.val (.ref ak), .val (.int p2), .val (.ref ao), .val (.ref au), .val (.int (Int32.ofNat q)), .val (.ref acs), .val (.ref ao), .val (.int (4 : Int32)), .val (.int (2 : Int32)), .val (.int (Int32.ofNat (o 1)))]) (st' := []) (by decide +kernel) rfl ?_
    refine Xks1.blk hK (L := [(.iload 8, 2, 0, 0), (.iload 7, 2, 0, 0)]) (pc' := 59) (ls' := #[.val (.ref ak), .val (.int p2), .val (.ref ao), .val (.ref au), .val (.int (Int32.ofNat q)), .val (.ref acs), .val (.ref ao), .val (.int (4 : Int32)), .val (.int (2 : Int32)), .val (.int (Int32.ofNat (o 1)))]) (st' := [(.int (4 : Int32)), (.int (2 : Int32))]) (by decide +kernel) rfl ?_
    refine Xks1.icmp .ge (34) 93 62 (by decide +kernel) (fun (c59 : ¬ (2 : Int32) < (4 : Int32)) => absurd (by decide : (2 : Int32) < (4 : Int32)) c59) (fun (c59 : (2 : Int32) < (4 : Int32)) => ?_)
    refine Xks1.blk hK (L := [(.aload 6, 2, 0, 0), (.iload 8, 2, 0, 0)]) (pc' := 66) (ls' := #[.val (.ref ak), .val (.int p2), .val (.ref ao), .val (.ref au), .val (.int (Int32.ofNat q)), .val (.ref acs), .val (.ref ao), .val (.int (4 : Int32)), .val (.int (2 : Int32)), .val (.int (Int32.ofNat (o 1)))]) (st' := [(.int (2 : Int32)), (.ref ao)]) (by decide +kernel) rfl ?_
    refine Xks1.iaload 67 A1_s1 (by decide +kernel) (by decide) (VO.lit 2 (by decide) (by decide)) ?_
    refine Xks1.blk hK (L := [(.istore 9, 2, 0, 0), (.aload 5, 2, 0, 0), (.aload_n 0, 1, 0, 0), (.iload 9, 2, 0, 0)]) (pc' := 74) (ls' := #[.val (.ref ak), .val (.int p2), .val (.ref ao), .val (.ref au), .val (.int (Int32.ofNat q)), .val (.ref acs), .val (.ref ao), .val (.int (4 : Int32)), .val (.int (2 : Int32)), .val (.int (Int32.ofNat (o 2)))]) (st' := [(.int (Int32.ofNat (o 2))), (.ref ak), (.ref acs)]) (by decide +kernel) rfl ?_
    refine Xks1.laload 75 AK_s1 (by decide +kernel) ((own_ofn (by have := SO.1 2 (by decide); omega)).1) (own_kk _ _ _ _ (SO.1 2 (by decide))) ?_
    refine Xks1.blk hK (L := [(.iload 4, 2, 0, 0)]) (pc' := 77) (ls' := #[.val (.ref ak), .val (.int p2), .val (.ref ao), .val (.ref au), .val (.int (Int32.ofNat q)), .val (.ref acs), .val (.ref ao), .val (.int (4 : Int32)), .val (.int (2 : Int32)), .val (.int (Int32.ofNat (o 2)))]) (st' := [(.int (Int32.ofNat q)), (.long (kk K0 K1 K2 K3 (o 2))), (.ref acs)]) (by decide +kernel) rfl ?_
    refine Xks1.callS 80 1 (argsL := [(.long (kk K0 K1 K2 K3 (o 2))), (.int (Int32.ofNat q))]) (rest := [(.ref acs)]) (rm_dg l Z a0 hw (kk K0 K1 K2 K3 (o 2)) q hks1 n0 Xks1.size hq) (hw _ (List.mem_of_getElem? (i := 15) rfl)) (hw _ (List.mem_of_getElem? (i := 16) rfl)) (hw _ (List.mem_of_getElem? (i := 4) rfl)) (hw _ (List.mem_of_getElem? (i := 17) rfl)) (by decide) (ps := [.long, .int]) (r := some .int) (by decide +kernel) rfl rfl rfl rfl (by decide +kernel) (by simp [hc9, hs9]) ?_
    rintro Tgs2 hgs2 vgs2 Xgs2 ⟨rfl, rfl⟩
    show Go p e below s _ n0 _ (Tgs2.setTop (mkF m 80 #[.val (.ref ak), .val (.int p2), .val (.ref ao), .val (.ref au), .val (.int (Int32.ofNat q)), .val (.ref acs), .val (.ref ao), .val (.int (4 : Int32)), .val (.int (2 : Int32)), .val (.int (Int32.ofNat (o 2)))] [(.int (Int32.ofNat (kN (kk K0 K1 K2 K3 (o 2)) / 2 ^ q % 256))), (.ref acs)]))
    rw [dgv 2]
    refine Xgs2.blk hK (L := [(.iconst 1, 1, 1, 0), (.iadd, 1, 0, 0), (.dup2, 1, 0, 0)]) (pc' := 83) (ls' := #[.val (.ref ak), .val (.int p2), .val (.ref ao), .val (.ref au), .val (.int (Int32.ofNat q)), .val (.ref acs), .val (.ref ao), .val (.int (4 : Int32)), .val (.int (2 : Int32)), .val (.int (Int32.ofNat (o 2)))]) (st' := [(.int ((Int32.ofNat (dg 2)) + (1 : Int32))), (.ref acs), (.int ((Int32.ofNat (dg 2)) + (1 : Int32))), (.ref acs)]) (by decide +kernel) rfl ?_
    rw [own_suc (n := dg 2) (by have := dlt 2; omega)]
    have bd2 : f2 (dg 2 + 1) ≤ 4 := by have z0 := own_01 (dg 0 + 1 = dg 2 + 1); have z1 := own_01 (dg 1 + 1 = dg 2 + 1); simp only [hf0, hf1, hf2]; omega
    refine Xgs2.iaload 84 C2 (by decide +kernel) ((own_ofn (by have := dlt 2; omega)).1) (V2.lit (dg 2 + 1) (by have := dlt 2; omega) (by have := dlt 2; omega)) ?_
    refine Xgs2.blk hK (L := [(.iconst 1, 1, 1, 0), (.iadd, 1, 0, 0)]) (pc' := 86) (ls' := #[.val (.ref ak), .val (.int p2), .val (.ref ao), .val (.ref au), .val (.int (Int32.ofNat q)), .val (.ref acs), .val (.ref ao), .val (.int (4 : Int32)), .val (.int (2 : Int32)), .val (.int (Int32.ofNat (o 2)))]) (st' := [(.int ((Int32.ofNat (f2 (dg 2 + 1))) + (1 : Int32))), (.int (Int32.ofNat (dg 2 + 1))), (.ref acs)]) (by decide +kernel) rfl ?_
    rw [own_suc (n := f2 (dg 2 + 1)) (by omega)]
    refine Xgs2.iastore 87 C2 (by decide +kernel) ((own_ofn (by have := dlt 2; omega)).1) (by rw [(own_ofn (by have := dlt 2; omega)).2, V2.1]; have := dlt 2; omega) (gc2) ?_
    intro Tks2 hks2 Xks2 Wks2 C3
    rw [(own_ofn (by have := dlt 2; omega)).2] at C3 Wks2
    obtain ⟨f3, hf3⟩ : ∃ f : Nat → Nat, f = fun d => f2 d + (if dg 2 + 1 = d then 1 else 0) := ⟨_, rfl⟩
    have V3 := (V2.set (t := dg 2 + 1) (v := f2 (dg 2 + 1) + 1) (by have := dlt 2; omega)).congr (g := f3) (fun d _ => by rw [hf3]; exact own_inc (f := f2) rfl d)
    have AK_s2 := AK_s1.other Wks2 e3
    have A1_s2 := A1_s1.other Wks2 e1
    have A2_s2 := A2_s1.other Wks2 e2
    refine Xks2.blk hK (L := [(.iinc 8 1, 3, 1, 0), (.goto (-35), 3, 0, 55)]) (pc' := 55) (ls' := #[.val (.ref ak), .val (.int p2), .val (.ref ao), .val (.ref au), .val (.int (Int32.ofNat q)), .val (.ref acs), .val (.ref ao), .val (.int (4 : Int32)), .val (.int (3 : Int32)), .val (.int (Int32.ofNat (o 2)))]) (st' := []) (by decide +kernel) rfl ?_
    refine Xks2.blk hK (L := [(.iload 8, 2, 0, 0), (.iload 7, 2, 0, 0)]) (pc' := 59) (ls' := #[.val (.ref ak), .val (.int p2), .val (.ref ao), .val (.ref au), .val (.int (Int32.ofNat q)), .val (.ref acs), .val (.ref ao), .val (.int (4 : Int32)), .val (.int (3 : Int32)), .val (.int (Int32.ofNat (o 2)))]) (st' := [(.int (4 : Int32)), (.int (3 : Int32))]) (by decide +kernel) rfl ?_
    refine Xks2.icmp .ge (34) 93 62 (by decide +kernel) (fun (c59 : ¬ (3 : Int32) < (4 : Int32)) => absurd (by decide : (3 : Int32) < (4 : Int32)) c59) (fun (c59 : (3 : Int32) < (4 : Int32)) => ?_)
    refine Xks2.blk hK (L := [(.aload 6, 2, 0, 0), (.iload 8, 2, 0, 0)]) (pc' := 66) (ls' := #[.val (.ref ak), .val (.int p2), .val (.ref ao), .val (.ref au), .val (.int (Int32.ofNat q)), .val (.ref acs), .val (.ref ao), .val (.int (4 : Int32)), .val (.int (3 : Int32)), .val (.int (Int32.ofNat (o 2)))]) (st' := [(.int (3 : Int32)), (.ref ao)]) (by decide +kernel) rfl ?_
    refine Xks2.iaload 67 A1_s2 (by decide +kernel) (by decide) (VO.lit 3 (by decide) (by decide)) ?_
    refine Xks2.blk hK (L := [(.istore 9, 2, 0, 0), (.aload 5, 2, 0, 0), (.aload_n 0, 1, 0, 0), (.iload 9, 2, 0, 0)]) (pc' := 74) (ls' := #[.val (.ref ak), .val (.int p2), .val (.ref ao), .val (.ref au), .val (.int (Int32.ofNat q)), .val (.ref acs), .val (.ref ao), .val (.int (4 : Int32)), .val (.int (3 : Int32)), .val (.int (Int32.ofNat (o 3)))]) (st' := [(.int (Int32.ofNat (o 3))), (.ref ak), (.ref acs)]) (by decide +kernel) rfl ?_
    refine Xks2.laload 75 AK_s2 (by decide +kernel) ((own_ofn (by have := SO.1 3 (by decide); omega)).1) (own_kk _ _ _ _ (SO.1 3 (by decide))) ?_
    refine Xks2.blk hK (L := [(.iload 4, 2, 0, 0)]) (pc' := 77) (ls' := #[.val (.ref ak), .val (.int p2), .val (.ref ao), .val (.ref au), .val (.int (Int32.ofNat q)), .val (.ref acs), .val (.ref ao), .val (.int (4 : Int32)), .val (.int (3 : Int32)), .val (.int (Int32.ofNat (o 3)))]) (st' := [(.int (Int32.ofNat q)), (.long (kk K0 K1 K2 K3 (o 3))), (.ref acs)]) (by decide +kernel) rfl ?_
    refine Xks2.callS 80 1 (argsL := [(.long (kk K0 K1 K2 K3 (o 3))), (.int (Int32.ofNat q))]) (rest := [(.ref acs)]) (rm_dg l Z a0 hw (kk K0 K1 K2 K3 (o 3)) q hks2 n0 Xks2.size hq) (hw _ (List.mem_of_getElem? (i := 15) rfl)) (hw _ (List.mem_of_getElem? (i := 16) rfl)) (hw _ (List.mem_of_getElem? (i := 4) rfl)) (hw _ (List.mem_of_getElem? (i := 17) rfl)) (by decide) (ps := [.long, .int]) (r := some .int) (by decide +kernel) rfl rfl rfl rfl (by decide +kernel) (by simp [hc9, hs9]) ?_
    rintro Tgs3 hgs3 vgs3 Xgs3 ⟨rfl, rfl⟩
    show Go p e below s _ n0 _ (Tgs3.setTop (mkF m 80 #[.val (.ref ak), .val (.int p2), .val (.ref ao), .val (.ref au), .val (.int (Int32.ofNat q)), .val (.ref acs), .val (.ref ao), .val (.int (4 : Int32)), .val (.int (3 : Int32)), .val (.int (Int32.ofNat (o 3)))] [(.int (Int32.ofNat (kN (kk K0 K1 K2 K3 (o 3)) / 2 ^ q % 256))), (.ref acs)]))
    rw [dgv 3]
    refine Xgs3.blk hK (L := [(.iconst 1, 1, 1, 0), (.iadd, 1, 0, 0), (.dup2, 1, 0, 0)]) (pc' := 83) (ls' := #[.val (.ref ak), .val (.int p2), .val (.ref ao), .val (.ref au), .val (.int (Int32.ofNat q)), .val (.ref acs), .val (.ref ao), .val (.int (4 : Int32)), .val (.int (3 : Int32)), .val (.int (Int32.ofNat (o 3)))]) (st' := [(.int ((Int32.ofNat (dg 3)) + (1 : Int32))), (.ref acs), (.int ((Int32.ofNat (dg 3)) + (1 : Int32))), (.ref acs)]) (by decide +kernel) rfl ?_
    rw [own_suc (n := dg 3) (by have := dlt 3; omega)]
    have bd3 : f3 (dg 3 + 1) ≤ 4 := by have z0 := own_01 (dg 0 + 1 = dg 3 + 1); have z1 := own_01 (dg 1 + 1 = dg 3 + 1); have z2 := own_01 (dg 2 + 1 = dg 3 + 1); simp only [hf0, hf1, hf2, hf3]; omega
    refine Xgs3.iaload 84 C3 (by decide +kernel) ((own_ofn (by have := dlt 3; omega)).1) (V3.lit (dg 3 + 1) (by have := dlt 3; omega) (by have := dlt 3; omega)) ?_
    refine Xgs3.blk hK (L := [(.iconst 1, 1, 1, 0), (.iadd, 1, 0, 0)]) (pc' := 86) (ls' := #[.val (.ref ak), .val (.int p2), .val (.ref ao), .val (.ref au), .val (.int (Int32.ofNat q)), .val (.ref acs), .val (.ref ao), .val (.int (4 : Int32)), .val (.int (3 : Int32)), .val (.int (Int32.ofNat (o 3)))]) (st' := [(.int ((Int32.ofNat (f3 (dg 3 + 1))) + (1 : Int32))), (.int (Int32.ofNat (dg 3 + 1))), (.ref acs)]) (by decide +kernel) rfl ?_
    rw [own_suc (n := f3 (dg 3 + 1)) (by omega)]
    refine Xgs3.iastore 87 C3 (by decide +kernel) ((own_ofn (by have := dlt 3; omega)).1) (by rw [(own_ofn (by have := dlt 3; omega)).2, V3.1]; have := dlt 3; omega) (gc2) ?_
    intro Tks3 hks3 Xks3 Wks3 C4
    rw [(own_ofn (by have := dlt 3; omega)).2] at C4 Wks3
    obtain ⟨f4, hf4⟩ : ∃ f : Nat → Nat, f = fun d => f3 d + (if dg 3 + 1 = d then 1 else 0) := ⟨_, rfl⟩
    have V4 := (V3.set (t := dg 3 + 1) (v := f3 (dg 3 + 1) + 1) (by have := dlt 3; omega)).congr (g := f4) (fun d _ => by rw [hf4]; exact own_inc (f := f3) rfl d)
    have AK_s3 := AK_s2.other Wks3 e3
    have A1_s3 := A1_s2.other Wks3 e1
    have A2_s3 := A2_s2.other Wks3 e2
    refine Xks3.blk hK (L := [(.iinc 8 1, 3, 1, 0), (.goto (-35), 3, 0, 55)]) (pc' := 55) (ls' := #[.val (.ref ak), .val (.int p2), .val (.ref ao), .val (.ref au), .val (.int (Int32.ofNat q)), .val (.ref acs), .val (.ref ao), .val (.int (4 : Int32)), .val (.int (4 : Int32)), .val (.int (Int32.ofNat (o 3)))]) (st' := []) (by decide +kernel) rfl ?_
    refine Xks3.blk hK (L := [(.iload 8, 2, 0, 0), (.iload 7, 2, 0, 0)]) (pc' := 59) (ls' := #[.val (.ref ak), .val (.int p2), .val (.ref ao), .val (.ref au), .val (.int (Int32.ofNat q)), .val (.ref acs), .val (.ref ao), .val (.int (4 : Int32)), .val (.int (4 : Int32)), .val (.int (Int32.ofNat (o 3)))]) (st' := [(.int (4 : Int32)), (.int (4 : Int32))]) (by decide +kernel) rfl ?_
    refine Xks3.icmp .ge (34) 93 62 (by decide +kernel) (fun (c59 : ¬ (4 : Int32) < (4 : Int32)) => ?_) (fun (c59 : (4 : Int32) < (4 : Int32)) => absurd c59 (by decide : ¬ (4 : Int32) < (4 : Int32)))
    refine Xks3.blk hK (L := [(.iconst 0, 1, 0, 0), (.istore 6, 2, 0, 0)]) (pc' := 96) (ls' := #[.val (.ref ak), .val (.int p2), .val (.ref ao), .val (.ref au), .val (.int (Int32.ofNat q)), .val (.ref acs), .val (.int (0 : Int32)), .val (.int (4 : Int32)), .val (.int (4 : Int32)), .val (.int (Int32.ofNat (o 3)))]) (st' := []) (by decide +kernel) rfl ?_
    exact J96 (2 + 1) (8 + 257) q ao au acs _ _ o dg hc9 hs9 hq ⟨ga, gu2, gc2⟩ ⟨dou, dko, dku⟩ ⟨e1, e2, e3⟩ VO lT SO hdg (fun TN hN i9 o2 us XN AKN AU AO VU SU => J31 7 (q + 8) au ao acs ao i9 us _ o2 TN hN (by omega) XN ⟨gu2, ga⟩ ⟨dou.symm, dku, dko⟩ AKN AU AO VU rfl SU) 256 0 _ _ _ _ (by decide) Xks3 AK_s3 A1_s3 A2_s3 C4 (V4.congr (fun e _ => by
      by_cases z : e ≤ 0
      · obtain rfl : e = 0 := by omega
        rw [if_pos (Nat.le_refl _)]; show _ = hist dg 0; simp only [hf0, hf1, hf2, hf3, hf4, hist, sum4]; omega
      · rw [if_neg z]; simp only [hf0, hf1, hf2, hf3, hf4, hist, sum4]; omega))
set_option maxRecDepth 65536 in
set_option maxHeartbeats 40000000 in
theorem rm_law (l : Launch) (Z : State) (a0 : Array Value) (hw : ∀ d ∈ tables_1, d.before a0 Z = true) (p1 : Int32) (p2 p3 p4 p5 : Int64) (h0 : Heap) (n0 : Nat) (Z0 : n0 ≤ h0.size)  :
    Cnt l Z x code maxLocals ret room_1 n0 #[(.int p1), (.long p2), (.long p3), (.long p4), (.long p5)] h0 (fun v h => v = some (.int 1)) := by
  refine Cnt.mk (by first | exact plainFor_of_name (by first | (simp [plainName, overriddenIn]; done) | decide +kernel) | decide +kernel) Z0 ?_
  intro p e s m below meth c T X
  refine Go.cast (g' := mkF m 0 #[.val (.int p1), .val (.long p2), .second, .val (.long p3), .second, .val (.long p4), .second, .val (.long p5), .second, .unset, .unset, .unset, .unset, .unset] []) (by first | (simp [entryFrame, mkF, argsToLocals, Value.category, maxLocals]; done) | rfl) ?_
  have hK : (∀ q ∈ ([(7, (2147483647 : Int32))] : List (Nat × Int32)), (Jvm.Cond.constant "com/example/text_to_fingerprint/texttofingerprint/service/PositionOrderByKeyPinLaw" q.1 q.2).before a0 Z = true) ∧ (∀ q ∈ ([(24, (-9223372036854775808 : Int64)), (8, (-1 : Int64))] : List (Nat × Int64)), (Jvm.Cond.constantLong "com/example/text_to_fingerprint/texttofingerprint/service/PositionOrderByKeyPinLaw" q.1 q.2).before a0 Z = true) :=
    ⟨(fun q hq => by
      rcases List.mem_cons.mp hq with rfl | hq
      · exact hw _ (List.mem_of_getElem? (i := 0) rfl)
      exact nomatch hq), (fun q hq => by
      rcases List.mem_cons.mp hq with rfl | hq
      · exact hw _ (List.mem_of_getElem? (i := 14) rfl)
      rcases List.mem_cons.mp hq with rfl | hq
      · exact hw _ (List.mem_of_getElem? (i := 18) rfl)
      exact nomatch hq)⟩
  refine X.blk hK (L := [(.iload_n 0, 1, 0, 0), (.ldc 7, 2, 0, 0), (.iand, 1, 0, 0), (.bipush 65, 2, 65, 0)]) (pc' := 6) (ls' := #[.val (.int p1), .val (.long p2), .second, .val (.long p3), .second, .val (.long p4), .second, .val (.long p5), .second, .unset, .unset, .unset, .unset, .unset]) (st' := [(.int (65 : Int32)), (.int (p1 &&& (2147483647 : Int32)))]) (by decide +kernel) rfl ?_
  refine X.irem 7 (by decide +kernel) (by decide) ?_
  generalize h_qw : (p1 &&& (2147483647 : Int32)) % (65 : Int32) = qw
  have r_w : 0 ≤ qw.toInt ∧ qw.toInt < 65 := h_qw ▸ own_rem p1 65 65 rfl (by decide)
  have J28 : ∀ (mk : Int64), (∀ k : Int64, kN (k &&& mk) < 2 ^ qw.toInt.toNat) → Go p e below s room_1 n0 (fun v h => v = some (.int 1)) (T.setTop (mkF m 28 #[.val (.int p1), .val (.long p2), .second, .val (.long p3), .second, .val (.long p4), .second, .val (.long p5), .second, .val (.int qw), .unset, .unset, .unset, .unset] [(.long mk)])) := by
    intro mk hm
    refine X.blk hK (L := [(.lstore 10, 2, 0, 0), (.iconst 4, 1, 4, 0)]) (pc' := 31) (ls' := #[.val (.int p1), .val (.long p2), .second, .val (.long p3), .second, .val (.long p4), .second, .val (.long p5), .second, .val (.int qw), .val (.long mk), .second, .unset, .unset]) (st' := [(.int (4 : Int32))]) (by decide +kernel) rfl ?_
    refine X.newarr 33 4 (aty := .long) (hw _ (List.mem_of_getElem? (i := 1) rfl)) rfl (by decide +kernel) (by decide) (by decide) (by decide) ?_
    intro Tn hn Xn En A0
    obtain ⟨an, gn⟩ : ∃ z, z = h0.size := ⟨_, rfl⟩
    rw [← gn] at A0 ⊢
    have A0 : AV Z hn an .long (List.replicate 4 (.long 0)) := A0
    have ga : n0 ≤ an := by rw [gn]; exact Z0
    refine Xn.blk hK (L := [(.astore 12, 2, 0, 0), (.aload 12, 2, 0, 0), (.iconst 0, 1, 0, 0), (.lload_n 1, 1, 0, 0), (.lload 10, 2, 0, 0), (.land, 1, 0, 0)]) (pc' := 42) (ls' := #[.val (.int p1), .val (.long p2), .second, .val (.long p3), .second, .val (.long p4), .second, .val (.long p5), .second, .val (.int qw), .val (.long mk), .second, .val (.ref an), .unset]) (st' := [(.long (p2 &&& mk)), (.int (0 : Int32)), (.ref an)]) (by decide +kernel) rfl ?_
    refine Xn.lastore 43 A0 (by decide +kernel) (by decide) (by simp) (ga) ?_
    intro Ts0 hs0 Xs0 Ws0 A1
    refine Xs0.blk hK (L := [(.aload 12, 2, 0, 0), (.iconst 1, 1, 1, 0), (.lload_n 3, 1, 0, 0), (.lload 10, 2, 0, 0), (.land, 1, 0, 0)]) (pc' := 50) (ls' := #[.val (.int p1), .val (.long p2), .second, .val (.long p3), .second, .val (.long p4), .second, .val (.long p5), .second, .val (.int qw), .val (.long mk), .second, .val (.ref an), .unset]) (st' := [(.long (p3 &&& mk)), (.int (1 : Int32)), (.ref an)]) (by decide +kernel) rfl ?_
    refine Xs0.lastore 51 A1 (by decide +kernel) (by decide) (by simp) (ga) ?_
    intro Ts1 hs1 Xs1 Ws1 A2
    refine Xs1.blk hK (L := [(.aload 12, 2, 0, 0), (.iconst 2, 1, 2, 0), (.lload 5, 2, 0, 0), (.lload 10, 2, 0, 0), (.land, 1, 0, 0)]) (pc' := 59) (ls' := #[.val (.int p1), .val (.long p2), .second, .val (.long p3), .second, .val (.long p4), .second, .val (.long p5), .second, .val (.int qw), .val (.long mk), .second, .val (.ref an), .unset]) (st' := [(.long (p4 &&& mk)), (.int (2 : Int32)), (.ref an)]) (by decide +kernel) rfl ?_
    refine Xs1.lastore 60 A2 (by decide +kernel) (by decide) (by simp) (ga) ?_
    intro Ts2 hs2 Xs2 Ws2 A3
    refine Xs2.blk hK (L := [(.aload 12, 2, 0, 0), (.iconst 3, 1, 3, 0), (.lload 7, 2, 0, 0), (.lload 10, 2, 0, 0), (.land, 1, 0, 0)]) (pc' := 68) (ls' := #[.val (.int p1), .val (.long p2), .second, .val (.long p3), .second, .val (.long p4), .second, .val (.long p5), .second, .val (.int qw), .val (.long mk), .second, .val (.ref an), .unset]) (st' := [(.long (p5 &&& mk)), (.int (3 : Int32)), (.ref an)]) (by decide +kernel) rfl ?_
    refine Xs2.lastore 69 A3 (by decide +kernel) (by decide) (by simp) (ga) ?_
    intro Ts3 hs3 Xs3 Ws3 A4
    replace A4 : AV Z hs3 an .long [.long (p2 &&& mk), .long (p3 &&& mk), .long (p4 &&& mk), .long (p5 &&& mk)] := A4
    refine Xs3.blk hK (L := [(.aload 12, 2, 0, 0), (.iload 9, 2, 0, 0)]) (pc' := 73) (ls' := #[.val (.int p1), .val (.long p2), .second, .val (.long p3), .second, .val (.long p4), .second, .val (.long p5), .second, .val (.int qw), .val (.long mk), .second, .val (.ref an), .unset]) (st' := [(.int qw), (.ref an)]) (by decide +kernel) rfl ?_
    refine Xs3.callS 76 0 (argsL := [(.ref an), (.int qw)]) (rest := []) (rm_by l Z a0 hw an (p2 &&& mk) (p3 &&& mk) (p4 &&& mk) (p5 &&& mk) qw hs3 n0 Xs3.size A4 ⟨r_w.1, by omega⟩) (hw _ (List.mem_of_getElem? (i := 2) rfl)) (hw _ (List.mem_of_getElem? (i := 3) rfl)) (hw _ (List.mem_of_getElem? (i := 4) rfl)) (hw _ (List.mem_of_getElem? (i := 5) rfl)) (by decide) (ps := [(.array .long), .int]) (r := some (.array .int)) (by decide +kernel) rfl rfl rfl rfl (by decide +kernel) (by decide) ?_
    rintro Tb hb vb Xb ⟨ar, os, o, q, rfl, AR, VR, SR, hq, AK⟩
    show Go p e below s _ n0 _ (Tb.setTop (mkF m 76 #[.val (.int p1), .val (.long p2), .second, .val (.long p3), .second, .val (.long p4), .second, .val (.long p5), .second, .val (.int qw), .val (.long mk), .second, .val (.ref an), .unset] [(.ref ar)]))
    have kb : ∀ i, i < 4 → (fun i => kN (kk (p2 &&& mk) (p3 &&& mk) (p4 &&& mk) (p5 &&& mk) i)) i < 2 ^ q := fun i hi => Nat.lt_of_lt_of_le (by
      match i, hi with
      | 0, _ => exact hm _
      | 1, _ => exact hm _
      | 2, _ => exact hm _
      | 3, _ => exact hm _) (Nat.pow_le_pow_right (by decide) (show qw.toInt.toNat ≤ q by omega))
    refine Xb.blk hK (L := [(.astore 13, 2, 0, 0), (.aload 13, 2, 0, 0)]) (pc' := 80) (ls' := #[.val (.int p1), .val (.long p2), .second, .val (.long p3), .second, .val (.long p4), .second, .val (.long p5), .second, .val (.int qw), .val (.long mk), .second, .val (.ref an), .val (.ref ar)]) (st' := [(.ref ar)]) (by decide +kernel) rfl ?_
    refine Xb.ifnullN (10) 83 (by decide +kernel) ?_
    refine Xb.blk hK (L := [(.aload 13, 2, 0, 0)]) (pc' := 85) (ls' := #[.val (.int p1), .val (.long p2), .second, .val (.long p3), .second, .val (.long p4), .second, .val (.long p5), .second, .val (.int qw), .val (.long mk), .second, .val (.ref an), .val (.ref ar)]) (st' := [(.ref ar)]) (by decide +kernel) rfl ?_
    refine Xb.alen 86 (n := (4 : Int32)) AR (by decide +kernel) (by rw [VR.1]; rfl) ?_
    refine Xb.blk hK (L := [(.iconst 4, 1, 4, 0)]) (pc' := 87) (ls' := #[.val (.int p1), .val (.long p2), .second, .val (.long p3), .second, .val (.long p4), .second, .val (.long p5), .second, .val (.int qw), .val (.long mk), .second, .val (.ref an), .val (.ref ar)]) (st' := [(.int (4 : Int32)), (.int (4 : Int32))]) (by decide +kernel) rfl ?_
    refine Xb.icmp .eq (5) 92 90 (by decide +kernel) (fun (c87 : (4 : Int32) = (4 : Int32)) => ?_) (fun (c87 : ¬ (4 : Int32) = (4 : Int32)) => absurd (by decide : (4 : Int32) = (4 : Int32)) c87)
    refine Xb.blk hK (L := [(.aload 13, 2, 0, 0), (.aload 12, 2, 0, 0), (.iconst 0, 1, 0, 0)]) (pc' := 97) (ls' := #[.val (.int p1), .val (.long p2), .second, .val (.long p3), .second, .val (.long p4), .second, .val (.long p5), .second, .val (.int qw), .val (.long mk), .second, .val (.ref an), .val (.ref ar)]) (st' := [(.int (0 : Int32)), (.ref an), (.ref ar)]) (by decide +kernel) rfl ?_
    refine Xb.callS 100 1 (argsL := [(.ref an), (.int (0 : Int32))]) (rest := [(.ref ar)]) (rm_rk0 l Z a0 hw an (p2 &&& mk) (p3 &&& mk) (p4 &&& mk) (p5 &&& mk) hb n0 Xb.size AK) (hw _ (List.mem_of_getElem? (i := 7) rfl)) (hw _ (List.mem_of_getElem? (i := 8) rfl)) (hw _ (List.mem_of_getElem? (i := 9) rfl)) (hw _ (List.mem_of_getElem? (i := 10) rfl)) (by decide) (ps := [(.array .long), .int]) (r := some .int) (by decide +kernel) rfl rfl rfl rfl (by decide +kernel) (by decide) ?_
    rintro Tr0 hr0 vr0 Xr0 ⟨rfl, rfl⟩
    show Go p e below s _ n0 _ (Tr0.setTop (mkF m 100 #[.val (.int p1), .val (.long p2), .second, .val (.long p3), .second, .val (.long p4), .second, .val (.long p5), .second, .val (.int qw), .val (.long mk), .second, .val (.ref an), .val (.ref ar)] [(.int (Int32.ofNat (rk (Lk (fun i => kN (kk (p2 &&& mk) (p3 &&& mk) (p4 &&& mk) (p5 &&& mk) i))) 0))), (.ref ar)]))
    obtain ⟨u0, v0⟩ := own_rank SR kb (i := 0) (by decide)
    refine Xr0.iaload 101 AR (by decide +kernel) ((own_ofn (by omega)).1) (by have z := VR.lit _ u0 (by omega); rw [v0] at z; exact z) ?_
    refine Xr0.ifc .ne (46) 147 104 (by decide +kernel) (fun (c101 : ¬ (0 : Int32) = (0 : Int32)) => absurd (by decide : (0 : Int32) = (0 : Int32)) c101) (fun (c101 : (0 : Int32) = (0 : Int32)) => ?_)
    refine Xr0.blk hK (L := [(.aload 13, 2, 0, 0), (.aload 12, 2, 0, 0), (.iconst 1, 1, 1, 0)]) (pc' := 109) (ls' := #[.val (.int p1), .val (.long p2), .second, .val (.long p3), .second, .val (.long p4), .second, .val (.long p5), .second, .val (.int qw), .val (.long mk), .second, .val (.ref an), .val (.ref ar)]) (st' := [(.int (1 : Int32)), (.ref an), (.ref ar)]) (by decide +kernel) rfl ?_
    refine Xr0.callS 112 1 (argsL := [(.ref an), (.int (1 : Int32))]) (rest := [(.ref ar)]) (rm_rk1 l Z a0 hw an (p2 &&& mk) (p3 &&& mk) (p4 &&& mk) (p5 &&& mk) hb n0 Xr0.size AK) (hw _ (List.mem_of_getElem? (i := 7) rfl)) (hw _ (List.mem_of_getElem? (i := 8) rfl)) (hw _ (List.mem_of_getElem? (i := 9) rfl)) (hw _ (List.mem_of_getElem? (i := 10) rfl)) (by decide) (ps := [(.array .long), .int]) (r := some .int) (by decide +kernel) rfl rfl rfl rfl (by decide +kernel) (by decide) ?_
    rintro Tr1 hr1 vr1 Xr1 ⟨rfl, rfl⟩
    show Go p e below s _ n0 _ (Tr1.setTop (mkF m 112 #[.val (.int p1), .val (.long p2), .second, .val (.long p3), .second, .val (.long p4), .second, .val (.long p5), .second, .val (.int qw), .val (.long mk), .second, .val (.ref an), .val (.ref ar)] [(.int (Int32.ofNat (rk (Lk (fun i => kN (kk (p2 &&& mk) (p3 &&& mk) (p4 &&& mk) (p5 &&& mk) i))) 1))), (.ref ar)]))
    obtain ⟨u1, v1⟩ := own_rank SR kb (i := 1) (by decide)
    refine Xr1.iaload 113 AR (by decide +kernel) ((own_ofn (by omega)).1) (by have z := VR.lit _ u1 (by omega); rw [v1] at z; exact z) ?_
    refine Xr1.blk hK (L := [(.iconst 1, 1, 1, 0)]) (pc' := 114) (ls' := #[.val (.int p1), .val (.long p2), .second, .val (.long p3), .second, .val (.long p4), .second, .val (.long p5), .second, .val (.int qw), .val (.long mk), .second, .val (.ref an), .val (.ref ar)]) (st' := [(.int (1 : Int32)), (.int (1 : Int32))]) (by decide +kernel) rfl ?_
    refine Xr1.icmp .ne (33) 147 117 (by decide +kernel) (fun (c114 : ¬ (1 : Int32) = (1 : Int32)) => absurd (by decide : (1 : Int32) = (1 : Int32)) c114) (fun (c114 : (1 : Int32) = (1 : Int32)) => ?_)
    refine Xr1.blk hK (L := [(.aload 13, 2, 0, 0), (.aload 12, 2, 0, 0), (.iconst 2, 1, 2, 0)]) (pc' := 122) (ls' := #[.val (.int p1), .val (.long p2), .second, .val (.long p3), .second, .val (.long p4), .second, .val (.long p5), .second, .val (.int qw), .val (.long mk), .second, .val (.ref an), .val (.ref ar)]) (st' := [(.int (2 : Int32)), (.ref an), (.ref ar)]) (by decide +kernel) rfl ?_
    refine Xr1.callS 125 1 (argsL := [(.ref an), (.int (2 : Int32))]) (rest := [(.ref ar)]) (rm_rk2 l Z a0 hw an (p2 &&& mk) (p3 &&& mk) (p4 &&& mk) (p5 &&& mk) hb n0 Xr1.size AK) (hw _ (List.mem_of_getElem? (i := 7) rfl)) (hw _ (List.mem_of_getElem? (i := 8) rfl)) (hw _ (List.mem_of_getElem? (i := 9) rfl)) (hw _ (List.mem_of_getElem? (i := 10) rfl)) (by decide) (ps := [(.array .long), .int]) (r := some .int) (by decide +kernel) rfl rfl rfl rfl (by decide +kernel) (by decide) ?_
    rintro Tr2 hr2 vr2 Xr2 ⟨rfl, rfl⟩
    show Go p e below s _ n0 _ (Tr2.setTop (mkF m 125 #[.val (.int p1), .val (.long p2), .second, .val (.long p3), .second, .val (.long p4), .second, .val (.long p5), .second, .val (.int qw), .val (.long mk), .second, .val (.ref an), .val (.ref ar)] [(.int (Int32.ofNat (rk (Lk (fun i => kN (kk (p2 &&& mk) (p3 &&& mk) (p4 &&& mk) (p5 &&& mk) i))) 2))), (.ref ar)]))
    obtain ⟨u2, v2⟩ := own_rank SR kb (i := 2) (by decide)
    refine Xr2.iaload 126 AR (by decide +kernel) ((own_ofn (by omega)).1) (by have z := VR.lit _ u2 (by omega); rw [v2] at z; exact z) ?_
    refine Xr2.blk hK (L := [(.iconst 2, 1, 2, 0)]) (pc' := 127) (ls' := #[.val (.int p1), .val (.long p2), .second, .val (.long p3), .second, .val (.long p4), .second, .val (.long p5), .second, .val (.int qw), .val (.long mk), .second, .val (.ref an), .val (.ref ar)]) (st' := [(.int (2 : Int32)), (.int (2 : Int32))]) (by decide +kernel) rfl ?_
    refine Xr2.icmp .ne (20) 147 130 (by decide +kernel) (fun (c127 : ¬ (2 : Int32) = (2 : Int32)) => absurd (by decide : (2 : Int32) = (2 : Int32)) c127) (fun (c127 : (2 : Int32) = (2 : Int32)) => ?_)
    refine Xr2.blk hK (L := [(.aload 13, 2, 0, 0), (.aload 12, 2, 0, 0), (.iconst 3, 1, 3, 0)]) (pc' := 135) (ls' := #[.val (.int p1), .val (.long p2), .second, .val (.long p3), .second, .val (.long p4), .second, .val (.long p5), .second, .val (.int qw), .val (.long mk), .second, .val (.ref an), .val (.ref ar)]) (st' := [(.int (3 : Int32)), (.ref an), (.ref ar)]) (by decide +kernel) rfl ?_
    refine Xr2.callS 138 1 (argsL := [(.ref an), (.int (3 : Int32))]) (rest := [(.ref ar)]) (rm_rk3 l Z a0 hw an (p2 &&& mk) (p3 &&& mk) (p4 &&& mk) (p5 &&& mk) hb n0 Xr2.size AK) (hw _ (List.mem_of_getElem? (i := 7) rfl)) (hw _ (List.mem_of_getElem? (i := 8) rfl)) (hw _ (List.mem_of_getElem? (i := 9) rfl)) (hw _ (List.mem_of_getElem? (i := 10) rfl)) (by decide) (ps := [(.array .long), .int]) (r := some .int) (by decide +kernel) rfl rfl rfl rfl (by decide +kernel) (by decide) ?_
    rintro Tr3 hr3 vr3 Xr3 ⟨rfl, rfl⟩
    show Go p e below s _ n0 _ (Tr3.setTop (mkF m 138 #[.val (.int p1), .val (.long p2), .second, .val (.long p3), .second, .val (.long p4), .second, .val (.long p5), .second, .val (.int qw), .val (.long mk), .second, .val (.ref an), .val (.ref ar)] [(.int (Int32.ofNat (rk (Lk (fun i => kN (kk (p2 &&& mk) (p3 &&& mk) (p4 &&& mk) (p5 &&& mk) i))) 3))), (.ref ar)]))
    obtain ⟨u3, v3⟩ := own_rank SR kb (i := 3) (by decide)
    refine Xr3.iaload 139 AR (by decide +kernel) ((own_ofn (by omega)).1) (by have z := VR.lit _ u3 (by omega); rw [v3] at z; exact z) ?_
    refine Xr3.blk hK (L := [(.iconst 3, 1, 3, 0)]) (pc' := 140) (ls' := #[.val (.int p1), .val (.long p2), .second, .val (.long p3), .second, .val (.long p4), .second, .val (.long p5), .second, .val (.int qw), .val (.long mk), .second, .val (.ref an), .val (.ref ar)]) (st' := [(.int (3 : Int32)), (.int (3 : Int32))]) (by decide +kernel) rfl ?_
    refine Xr3.icmp .ne (7) 147 143 (by decide +kernel) (fun (c140 : ¬ (3 : Int32) = (3 : Int32)) => absurd (by decide : (3 : Int32) = (3 : Int32)) c140) (fun (c140 : (3 : Int32) = (3 : Int32)) => ?_)
    refine Xr3.blk hK (L := [(.iconst 1, 1, 1, 0), (.goto 4, 3, 0, 148)]) (pc' := 148) (ls' := #[.val (.int p1), .val (.long p2), .second, .val (.long p3), .second, .val (.long p4), .second, .val (.long p5), .second, .val (.int qw), .val (.long mk), .second, .val (.ref an), .val (.ref ar)]) (st' := [(.int (1 : Int32))]) (by decide +kernel) rfl ?_
    exact Xr3.retZ (by decide +kernel) (by decide) (by decide) (Or.inr rfl) (rfl)
  refine X.blk hK (L := [(.istore 9, 2, 0, 0), (.iload 9, 2, 0, 0), (.bipush 64, 2, 64, 0)]) (pc' := 13) (ls' := #[.val (.int p1), .val (.long p2), .second, .val (.long p3), .second, .val (.long p4), .second, .val (.long p5), .second, .val (.int qw), .unset, .unset, .unset, .unset]) (st' := [(.int (64 : Int32)), (.int qw)]) (by decide +kernel) rfl ?_
  refine X.icmp .ne (9) 22 16 (by decide +kernel) (fun (c13 : ¬ qw = (64 : Int32)) => ?_) (fun (c13 : qw = (64 : Int32)) => ?_)
  · refine X.blk hK (L := [(.lconst 1, 1, 0, 0), (.iload 9, 2, 0, 0), (.lshl, 1, 0, 0), (.lconst 1, 1, 0, 0), (.lsub, 1, 0, 0)]) (pc' := 28) (ls' := #[.val (.int p1), .val (.long p2), .second, .val (.long p3), .second, .val (.long p4), .second, .val (.long p5), .second, .val (.int qw), .unset, .unset, .unset, .unset]) (st' := [(.long (((1 : Int64) <<< (qw.toInt64 &&& 63)) - (1 : Int64)))]) (by decide +kernel) rfl ?_
    exact J28 _ (own_mask qw (by omega) (fun z => c13 (Int32.toInt_inj.mp z)))
  · refine X.blk hK (L := [(.ldc2_w 8, 3, 0, 0), (.goto 9, 3, 0, 28)]) (pc' := 28) (ls' := #[.val (.int p1), .val (.long p2), .second, .val (.long p3), .second, .val (.long p4), .second, .val (.long p5), .second, .val (.int qw), .unset, .unset, .unset, .unset]) (st' := [(.long (-1 : Int64))]) (by decide +kernel) rfl ?_
    exact J28 _ (fun k => by rw [c13]; exact (k &&& -1).toBitVec.isLt)
set_option maxRecDepth 65536 in
set_option maxHeartbeats 40000000 in
theorem comes_1 {Post : Tables → Env → Array Value → State → Outcome → State → Prop} (hpost : ∀ tb e args s v u, (limb_1_1.after args s (.returned v) u = true ∧ limb_1_2.after args s (.returned v) u = true ∧ True) → FrameEnd s (.returned v) u (Jvm.fieldLocs frame_1_writes args s ++ Jvm.arrayLocs frame_1_arrays args s ++ Jvm.staticLocs frame_1_statics s) 32 4224 → Post tb e args s (.returned v) u) :
    ArmFor flags0 classFile x code maxLocals ret World_1 tables_1 room_1 Calls_1 rest_1 Pre_1 Post := by
  intro l hfl _ _ p e ha hc hk s m args below hf hA hF happ hP
  obtain ⟨hcalls, hrest, hpre⟩ := hP
  obtain ⟨-, -, -, hnamed, -, -, -, hat⟩ := (Spec.applies_iff hf).mp happ
  obtain ⟨hg, hn⟩ := and_e (Cond.before_iff.mp (show (Jvm.Cond.and given_1 narrow_1).before args s = true from hpre))
  obtain ⟨hc0, hg⟩ := and_e hg
  obtain ⟨hk0, hg⟩ := and_e hg
  obtain ⟨hk1, hg⟩ := and_e hg
  obtain ⟨hk2, hg⟩ := and_e hg
  obtain ⟨hk3, hg⟩ := and_e hg
  have hk4 := hg
  obtain ⟨w0, w1, w2, w3, w4, rfl⟩ : ∃ w0 w1 w2 w3 w4 : Value, args = #[w0, w1, w2, w3, w4] := by
    have hs : args.size = 5 := by simpa [Cond.value, given_1] using hc0
    obtain ⟨L⟩ := args
    match L, hs with
    | [w0, w1, w2, w3, w4], _ => exact ⟨w0, w1, w2, w3, w4, rfl⟩
  have hw := fun d (hd : d ∈ tables_1) => atoms_spec (ws := Jvm.Cond.code x code maxLocals ret :: tables_1) hat d (List.mem_cons_of_mem _ hd)
  obtain ⟨i0, e0⟩ := is_v hk0
  obtain rfl : w0 = (.int i0) := Option.some.inj e0
  obtain ⟨i1, e1⟩ := isL_v hk1
  obtain rfl : w1 = (.long i1) := Option.some.inj e1
  obtain ⟨i2, e2⟩ := isL_v hk2
  obtain rfl : w2 = (.long i2) := Option.some.inj e2
  obtain ⟨i3, e3⟩ := isL_v hk3
  obtain rfl : w3 = (.long i3) := Option.some.inj e3
  obtain ⟨i4, e4⟩ := isL_v hk4
  obtain rfl : w4 = (.long i4) := Option.some.inj e4
  obtain ⟨n, o, h1, h2, h3, v, L, rfl, ⟨hv, -, N⟩, hq⟩ := rm_law l s _ hw i0 i1 i2 i3 i4 s.heap s.heap.size (Nat.le_refl _) tables_1 p e ha hc hk s m _ below hf ((Spec.applies_iff_loose hf).mp happ).1 ⟨rfl, State.Warmed39.refl s, rfl⟩ trivial
  obtain rfl : v = some (.int 1) := hv
  refine ⟨n, _, h1, h2, h3, hpost _ _ _ _ _ _ ⟨Cond.after_iff.mpr rfl, Cond.after_iff.mpr (eq_i res_at (Term.int_eval (1)) rfl), trivial⟩ ⟨hq.1, hq.2.1, (hq.2.2.sift fun y hy => Or.inr (N y hy)).mono (by decide) (by decide)⟩⟩
theorem main_1_1 : Claimed_1_1 := comes_1 fun _ _ _ _ _ _ h hF => ⟨h.1, hF⟩
theorem main_1_2 : Claimed_1_2 := comes_1 fun _ _ _ _ _ _ h hF => ⟨h.2.1, hF⟩
end Jvm.Pilot.@@N@@
namespace Jvm.Pilot.@@N@@
open Jvm Jvm.ClassFile Sem Op Lib Jvm.Free Jvm.Stand Jvm.Pilot.@@N@@.Jvm.D
/-! MADE BY PROGRAM (witnessworld.py) out of the Statement's table words and the real class files: 11 classes; the members and pool entries that the words name. The judged class is class 1, her method 1. -/
namespace start1
open Jvm.ClassFile
def u (s : String) : CpInfo := .utf8 (stringToUtf16 s)
/-- a pool by its gaps: so many unusable entries, then the entry; so many at the end -/
def gap : Nat → List CpInfo → List CpInfo
  | 0, r => r
  | n + 1, r => .unusable :: gap n r
def poolList (es : List (Nat × CpInfo)) (last : Nat) : List CpInfo := es.foldr (fun e r => gap e.1 (e.2 :: r)) (gap last [])
def pool (es : List (Nat × CpInfo)) (last : Nat) : Array CpInfo := ⟨poolList es last⟩
def fileOf (pool : Array CpInfo) (this : Nat) (attrs : Array Attribute := #[]) (ms : Array MethodInfo := #[]) (fl : Nat := 33) (sup : Nat := 0) (ifs : Array Nat := #[]) (fds : Array FieldInfo := #[]) : ClassFile where
  minorVersion := 0
  majorVersion := 65
  constantPool := pool
  accessFlags := fl
  thisClass := this
  superClass := sup
  interfaces := ifs
  fields := fds
  methods := ms
  attributes := attrs
def plain (name : String) (sup : Option ClassId) : Class where
  name := name
  kind := .ordinary
  loader := none
  accessFlags := 33
  super := sup
  interfaces := #[]
  cf := none
  fields := #[]
  methods := #[]
  instanceTypes := #[]
  staticTypes := #[]
  resolved := #[]
  callSites := []
  init := .initialized
  statics := none
  mirror := none

def pool0 : Array CpInfo := pool [(5, u "<init>"), (0, u "()V"), (1, .class_ 10), (1, u "java/lang/Object")] 113

def k0m0 : Method := { name := "<init>", desc := "()V", sig := { parameters := [], returnType := none }, accessFlags := 1, code := none }
/-- java/lang/Object -/
def k0 : Class := { plain "java/lang/Object" none with
  accessFlags := 33
  interfaces := #[]
  cf := some (fileOf pool0 8 #[] #[{ accessFlags := 1, nameIndex := 5, descriptorIndex := 6, attributes := #[] }] 33 0 #[] #[])
  fields := #[]
  methods := #[k0m0]
  instanceTypes := #[]
  staticTypes := #[]
  resolved := Array.replicate 124 none
  statics := none }

def pool1 : Array CpInfo := pool [(2, .class_ 4), (1, u "java/lang/Object"), (0, u "<init>"), (0, u "()V"), (0, .integer 2147483647), (0, .long 18446744073709551615), (1, .methodref 11 12), (0, .class_ 13), (0, .nameAndType 14 15), (0, u "com/example/text_to_fingerprint/texttofingerprint/service/PositionOrder"), (0, u "byKey"), (0, u "([JI)[I"), (0, .methodref 17 18), (0, .class_ 19), (0, .nameAndType 20 21), (0, u "com/example/text_to_fingerprint/texttofingerprint/service/PositionOrderByKeyPinLaw"), (0, u "rank"), (0, u "([JI)I"), (2, .long 9223372036854775808), (1, .methodref 17 27), (0, .nameAndType 28 29), (0, u "before"), (0, u "([JII)Z"), (2, u "law"), (0, u "(IJJJJ)Z")] 7

def k1m0 : Method := { name := "<init>", desc := "()V", sig := { parameters := [], returnType := none }, accessFlags := 1, code := none }
def k1c1 : Code := { maxStack := 6, maxLocals := 14, code := code, exceptionTable := #[], attributes := #[] }
def k1m1 : Method := { name := "law", desc := "(IJJJJ)Z", sig := { parameters := [.int, .long, .long, .long, .long], returnType := some .boolean }, accessFlags := 9, code := some k1c1 }
def k1c2 : Code := { maxStack := 4, maxLocals := 7, code := method_3_code, exceptionTable := #[], attributes := #[] }
def k1m2 : Method := { name := "before", desc := "([JII)Z", sig := { parameters := [(.array .long), .int, .int], returnType := some .boolean }, accessFlags := 10, code := some k1c2 }
def k1c3 : Code := { maxStack := 3, maxLocals := 3, code := method_4_code, exceptionTable := #[], attributes := #[] }
def k1m3 : Method := { name := "rank", desc := "([JI)I", sig := { parameters := [(.array .long), .int], returnType := some .int }, accessFlags := 10, code := some k1c3 }
/-- com/example/text_to_fingerprint/texttofingerprint/service/PositionOrderByKeyPinLaw -/
def k1 : Class := { plain "com/example/text_to_fingerprint/texttofingerprint/service/PositionOrderByKeyPinLaw" (some 0) with
  accessFlags := 49
  interfaces := #[]
  cf := some (fileOf pool1 17 #[] #[{ accessFlags := 1, nameIndex := 5, descriptorIndex := 6, attributes := #[] }, { accessFlags := 9, nameIndex := 32, descriptorIndex := 33, attributes := #[] }, { accessFlags := 10, nameIndex := 28, descriptorIndex := 29, attributes := #[] }, { accessFlags := 10, nameIndex := 20, descriptorIndex := 21, attributes := #[] }] 49 2 #[] #[])
  fields := #[]
  methods := #[k1m0, k1m1, k1m2, k1m3]
  instanceTypes := #[]
  staticTypes := #[]
  resolved := Array.replicate 41 none
  statics := none }

def pool2 : Array CpInfo := pool [(3, .class_ 4), (0, u "com/example/text_to_fingerprint/texttofingerprint/service/PositionOrder"), (1, .class_ 8), (1, u "java/lang/Object"), (0, u "<init>"), (0, u "()V"), (0, .methodref 3 12), (0, .nameAndType 13 14), (0, u "digit"), (0, u "(JI)I"), (0, u "RADIX_BITS"), (0, u "I"), (2, u "RADIX"), (3, u "byKey"), (0, u "([JI)[I")] 7

def k2m0 : Method := { name := "<init>", desc := "()V", sig := { parameters := [], returnType := none }, accessFlags := 2, code := none }
def k2c1 : Code := { maxStack := 6, maxLocals := 10, code := prog_29_method_2_code, exceptionTable := #[], attributes := #[] }
def k2m1 : Method := { name := "byKey", desc := "([JI)[I", sig := { parameters := [(.array .long), .int], returnType := some (.array .int) }, accessFlags := 8, code := some k2c1 }
def k2c2 : Code := { maxStack := 3, maxLocals := 3, code := prog_29_method_3_code, exceptionTable := #[], attributes := #[] }
def k2m2 : Method := { name := "digit", desc := "(JI)I", sig := { parameters := [.long, .int], returnType := some .int }, accessFlags := 10, code := some k2c2 }
/-- com/example/text_to_fingerprint/texttofingerprint/service/PositionOrder -/
def k2 : Class := { plain "com/example/text_to_fingerprint/texttofingerprint/service/PositionOrder" (some 0) with
  accessFlags := 48
  interfaces := #[]
  cf := some (fileOf pool2 3 #[] #[{ accessFlags := 2, nameIndex := 9, descriptorIndex := 10, attributes := #[] }, { accessFlags := 8, nameIndex := 23, descriptorIndex := 24, attributes := #[] }, { accessFlags := 10, nameIndex := 13, descriptorIndex := 14, attributes := #[] }] 48 6 #[] #[{ accessFlags := 26, nameIndex := 15, descriptorIndex := 16, attributes := #[] }, { accessFlags := 26, nameIndex := 19, descriptorIndex := 16, attributes := #[] }])
  fields := #[{ name := "RADIX_BITS", type := .int, accessFlags := 26, slot := 0, constantValue := 0 }, { name := "RADIX", type := .int, accessFlags := 26, slot := 1, constantValue := 0 }]
  methods := #[k2m0, k2m1, k2m2]
  instanceTypes := #[]
  staticTypes := #[.int, .int]
  resolved := Array.replicate 32 none
  statics := none }

def pool3 : Array CpInfo := pool [(1, u "java/lang/Cloneable"), (0, .class_ 1), (0, u "java/lang/Object"), (0, .class_ 3)] 3

/-- java/lang/Cloneable -/
def k3 : Class := { plain "java/lang/Cloneable" (some 0) with
  accessFlags := 1537
  interfaces := #[]
  cf := some (fileOf pool3 2 #[] #[] 1537 4 #[] #[])
  fields := #[]
  methods := #[]
  instanceTypes := #[]
  staticTypes := #[]
  resolved := Array.replicate 8 none
  statics := none }

def pool4 : Array CpInfo := pool [(1, u "java/io/Serializable"), (0, .class_ 1), (0, u "java/lang/Object"), (0, .class_ 3)] 3

/-- java/io/Serializable -/
def k4 : Class := { plain "java/io/Serializable" (some 0) with
  accessFlags := 1537
  interfaces := #[]
  cf := some (fileOf pool4 2 #[] #[] 1537 4 #[] #[])
  fields := #[]
  methods := #[]
  instanceTypes := #[]
  staticTypes := #[]
  resolved := Array.replicate 8 none
  statics := none }

/-- the primitive byte -/
def k5 : Class := { plain "byte" none with kind := .primitive 'B', accessFlags := 0x411 }
/-- [B -/
def k6 : Class := { plain "[B" (some 0) with kind := .array 5 .byte, interfaces := #[3, 4], accessFlags := 1041 }

/-- the primitive int -/
def k7 : Class := { plain "int" none with kind := .primitive 'I', accessFlags := 0x411 }
/-- [I -/
def k8 : Class := { plain "[I" (some 0) with kind := .array 7 .int, interfaces := #[3, 4], accessFlags := 1041 }

/-- the primitive long -/
def k9 : Class := { plain "long" none with kind := .primitive 'J', accessFlags := 0x411 }
/-- [J -/
def k10 : Class := { plain "[J" (some 0) with kind := .array 9 .long, interfaces := #[3, 4], accessFlags := 1041 }

def heap : Heap := #[]
def classes : Array Class := #[k0, k1, k2, k3, k4, k5, k6, k7, k8, k9, k10]
def interned : List (Array UInt16 × Addr) := []
def slotsUsed : Nat := 0
def theMethod : MethodId := ⟨1, 1⟩
def args0 : Array Value := #[.int 5, .long 9, .long 3, .long 2, .long 2]
def aboutOver (below : List Frame) : State where
  vm := { classes := classes, interned := interned.toArray }
  heap := heap
  slotsUsed := slotsUsed
  threads := #[{ frames := .invoking theMethod args0 :: below }]
def below0 : List Frame := [.native { method := ⟨0, 0⟩, args := #[] }]
def about1 : State := aboutOver below0
def p0 : Program := .bare "" "" ""
def e0 : Env := launch0.env 0 0 0
theorem w_frames : about1.frames = Frame.invoking theMethod args0 :: below0 := rfl
set_option maxRecDepth 65536 in
theorem w_args : argsFit about1.vm theMethod args0 = true := by decide +kernel
set_option maxRecDepth 65536 in
theorem w_heap : heapFits about1 = true := by decide +kernel
set_option maxRecDepth 65536 in
theorem w_runnable : about1.curStatus? = some .runnable := by decide +kernel
set_option maxRecDepth 65536 in
theorem w_alone : about1.alone = true := by decide +kernel
set_option maxRecDepth 65536 in
theorem w_named : about1.methodNamed? x = some theMethod := by decide +kernel
set_option maxRecDepth 65536 in
theorem w_hears : about1.hears theMethod below0 = true := by decide +kernel
set_option maxRecDepth 65536 in
theorem w_ripe : about1.ripe theMethod args0 below0 = true := by decide +kernel
theorem w_running : about1.status = .running := rfl
set_option maxRecDepth 65536 in
theorem w_room : about1.hasRoom e0.platform room_1 = true :=
  launch0.hasRoom_least _ room_1 (by decide +kernel) (by decide +kernel) (by decide +kernel) (by decide +kernel) (by decide +kernel) (by decide +kernel)
theorem allAtoms_all (ts : List Jvm.Cond) (a : Array Jvm.Value) (st : Jvm.State) : (allAtoms ts).before a st = ts.all (fun c => c.before a st) := by
  induction ts with
  | nil => rfl
  | cons c t ih =>
    show (Jvm.Cond.and c (allAtoms t)).before a st = _
    rw [Jvm.Cond.before_and, ih, List.all_cons]
def words1 : List Jvm.Cond := Jvm.Cond.code x code maxLocals ret :: tables_1
/-- a 'code' word, met by the world's own term for the bytes: nothing is compared byte by byte -/
theorem code_word {y : MethodName} {bytes : ByteArray} {mx : Nat} {rt : Option FieldType} {a : Array Value} {s : State} {m : MethodId} {meth : Method} {c : Code} (h1 : s.methodNamed? y = some m) (h2 : s.vm.method? m = some meth) (h3 : meth.code = some c) (h4 : c.code = bytes)
    (h5 : (c.maxLocals == mx && c.exceptionTable.isEmpty && decide (c.maxStack ≤ mostOperands) && decide (meth.sig.returnType = rt) && !meth.locks && decide (parseMethodDescriptor y.desc = some meth.sig)) = true) : (Jvm.Cond.code y bytes mx rt).before a s = true := by
  simp only [Bool.and_eq_true, beq_iff_eq, Bool.not_eq_true', decide_eq_true_eq] at h5
  obtain ⟨⟨⟨⟨⟨g1, g2⟩, g3⟩, g4⟩, g5⟩, g6⟩ := h5
  simp [Cond.before, Cond.holds, Cond.value, h1, h2, h3, h4, g1, g2, g3, g4, g5, g6]
def isCode : Jvm.Cond → Bool
  | .code _ _ _ _ => true
  | _ => false
theorem all_split {L : List Jvm.Cond} {P : Jvm.Cond → Bool} (h1 : L.all (fun c => isCode c || P c) = true) (h2 : ∀ c ∈ L.filter isCode, P c = true) : L.all P = true := by
  refine List.all_eq_true.mpr fun c hc => ?_
  have h := List.all_eq_true.mp h1 c hc
  rcases Bool.eq_false_or_eq_true (isCode c) with hi | hi
  · exact h2 c (List.mem_filter.mpr ⟨hc, hi⟩)
  · simpa [hi] using h
set_option maxRecDepth 65536 in
theorem w_c0 : (Jvm.Cond.code x code maxLocals ret).before args0 about1 = true := code_word (m := ⟨1, 1⟩) (meth := k1m1) (c := k1c1) (by decide +kernel) rfl rfl rfl (by decide +kernel)
set_option maxRecDepth 65536 in
theorem w_c1 : (Jvm.Cond.code ({ cls := "com/example/text_to_fingerprint/texttofingerprint/service/PositionOrder", name := "byKey", desc := "([JI)[I" } : Jvm.MethodName) prog_29_method_2_code (10 : Nat) (Option.some (Jvm.ClassFile.FieldType.array Jvm.ClassFile.FieldType.int))).before args0 about1 = true := code_word (m := ⟨2, 1⟩) (meth := k2m1) (c := k2c1) (by decide +kernel) rfl rfl rfl (by decide +kernel)
set_option maxRecDepth 65536 in
theorem w_c2 : (Jvm.Cond.code ({ cls := "com/example/text_to_fingerprint/texttofingerprint/service/PositionOrderByKeyPinLaw", name := "rank", desc := "([JI)I" } : Jvm.MethodName) method_4_code (3 : Nat) (Option.some Jvm.ClassFile.FieldType.int)).before args0 about1 = true := code_word (m := ⟨1, 3⟩) (meth := k1m3) (c := k1c3) (by decide +kernel) rfl rfl rfl (by decide +kernel)
set_option maxRecDepth 65536 in
theorem w_c3 : (Jvm.Cond.code ({ cls := "com/example/text_to_fingerprint/texttofingerprint/service/PositionOrderByKeyPinLaw", name := "before", desc := "([JII)Z" } : Jvm.MethodName) method_3_code (7 : Nat) (Option.some Jvm.ClassFile.FieldType.boolean)).before args0 about1 = true := code_word (m := ⟨1, 2⟩) (meth := k1m2) (c := k1c2) (by decide +kernel) rfl rfl rfl (by decide +kernel)
set_option maxRecDepth 65536 in
theorem w_c4 : (Jvm.Cond.code ({ cls := "com/example/text_to_fingerprint/texttofingerprint/service/PositionOrder", name := "digit", desc := "(JI)I" } : Jvm.MethodName) prog_29_method_3_code (3 : Nat) (Option.some Jvm.ClassFile.FieldType.int)).before args0 about1 = true := code_word (m := ⟨2, 2⟩) (meth := k2m2) (c := k2c2) (by decide +kernel) rfl rfl rfl (by decide +kernel)
def codes1 : List Jvm.Cond := [Jvm.Cond.code x code maxLocals ret, Jvm.Cond.code ({ cls := "com/example/text_to_fingerprint/texttofingerprint/service/PositionOrder", name := "byKey", desc := "([JI)[I" } : Jvm.MethodName) prog_29_method_2_code (10 : Nat) (Option.some (Jvm.ClassFile.FieldType.array Jvm.ClassFile.FieldType.int)), Jvm.Cond.code ({ cls := "com/example/text_to_fingerprint/texttofingerprint/service/PositionOrderByKeyPinLaw", name := "rank", desc := "([JI)I" } : Jvm.MethodName) method_4_code (3 : Nat) (Option.some Jvm.ClassFile.FieldType.int), Jvm.Cond.code ({ cls := "com/example/text_to_fingerprint/texttofingerprint/service/PositionOrderByKeyPinLaw", name := "before", desc := "([JII)Z" } : Jvm.MethodName) method_3_code (7 : Nat) (Option.some Jvm.ClassFile.FieldType.boolean), Jvm.Cond.code ({ cls := "com/example/text_to_fingerprint/texttofingerprint/service/PositionOrder", name := "digit", desc := "(JI)I" } : Jvm.MethodName) prog_29_method_3_code (3 : Nat) (Option.some Jvm.ClassFile.FieldType.int)]
set_option maxRecDepth 65536 in
theorem codes_eq : words1.filter isCode = codes1 := rfl
theorem w_codes : ∀ c ∈ words1.filter isCode, c.before args0 about1 = true := by
  rw [codes_eq]
  intro c hc
  simp only [codes1, List.mem_cons, List.not_mem_nil, or_false] at hc
  rcases hc with rfl | rfl | rfl | rfl | rfl
  · exact w_c0
  · exact w_c1
  · exact w_c2
  · exact w_c3
  · exact w_c4
set_option maxRecDepth 65536 in
theorem w_t1 : words1.all (fun c => isCode c || c.before args0 about1) = true := by decide +kernel
theorem w_tables : (allAtoms (Jvm.Cond.code x code maxLocals ret :: tables_1)).before args0 about1 = true := by
  rw [allAtoms_all]
  show words1.all (fun c => c.before args0 about1) = true
  refine all_split ?_ w_codes
  rw [w_t1]
set_option maxRecDepth 65536 in
theorem w_case : (Jvm.Cond.and given_1 narrow_1).before args0 about1 = true := by decide +kernel
theorem w_applies : (headSpec (Jvm.Cond.code x code maxLocals ret :: tables_1) room_1).applies x e0.platform about1 = true :=
  (Spec.applies_iff w_frames).mpr ⟨w_running, w_runnable, w_alone, w_named, w_hears, w_ripe, w_room, w_tables⟩
theorem atStart : AtStart classFile x code maxLocals ret World_1 tables_1 room_1 Calls_1 rest_1 Pre_1 launch0 p0 e0 about1 theMethod args0 below0 :=
  ⟨lists_1, trivial, launch0.admits_env _ _ _, launch0.least_env, fairChoices_fair.cas, fairChoices_fair.clock, w_frames, w_args, w_heap, w_applies, trivial, trivial, w_case⟩
end start1
theorem witness_1 : WitnessClaimed_1 := ⟨start1.p0, start1.e0, start1.about1, start1.theMethod, start1.args0, start1.below0, start1.atStart⟩
end Jvm.Pilot.@@N@@
