import JvmDerived
import JvmDerived.Pilot.@@N@@Statement
import JvmDerived.Pilot.@@N@@Code
set_option linter.unusedVariables false
set_option linter.unusedSimpArgs false
namespace Jvm.Pilot.@@N@@
open Jvm Jvm.ClassFile Sem Op Lib Jvm.Free Jvm.Stand Jvm.LawKit Jvm.RoadKit Bundle Jvm.Pilot.@@N@@.Jvm.D

/-! THE OWN LAYER. 1. Straight roads by evaluation: an instruction, its length, the int that it brings, where a goto leads -/
abbrev El := Instr × Nat × Int32 × Nat
def okc (i : Instr) (n : Nat) (k : Int32) (t pc : Nat) : Bool :=
  match i with
  | .iload _ => n == 2
  | .lload _ => n == 2
  | .aload _ => n == 2
  | .istore _ => n == 2
  | .lstore _ => n == 2
  | .astore _ => n == 2
  | .bipush j => n == 2 && decide ((Int8.ofInt j).toInt32 = k)
  | .sipush j => n == 3 && decide ((Int16.ofInt j).toInt32 = k)
  | .iconst j => n == 1 && decide (Int32.ofInt j = k)
  | .iinc _ j => n == 3 && decide (Int32.ofInt j = k)
  | .goto o => n == 3 && (decide (0 ≤ (pc : Int) + o) && decide (((pc : Int) + o).toNat = t))
  | .ldc _ => n == 2
  | .ldc2_w _ => n == 3
  | _ => n == 1
def nx (i : Instr) (n t pc : Nat) : Nat := match i with | .goto _ => t | _ => pc + n
def Dec (b : ByteArray) : List El → Nat → Nat → Bool
  | [], pc, pc' => pc == pc'
  | (i, n, k, t) :: L, pc, pc' => decide (decode b pc = .ok (i, n)) && (okc i n k t pc && Dec b L (nx i n t pc) pc')
def own_look {α : Type} : List (Nat × α) → Nat → Option α
  | [], _ => none
  | q :: r, i => if i = q.1 then some q.2 else own_look r i
theorem own_look_mem {α : Type} : ∀ (L : List (Nat × α)) (i : Nat) (v : α), own_look L i = some v → (i, v) ∈ L
  | [], _, _, h => nomatch h
  | q :: r, i, v, h => by
    unfold own_look at h
    split at h
    · rename_i e; cases h; subst e; exact List.mem_cons_self ..
    · exact List.mem_cons_of_mem _ (own_look_mem r i v h)
def pV (KI : List (Nat × Int32)) (KJ : List (Nat × Int64)) (i : Instr) (k : Int32) (ls : Array Slot) (st : List Value) : Option (Array Slot × List Value) :=
  match i with
  | .iload_n a => match ls[a.val]? with | some (.val (.int v)) => some (ls, .int v :: st) | _ => none
  | .iload a => match ls[a]? with | some (.val (.int v)) => some (ls, .int v :: st) | _ => none
  | .lload_n a => match ls[a.val]? with | some (.val (.long v)) => some (ls, .long v :: st) | _ => none
  | .lload a => match ls[a]? with | some (.val (.long v)) => some (ls, .long v :: st) | _ => none
  | .aload_n a => match ls[a.val]? with | some (.val (.ref v)) => some (ls, .ref v :: st) | some (.val .null) => some (ls, .null :: st) | _ => none
  | .aload a => match ls[a]? with | some (.val (.ref v)) => some (ls, .ref v :: st) | some (.val .null) => some (ls, .null :: st) | _ => none
  | .istore_n a => match st with | .int x :: r => (match storeLocals ls a.val (.int x) with | some l2 => some (l2, r) | none => none) | _ => none
  | .istore a => match st with | .int x :: r => (match storeLocals ls a (.int x) with | some l2 => some (l2, r) | none => none) | _ => none
  | .lstore_n a => match st with | .long x :: r => (match storeLocals ls a.val (.long x) with | some l2 => some (l2, r) | none => none) | _ => none
  | .lstore a => match st with | .long x :: r => (match storeLocals ls a (.long x) with | some l2 => some (l2, r) | none => none) | _ => none
  | .astore_n a => match st with | .ref x :: r => (match storeLocals ls a.val (.ref x) with | some l2 => some (l2, r) | none => none) | .null :: r => (match storeLocals ls a.val .null with | some l2 => some (l2, r) | none => none) | _ => none
  | .astore a => match st with | .ref x :: r => (match storeLocals ls a (.ref x) with | some l2 => some (l2, r) | none => none) | .null :: r => (match storeLocals ls a .null with | some l2 => some (l2, r) | none => none) | _ => none
  | .iconst j => some (ls, .int k :: st)
  | .bipush j => some (ls, .int k :: st)
  | .sipush j => some (ls, .int k :: st)
  | .lconst j => match j with | 0 => some (ls, .long 0 :: st) | 1 => some (ls, .long 1 :: st)
  | .aconst_null => some (ls, .null :: st)
  | .iadd => match st with | .int y :: .int x :: r => some (ls, .int (x + y) :: r) | _ => none
  | .isub => match st with | .int y :: .int x :: r => some (ls, .int (x - y) :: r) | _ => none
  | .imul => match st with | .int y :: .int x :: r => some (ls, .int (x * y) :: r) | _ => none
  | .iand => match st with | .int y :: .int x :: r => some (ls, .int (x &&& y) :: r) | _ => none
  | .ior => match st with | .int y :: .int x :: r => some (ls, .int (x ||| y) :: r) | _ => none
  | .ixor => match st with | .int y :: .int x :: r => some (ls, .int (x ^^^ y) :: r) | _ => none
  | .ishl => match st with | .int y :: .int x :: r => some (ls, .int (x <<< (y &&& 31)) :: r) | _ => none
  | .ishr => match st with | .int y :: .int x :: r => some (ls, .int (x >>> (y &&& 31)) :: r) | _ => none
  | .iushr => match st with | .int y :: .int x :: r => some (ls, .int (XT.ushr x y) :: r) | _ => none
  | .ladd => match st with | .long y :: .long x :: r => some (ls, .long (x + y) :: r) | _ => none
  | .lsub => match st with | .long y :: .long x :: r => some (ls, .long (x - y) :: r) | _ => none
  | .lmul => match st with | .long y :: .long x :: r => some (ls, .long (x * y) :: r) | _ => none
  | .land => match st with | .long y :: .long x :: r => some (ls, .long (x &&& y) :: r) | _ => none
  | .lor => match st with | .long y :: .long x :: r => some (ls, .long (x ||| y) :: r) | _ => none
  | .lxor => match st with | .long y :: .long x :: r => some (ls, .long (x ^^^ y) :: r) | _ => none
  | .lshl => match st with | .int y :: .long x :: r => some (ls, .long (x <<< (y.toInt64 &&& 63)) :: r) | _ => none
  | .lushr => match st with | .int y :: .long x :: r => some (ls, .long (XT.ushrL x y) :: r) | _ => none
  | .lshr => match st with | .int y :: .long x :: r => some (ls, .long (x >>> (y.toInt64 &&& 63)) :: r) | _ => none
  | .ineg => match st with | .int x :: r => some (ls, .int (-x) :: r) | _ => none
  | .lneg => match st with | .long x :: r => some (ls, .long (-x) :: r) | _ => none
  | .i2l => match st with | .int x :: r => some (ls, .long x.toInt64 :: r) | _ => none
  | .l2i => match st with | .long x :: r => some (ls, .int x.toInt32 :: r) | _ => none
  | .i2b => match st with | .int x :: r => some (ls, .int x.toInt8.toInt32 :: r) | _ => none
  | .i2s => match st with | .int x :: r => some (ls, .int x.toInt16.toInt32 :: r) | _ => none
  | .dup => match st with | .int x :: r => some (ls, .int x :: .int x :: r) | .ref x :: r => some (ls, .ref x :: .ref x :: r) | _ => none
  | .dup2 => match st with | .int x :: .ref y :: r => some (ls, .int x :: .ref y :: .int x :: .ref y :: r) | .long x :: r => some (ls, .long x :: .long x :: r) | _ => none
  | .dup_x2 => match st with | .int x :: .int y :: .ref z :: r => some (ls, .int x :: .int y :: .ref z :: .int x :: r) | _ => none
  | .goto o => some (ls, st)
  | .iinc a j => match ls[a]? with | some (.val (.int v)) => (match storeLocals ls a (.int (v + k)) with | some l2 => some (l2, st) | none => none) | _ => none
  | .ldc a => match own_look KI a with | some v => some (ls, .int v :: st) | none => none
  | .ldc2_w a => match own_look KJ a with | some v => some (ls, .long v :: st) | none => none
  | _ => none
def prun (KI : List (Nat × Int32)) (KJ : List (Nat × Int64)) : List El → Array Slot → List Value → Option (Array Slot × List Value)
  | [], ls, st => some (ls, st)
  | (i, _, k, _) :: L, ls, st => match pV KI KJ i k ls st with | some (l2, s2) => prun KI KJ L l2 s2 | none => none
theorem own_dupX2 {tb : Tables} [Ours tb] {e : Env} {below : List Frame} {T target : State} {m : MethodId} {c : Code} {g : JFrame} (h : At T m c below) (hx : tb.exec = Jvm.exec) (hg : g.method = m) {x y z : Value} {rest : List Value} (hd : decode c.code g.pc = .ok (.dup_x2, 1)) (hs : g.stack = x :: y :: z :: rest) (h1 : x.category = 1) (h2 : y.category = 1) (h3 : z.category = 1)
    (hr : Steps tb e below (T.setTop { g with pc := g.pc + 1, stack := x :: y :: z :: x :: rest }) target) : Steps tb e below (T.setTop g) target := by
  subst hg
  jvm_step h [h.top, hx, hd, hs, h1, h2, h3, dup_x2.wp_sem]
  exact hr
section OwnSteps
variable {p : Program} {l : Launch} {e : Env} {R : Room} {s : State} {m : MethodId} {args : Array Value} {below : List Frame} {meth : Method} {c : Code} {T : State} {locs : List Loc} {cells slots : Nat} {Z : State} {a0 : Array Value} {own : String} {KI : List (Nat × Int32)} {KJ : List (Nat × Int64)}
set_option maxHeartbeats 4000000 in
theorem pV_ok (X : Stand p l e R s m args below meth c T locs cells slots) (hx : p.tables.exec = Jvm.exec) (hZ : Z.Warmed39 s.vm) (hown : s.vm.findClass own = some m.cls) (hKI : ∀ q ∈ KI, (Jvm.Cond.constant own q.1 q.2).before a0 Z = true) (hKJ : ∀ q ∈ KJ, (Jvm.Cond.constantLong own q.1 q.2).before a0 Z = true)
    {pc n t : Nat} {i : Instr} {k : Int32} {ls ls' : Array Slot} {st st' : List Value} (hd : decode c.code pc = .ok (i, n)) (ho : okc i n k t pc = true) (h : pV KI KJ i k ls st = some (ls', st')) {target : State}
    (hr : Steps p.tables e below (T.setTop (mkF m (nx i n t pc) ls' st')) target) : Steps p.tables e below (T.setTop (mkF m pc ls st)) target := by
  cases i
  case iload_n a =>
    simp only [okc, beq_iff_eq] at ho
    subst ho
    simp only [pV] at h
    split at h
    · cases h
      exact XS.iloadN X.here hx rfl hd (by assumption) hr
    · cases h
  case iload a =>
    simp only [okc, beq_iff_eq] at ho
    subst ho
    simp only [pV] at h
    split at h
    · cases h
      exact XS.iload X.here hx rfl hd (by assumption) hr
    · cases h
  case lload_n a =>
    simp only [okc, beq_iff_eq] at ho
    subst ho
    simp only [pV] at h
    split at h
    · cases h
      exact XT.lloadN X.here hx rfl hd (by assumption) hr
    · cases h
  case lload a =>
    simp only [okc, beq_iff_eq] at ho
    subst ho
    simp only [pV] at h
    split at h
    · cases h
      exact XT.lload X.here hx rfl hd (by assumption) hr
    · cases h
  case aload_n a =>
    simp only [okc, beq_iff_eq] at ho
    subst ho
    simp only [pV] at h
    split at h
    · cases h
      exact XS.aloadN X.here hx rfl hd (by assumption) rfl hr
    · cases h
      exact XS.aloadN X.here hx rfl hd (by assumption) rfl hr
    · cases h
  case aload a =>
    simp only [okc, beq_iff_eq] at ho
    subst ho
    simp only [pV] at h
    split at h
    · cases h
      exact XS.aload X.here hx rfl hd (by assumption) rfl hr
    · cases h
      exact XS.aload X.here hx rfl hd (by assumption) rfl hr
    · cases h
  case istore_n a =>
    simp only [okc, beq_iff_eq] at ho
    subst ho
    simp only [pV] at h
    split at h
    · split at h
      · cases h
        exact XS.istoreN X.here hx rfl hd rfl (by assumption) hr
      · cases h
    · cases h
  case istore a =>
    simp only [okc, beq_iff_eq] at ho
    subst ho
    simp only [pV] at h
    split at h
    · split at h
      · cases h
        exact XS.istore X.here hx rfl hd rfl (by assumption) hr
      · cases h
    · cases h
  case lstore_n a =>
    simp only [okc, beq_iff_eq] at ho
    subst ho
    simp only [pV] at h
    split at h
    · split at h
      · cases h
        exact XT.lstoreN X.here hx rfl hd rfl (by assumption) hr
      · cases h
    · cases h
  case lstore a =>
    simp only [okc, beq_iff_eq] at ho
    subst ho
    simp only [pV] at h
    split at h
    · split at h
      · cases h
        exact XT.lstore X.here hx rfl hd rfl (by assumption) hr
      · cases h
    · cases h
  case astore_n a =>
    simp only [okc, beq_iff_eq] at ho
    subst ho
    simp only [pV] at h
    split at h
    · split at h
      · cases h
        exact XS.astoreN X.here hx rfl hd rfl rfl (by assumption) hr
      · cases h
    · split at h
      · cases h
        exact XS.astoreN X.here hx rfl hd rfl rfl (by assumption) hr
      · cases h
    · cases h
  case astore a =>
    simp only [okc, beq_iff_eq] at ho
    subst ho
    simp only [pV] at h
    split at h
    · split at h
      · cases h
        exact XS.astore X.here hx rfl hd rfl rfl (by assumption) hr
      · cases h
    · split at h
      · cases h
        exact XS.astore X.here hx rfl hd rfl rfl (by assumption) hr
      · cases h
    · cases h
  case iconst j =>
    simp only [okc, Bool.and_eq_true, beq_iff_eq, decide_eq_true_eq] at ho
    obtain ⟨rfl, rfl⟩ := ho
    simp only [pV] at h
    cases h
    exact XS.iconst X.here hx rfl hd hr
  case bipush j =>
    simp only [okc, Bool.and_eq_true, beq_iff_eq, decide_eq_true_eq] at ho
    obtain ⟨rfl, rfl⟩ := ho
    simp only [pV] at h
    cases h
    exact XS.bipush X.here hx rfl hd hr
  case sipush j =>
    simp only [okc, Bool.and_eq_true, beq_iff_eq, decide_eq_true_eq] at ho
    obtain ⟨rfl, rfl⟩ := ho
    simp only [pV] at h
    cases h
    exact XS.sipush X.here hx rfl hd hr
  case lconst j =>
    simp only [okc, beq_iff_eq] at ho
    subst ho
    simp only [pV] at h
    split at h
    · cases h
      exact XT.lconst X.here hx rfl hd hr
    · cases h
      exact XT.lconst X.here hx rfl hd hr
  case aconst_null =>
    simp only [okc, beq_iff_eq] at ho
    subst ho
    simp only [pV] at h
    cases h
    exact XS.aconstNull X.here hx rfl hd hr
  case iadd =>
    simp only [okc, beq_iff_eq] at ho
    subst ho
    simp only [pV] at h
    split at h
    · cases h
      exact XS.iadd X.here hx rfl hd rfl hr
    · cases h
  case isub =>
    simp only [okc, beq_iff_eq] at ho
    subst ho
    simp only [pV] at h
    split at h
    · cases h
      exact XS.isub X.here hx rfl hd rfl hr
    · cases h
  case imul =>
    simp only [okc, beq_iff_eq] at ho
    subst ho
    simp only [pV] at h
    split at h
    · cases h
      exact XS.imul X.here hx rfl hd rfl hr
    · cases h
  case iand =>
    simp only [okc, beq_iff_eq] at ho
    subst ho
    simp only [pV] at h
    split at h
    · cases h
      exact XS.iand X.here hx rfl hd rfl hr
    · cases h
  case ior =>
    simp only [okc, beq_iff_eq] at ho
    subst ho
    simp only [pV] at h
    split at h
    · cases h
      exact XT.ior X.here hx rfl hd rfl hr
    · cases h
  case ixor =>
    simp only [okc, beq_iff_eq] at ho
    subst ho
    simp only [pV] at h
    split at h
    · cases h
      exact XT.ixor X.here hx rfl hd rfl hr
    · cases h
  case ishl =>
    simp only [okc, beq_iff_eq] at ho
    subst ho
    simp only [pV] at h
    split at h
    · cases h
      exact XT.ishl X.here hx rfl hd rfl hr
    · cases h
  case ishr =>
    simp only [okc, beq_iff_eq] at ho
    subst ho
    simp only [pV] at h
    split at h
    · cases h
      exact XT.ishr X.here hx rfl hd rfl hr
    · cases h
  case iushr =>
    simp only [okc, beq_iff_eq] at ho
    subst ho
    simp only [pV] at h
    split at h
    · cases h
      exact XT.iushr X.here hx rfl hd rfl hr
    · cases h
  case ladd =>
    simp only [okc, beq_iff_eq] at ho
    subst ho
    simp only [pV] at h
    split at h
    · cases h
      exact XT.ladd X.here hx rfl hd rfl hr
    · cases h
  case lsub =>
    simp only [okc, beq_iff_eq] at ho
    subst ho
    simp only [pV] at h
    split at h
    · cases h
      exact XT.lsub X.here hx rfl hd rfl hr
    · cases h
  case lmul =>
    simp only [okc, beq_iff_eq] at ho
    subst ho
    simp only [pV] at h
    split at h
    · cases h
      exact XT.lmul X.here hx rfl hd rfl hr
    · cases h
  case land =>
    simp only [okc, beq_iff_eq] at ho
    subst ho
    simp only [pV] at h
    split at h
    · cases h
      exact XT.land X.here hx rfl hd rfl hr
    · cases h
  case lor =>
    simp only [okc, beq_iff_eq] at ho
    subst ho
    simp only [pV] at h
    split at h
    · cases h
      exact XT.lor X.here hx rfl hd rfl hr
    · cases h
  case lxor =>
    simp only [okc, beq_iff_eq] at ho
    subst ho
    simp only [pV] at h
    split at h
    · cases h
      exact XT.lxor X.here hx rfl hd rfl hr
    · cases h
  case lshl =>
    simp only [okc, beq_iff_eq] at ho
    subst ho
    simp only [pV] at h
    split at h
    · cases h
      exact XT.lshl X.here hx rfl hd rfl hr
    · cases h
  case lushr =>
    simp only [okc, beq_iff_eq] at ho
    subst ho
    simp only [pV] at h
    split at h
    · cases h
      exact XT.lushr X.here hx rfl hd rfl hr
    · cases h
  case lshr =>
    simp only [okc, beq_iff_eq] at ho
    subst ho
    simp only [pV] at h
    split at h
    · cases h
      exact XT.lshr X.here hx rfl hd rfl hr
    · cases h
  case ineg =>
    simp only [okc, beq_iff_eq] at ho
    subst ho
    simp only [pV] at h
    split at h
    · cases h
      exact XS.ineg X.here hx rfl hd rfl hr
    · cases h
  case lneg =>
    simp only [okc, beq_iff_eq] at ho
    subst ho
    simp only [pV] at h
    split at h
    · cases h
      exact XT.lneg X.here hx rfl hd rfl hr
    · cases h
  case i2l =>
    simp only [okc, beq_iff_eq] at ho
    subst ho
    simp only [pV] at h
    split at h
    · cases h
      exact XT.i2l X.here hx rfl hd rfl hr
    · cases h
  case l2i =>
    simp only [okc, beq_iff_eq] at ho
    subst ho
    simp only [pV] at h
    split at h
    · cases h
      exact XT.l2i X.here hx rfl hd rfl hr
    · cases h
  case i2b =>
    simp only [okc, beq_iff_eq] at ho
    subst ho
    simp only [pV] at h
    split at h
    · cases h
      exact XT.i2b X.here hx rfl hd rfl hr
    · cases h
  case i2s =>
    simp only [okc, beq_iff_eq] at ho
    subst ho
    simp only [pV] at h
    split at h
    · cases h
      exact XT.i2s X.here hx rfl hd rfl hr
    · cases h
  case dup =>
    simp only [okc, beq_iff_eq] at ho
    subst ho
    simp only [pV] at h
    split at h
    · cases h
      exact XS.dup X.here hx rfl hd rfl rfl hr
    · cases h
      exact XS.dup X.here hx rfl hd rfl rfl hr
    · cases h
  case dup2 =>
    simp only [okc, beq_iff_eq] at ho
    subst ho
    simp only [pV] at h
    split at h
    · cases h
      exact XT.dup2 X.here hx rfl hd rfl rfl rfl hr
    · cases h
      exact XT.dup2L X.here hx rfl hd rfl hr
    · cases h
  case dup_x2 =>
    simp only [okc, beq_iff_eq] at ho
    subst ho
    simp only [pV] at h
    split at h
    · cases h
      exact own_dupX2 X.here hx rfl hd rfl rfl rfl rfl hr
    · cases h
  case goto o =>
    simp only [okc, Bool.and_eq_true, beq_iff_eq, decide_eq_true_eq] at ho
    obtain ⟨rfl, h1, h2⟩ := ho
    simp only [pV] at h
    cases h
    exact XS.goto X.here hx rfl (pc0 := pc) (pc' := t) rfl hd h1 h2 hr
  case iinc a j =>
    simp only [okc, Bool.and_eq_true, beq_iff_eq, decide_eq_true_eq] at ho
    obtain ⟨rfl, rfl⟩ := ho
    simp only [pV] at h
    split at h
    · split at h
      · cases h
        exact XS.iinc X.here hx rfl hd (by assumption) (by assumption) hr
      · cases h
    · cases h
  case ldc a =>
    simp only [okc, beq_iff_eq] at ho
    subst ho
    simp only [pV] at h
    split at h
    · rename_i v q
      cases h
      exact X.ldcInt hx hown (mv hZ (hKI _ (own_look_mem _ _ _ q))) (g := mkF m pc ls st) rfl hd _ hr
    · cases h
  case ldc2_w a =>
    simp only [okc, beq_iff_eq] at ho
    subst ho
    simp only [pV] at h
    split at h
    · rename_i v q
      cases h
      exact X.ldc2Long hx hown (mv hZ (hKJ _ (own_look_mem _ _ _ q))) (g := mkF m pc ls st) rfl hd _ hr
    · cases h
  all_goals exact nomatch (show (none : Option (Array Slot × List Value)) = some (ls', st') from h)
theorem prun_ok (X : Stand p l e R s m args below meth c T locs cells slots) (hx : p.tables.exec = Jvm.exec) (hZ : Z.Warmed39 s.vm) (hown : s.vm.findClass own = some m.cls) (hKI : ∀ q ∈ KI, (Jvm.Cond.constant own q.1 q.2).before a0 Z = true) (hKJ : ∀ q ∈ KJ, (Jvm.Cond.constantLong own q.1 q.2).before a0 Z = true) {target : State} {pc' : Nat} {ls' : Array Slot} {st' : List Value} :
    ∀ (L : List El) (pc : Nat) (ls : Array Slot) (st : List Value), Dec c.code L pc pc' = true → prun KI KJ L ls st = some (ls', st') → Steps p.tables e below (T.setTop (mkF m pc' ls' st')) target → Steps p.tables e below (T.setTop (mkF m pc ls st)) target
  | [], pc, ls, st, hD, h, hr => by
    simp only [Dec, beq_iff_eq] at hD
    simp only [prun] at h
    cases h; subst hD
    exact hr
  | (i, n, k, t) :: L, pc, ls, st, hD, h, hr => by
    simp only [Dec, Bool.and_eq_true, decide_eq_true_eq] at hD
    simp only [prun] at h
    split at h
    · rename_i l2 s2 q
      exact pV_ok X hx hZ hown hKI hKJ hD.1 hD.2.1 q (prun_ok X hx hZ hown hKI hKJ L _ l2 s2 hD.2.2 h hr)
    · cases h
end OwnSteps
/-! 2. Where a walk stands (Wk), that it comes to its end (Go), a method's contract (Cnt) -/
def Wk (Z : State) (l : Launch) (p : Program) (e : Env) (R : Room) (s : State) (m : MethodId) (args : Array Value) (below : List Frame) (meth : Method) (c : Code) (own nm : String) (bytes : ByteArray) (maxL : Nat) (ret : Option FieldType) (n0 : Nat) (T : State) (h : Heap) (cells slots : Nat) : Prop :=
  (∃ locs, Stand p l e R s m args below meth c T locs cells slots ∧ Fr n0 locs) ∧ T.heap = h ∧ n0 ≤ h.size ∧ p.tables.exec = Jvm.exec ∧ Z.Warmed39 s.vm ∧ s.vm.findClass own = some m.cls ∧ c.code = bytes ∧ c.maxLocals = maxL ∧ meth.sig.returnType = ret ∧ meth.locks = false ∧ meth.name = nm
def Go (p : Program) (e : Env) (below : List Frame) (s : State) (R : Room) (n0 : Nat) (Q : Option Value → Heap → Prop) (A : State) : Prop :=
  ∃ (s₂ : State) (v : Option Value) (L : List Loc), Steps p.tables e below A s₂ ∧ s₂.status = .running ∧ Ended s₂ below (.returned v) ∧ (Q v s₂.heap ∧ n0 ≤ s₂.heap.size ∧ Fr n0 L) ∧ FrameEnd s (.returned v) s₂ L R.cells R.slots
def Cnt (l : Launch) (Z : State) (y : MethodName) (bytes : ByteArray) (maxL : Nat) (ret : Option FieldType) (rm : Room) (n0 : Nat) (as' : Array Value) (h : Heap) (Q : Option Value → Heap → Prop) : Prop :=
  ∀ ws : List Jvm.Cond, MetFree l y (head1 (Jvm.Cond.code y bytes maxL ret :: ws) rm) (fun a U => a = as' ∧ Z.Warmed39 U.vm ∧ U.heap = h) (fun _ _ _ _ _ => True) (fun _ U o U' => ∃ v L, o = .returned v ∧ (Q v U'.heap ∧ n0 ≤ U'.heap.size ∧ Fr n0 L) ∧ FrameEnd U o U' L rm.cells rm.slots)
theorem Cnt.mk {l : Launch} {Z : State} {y : MethodName} {bytes : ByteArray} {maxL : Nat} {ret : Option FieldType} {rm : Room} {n0 : Nat} {as' : Array Value} {h : Heap} {Q : Option Value → Heap → Prop} (hn : plainFor y = true) (hh : n0 ≤ h.size)
    (H : ∀ p e s m below meth c T, Wk Z l p e rm s m as' below meth c y.cls y.name bytes maxL ret n0 T h 0 0 → Go p e below s rm n0 Q (T.setTop (entryFrame m as' maxL))) : Cnt l Z y bytes maxL ret rm n0 as' h Q := by
  intro ws
  refine MetFree.of_bodySF hn hisR ?_
  intro p e s m args below meth c s₁ Bd hml hP hK
  obtain ⟨rfl, hZ, hq⟩ := hP
  have hX : Stand p l e rm s m args below meth c s₁ [] 0 0 := Stand.of_body Bd
  obtain ⟨s₂, v, L, h1, h2, h3, h4, h5⟩ := H p e s m below meth c s₁ ⟨⟨[], hX, Fr.nil n0⟩, by rw [← hq, Bd.state]; rfl, hh, Bd.exec, hZ, findClass_of_methodNamed Bd.named, Bd.bytes, hml, Bd.returns, Bd.notSynchronized, (name_of_methodNamed Bd.named Bd.method).1⟩
  exact ⟨s₂, _, h1, h2, h3, v, L, rfl, h4, h5⟩
section OwnLaws
variable {Z : State} {l : Launch} {p : Program} {e : Env} {R : Room} {s : State} {m : MethodId} {args : Array Value} {below : List Frame} {meth : Method} {c : Code} {own nm : String} {bytes : ByteArray} {maxL : Nat} {ret : Option FieldType} {n0 : Nat} {T : State} {h : Heap} {cells slots : Nat} {Q : Option Value → Heap → Prop} {a0 : Array Value} {pc : Nat} {ls : Array Slot} {st rest : List Value}
theorem Go.lift {A A' : State} (k : ∀ t, Steps p.tables e below A' t → Steps p.tables e below A t) (g : Go p e below s R n0 Q A') : Go p e below s R n0 Q A := by
  obtain ⟨s2, v, L, h1, r⟩ := g
  exact ⟨s2, v, L, k _ h1, r⟩
theorem Go.cast {g g' : JFrame} (q : g = g') (k : Go p e below s R n0 Q (T.setTop g')) : Go p e below s R n0 Q (T.setTop g) := q ▸ k
theorem Wk.blk (X : Wk Z l p e R s m args below meth c own nm bytes maxL ret n0 T h cells slots) {KI : List (Nat × Int32)} {KJ : List (Nat × Int64)} (hK : (∀ q ∈ KI, (Jvm.Cond.constant own q.1 q.2).before a0 Z = true) ∧ (∀ q ∈ KJ, (Jvm.Cond.constantLong own q.1 q.2).before a0 Z = true)) {L : List El} {pc' : Nat} {ls' : Array Slot} {st' : List Value}
    (hD : Dec bytes L pc pc' = true) (hr : prun KI KJ L ls st = some (ls', st')) (g : Go p e below s R n0 Q (T.setTop (mkF m pc' ls' st'))) : Go p e below s R n0 Q (T.setTop (mkF m pc ls st)) := by
  obtain ⟨⟨locs, Y, N⟩, eT, hn, hx, hZ, hown, hby, hml, hrt, hlk, hnm⟩ := X
  subst hby
  exact g.lift fun t k => prun_ok Y hx hZ hown hK.1 hK.2 L pc ls st hD hr k
theorem Wk.more (X : Wk Z l p e R s m args below meth c own nm bytes maxL ret n0 T h cells slots) {c' s' : Nat} (h1 : cells ≤ c') (h2 : slots ≤ s') : Wk Z l p e R s m args below meth c own nm bytes maxL ret n0 T h c' s' := by
  obtain ⟨⟨locs, Y, N⟩, r⟩ := X
  exact ⟨⟨locs, Y.more h1 h2, N⟩, r⟩
theorem Wk.size (X : Wk Z l p e R s m args below meth c own nm bytes maxL ret n0 T h cells slots) : n0 ≤ h.size := X.2.2.1
/-! branches -/
def cT (cd : ClassFile.Cond) (x y : Int32) : Prop := match cd with | .eq => x = y | .ne => ¬ x = y | .lt => x < y | .ge => ¬ x < y | .gt => y < x | .le => ¬ y < x
def cF (cd : ClassFile.Cond) (x y : Int32) : Prop := match cd with | .eq => ¬ x = y | .ne => x = y | .lt => ¬ x < y | .ge => x < y | .gt => ¬ y < x | .le => y < x
theorem cT_cF (cd : ClassFile.Cond) (x y : Int32) : (if_icmp.holds cd x y = true ∧ cT cd x y) ∨ (if_icmp.holds cd x y = false ∧ cF cd x y) := by
  cases cd <;> simp only [cT, cF]
  · by_cases q : x = y
    · exact Or.inl ⟨(teq q).1, q⟩
    · exact Or.inr ⟨(feq q).1, q⟩
  · by_cases q : x = y
    · exact Or.inr ⟨(teq q).2, q⟩
    · exact Or.inl ⟨(feq q).2, q⟩
  all_goals first
    | (by_cases q : x < y
       · first | exact Or.inl ⟨(tlt q).1, q⟩ | exact Or.inr ⟨(tlt q).2.1, q⟩
       · first | exact Or.inr ⟨(flt q).1, q⟩ | exact Or.inl ⟨(flt q).2.1, q⟩)
    | (by_cases q : y < x
       · first | exact Or.inl ⟨(tlt q).2.2.1, q⟩ | exact Or.inr ⟨(tlt q).2.2.2, q⟩
       · first | exact Or.inr ⟨(flt q).2.2.1, q⟩ | exact Or.inl ⟨(flt q).2.2.2, q⟩)
def lT (cd : ClassFile.Cond) (x y : Int64) : Prop := match cd with | .eq => x = y | .ne => ¬ x = y | .lt => x < y | .ge => ¬ x < y | .gt => y < x | .le => ¬ y < x
def lF (cd : ClassFile.Cond) (x y : Int64) : Prop := match cd with | .eq => ¬ x = y | .ne => x = y | .lt => ¬ x < y | .ge => x < y | .gt => ¬ y < x | .le => y < x
theorem cmpL_W (x y : Int64) : XT.cmpL x y = lcmpW x y := rfl
theorem lT_lF (cd : ClassFile.Cond) (x y : Int64) : (if_icmp.holds cd (XT.cmpL x y) 0 = true ∧ lT cd x y) ∨ (if_icmp.holds cd (XT.cmpL x y) 0 = false ∧ lF cd x y) := by
  rw [cmpL_W]
  rcases cT_cF cd (lcmpW x y) 0 with ⟨a, b⟩ | ⟨a, b⟩
  · refine Or.inl ⟨a, ?_⟩
    cases cd <;> simp only [cT, lT] at b ⊢
    all_goals first | exact (lw_eq x y).mp b | exact fun q => b ((lw_eq x y).mpr q) | exact (lw_lt x y).mp b | exact fun q => b ((lw_lt x y).mpr q) | exact (lw_gt x y).mp b | exact fun q => b ((lw_gt x y).mpr q)
  · refine Or.inr ⟨a, ?_⟩
    cases cd <;> simp only [cF, lF] at b ⊢
    all_goals first | exact (lw_eq x y).mp b | exact fun q => b ((lw_eq x y).mpr q) | exact (lw_lt x y).mp b | exact fun q => b ((lw_lt x y).mpr q) | exact (lw_gt x y).mp b | exact fun q => b ((lw_gt x y).mpr q)
def DecB (b : ByteArray) (pc : Nat) (i : Instr) (o : Int) (t : Nat) : Bool := decide (decode b pc = .ok (i, 3)) && (decide (0 ≤ (pc : Int) + o) && decide (((pc : Int) + o).toNat = t))
theorem DecB.spec {b : ByteArray} {i : Instr} {o : Int} {t : Nat} (hD : DecB b pc i o t = true) : decode b pc = .ok (i, 3) ∧ 0 ≤ (pc : Int) + o ∧ ((pc : Int) + o).toNat = t := by
  simpa only [DecB, Bool.and_eq_true, decide_eq_true_eq] using hD
theorem Wk.icmp (X : Wk Z l p e R s m args below meth c own nm bytes maxL ret n0 T h cells slots) (cd : ClassFile.Cond) (o : Int) (t f : Nat) {x y : Int32} (hD : (DecB bytes pc (.if_icmp cd o) o t && pc + 3 == f) = true)
    (ky : cT cd x y → Go p e below s R n0 Q (T.setTop (mkF m t ls rest))) (kn : cF cd x y → Go p e below s R n0 Q (T.setTop (mkF m f ls rest))) : Go p e below s R n0 Q (T.setTop (mkF m pc ls (.int y :: .int x :: rest))) := by
  obtain ⟨⟨locs, Y, N⟩, eT, hn, hx, hZ, hown, hby, r⟩ := X
  simp only [Bool.and_eq_true, beq_iff_eq] at hD
  obtain ⟨hD, rfl⟩ := hD
  obtain ⟨hd, h1, h2⟩ := DecB.spec hD
  rcases cT_cF cd x y with ⟨a, b⟩ | ⟨a, b⟩
  · exact (ky b).lift fun _ k => XS.icmpYes Y.here hx rfl (pc0 := pc) (pc' := t) rfl (hb hby hd) rfl a h1 h2 k
  · exact (kn b).lift fun _ k => XS.icmpNo Y.here hx rfl (hb hby hd) rfl a k
theorem Wk.ifc (X : Wk Z l p e R s m args below meth c own nm bytes maxL ret n0 T h cells slots) (cd : ClassFile.Cond) (o : Int) (t f : Nat) {x : Int32} (hD : (DecB bytes pc (.ifCond cd o) o t && pc + 3 == f) = true)
    (ky : cT cd x 0 → Go p e below s R n0 Q (T.setTop (mkF m t ls rest))) (kn : cF cd x 0 → Go p e below s R n0 Q (T.setTop (mkF m f ls rest))) : Go p e below s R n0 Q (T.setTop (mkF m pc ls (.int x :: rest))) := by
  obtain ⟨⟨locs, Y, N⟩, eT, hn, hx, hZ, hown, hby, r⟩ := X
  simp only [Bool.and_eq_true, beq_iff_eq] at hD
  obtain ⟨hD, rfl⟩ := hD
  obtain ⟨hd, h1, h2⟩ := DecB.spec hD
  rcases cT_cF cd x 0 with ⟨a, b⟩ | ⟨a, b⟩
  · exact (ky b).lift fun _ k => XS.ifYes Y.here hx rfl (pc0 := pc) (pc' := t) rfl (hb hby hd) rfl ((if0 _ _).trans a) h1 h2 k
  · exact (kn b).lift fun _ k => XS.ifNo Y.here hx rfl (hb hby hd) rfl ((if0 _ _).trans a) k
theorem Wk.lcmp (X : Wk Z l p e R s m args below meth c own nm bytes maxL ret n0 T h cells slots) (cd : ClassFile.Cond) (o : Int) (t f : Nat) {x y : Int64} (hD : (decide (decode bytes pc = .ok (.lcmp, 1)) && (DecB bytes (pc + 1) (.ifCond cd o) o t && pc + 4 == f)) = true)
    (ky : lT cd x y → Go p e below s R n0 Q (T.setTop (mkF m t ls rest))) (kn : lF cd x y → Go p e below s R n0 Q (T.setTop (mkF m f ls rest))) : Go p e below s R n0 Q (T.setTop (mkF m pc ls (.long y :: .long x :: rest))) := by
  obtain ⟨⟨locs, Y, N⟩, eT, hn, hx, hZ, hown, hby, r⟩ := X
  simp only [Bool.and_eq_true, beq_iff_eq, decide_eq_true_eq] at hD
  obtain ⟨hL, hD, rfl⟩ := hD
  obtain ⟨hd, h1, h2⟩ := DecB.spec hD
  rcases lT_lF cd x y with ⟨a, b⟩ | ⟨a, b⟩
  · exact (ky b).lift fun _ k => XT.lcmp Y.here hx rfl (hb hby hL) rfl (XS.ifYes Y.here hx rfl (pc0 := pc + 1) (pc' := t) rfl (hb hby hd) rfl ((if0 _ _).trans a) h1 h2 k)
  · exact (kn b).lift fun _ k => XT.lcmp Y.here hx rfl (hb hby hL) rfl (XS.ifNo Y.here hx rfl (hb hby hd) rfl ((if0 _ _).trans a) k)
theorem Wk.ifnullY (X : Wk Z l p e R s m args below meth c own nm bytes maxL ret n0 T h cells slots) (o : Int) (t : Nat) (hD : DecB bytes pc (.ifnull o) o t = true) (k : Go p e below s R n0 Q (T.setTop (mkF m t ls rest))) : Go p e below s R n0 Q (T.setTop (mkF m pc ls (.null :: rest))) := by
  obtain ⟨⟨locs, Y, N⟩, eT, hn, hx, hZ, hown, hby, r⟩ := X
  obtain ⟨hd, h1, h2⟩ := DecB.spec hD
  exact k.lift fun _ k => XS.ifnullYes Y.here hx rfl (pc0 := pc) (pc' := t) rfl (hb hby hd) rfl h1 h2 k
theorem Wk.ifnullN (X : Wk Z l p e R s m args below meth c own nm bytes maxL ret n0 T h cells slots) (o : Int) (f : Nat) {a : Addr} (hD : (decide (decode bytes pc = .ok (.ifnull o, 3)) && pc + 3 == f) = true) (k : Go p e below s R n0 Q (T.setTop (mkF m f ls rest))) : Go p e below s R n0 Q (T.setTop (mkF m pc ls (.ref a :: rest))) := by
  obtain ⟨⟨locs, Y, N⟩, eT, hn, hx, hZ, hown, hby, r⟩ := X
  simp only [Bool.and_eq_true, beq_iff_eq, decide_eq_true_eq] at hD
  obtain ⟨hd, rfl⟩ := hD
  exact k.lift fun _ k => XS.ifnullNo Y.here hx rfl (hb hby hd) rfl k
theorem Wk.ifnnY (X : Wk Z l p e R s m args below meth c own nm bytes maxL ret n0 T h cells slots) (o : Int) (t : Nat) {a : Addr} (hD : DecB bytes pc (.ifnonnull o) o t = true) (k : Go p e below s R n0 Q (T.setTop (mkF m t ls rest))) : Go p e below s R n0 Q (T.setTop (mkF m pc ls (.ref a :: rest))) := by
  obtain ⟨⟨locs, Y, N⟩, eT, hn, hx, hZ, hown, hby, r⟩ := X
  obtain ⟨hd, h1, h2⟩ := DecB.spec hD
  exact k.lift fun _ k => XT.ifnonnullYes Y.here hx rfl (pc0 := pc) (pc' := t) rfl (hb hby hd) rfl h1 h2 k
theorem Wk.ifnnN (X : Wk Z l p e R s m args below meth c own nm bytes maxL ret n0 T h cells slots) (o : Int) (f : Nat) (hD : (decide (decode bytes pc = .ok (.ifnonnull o, 3)) && pc + 3 == f) = true) (k : Go p e below s R n0 Q (T.setTop (mkF m f ls rest))) : Go p e below s R n0 Q (T.setTop (mkF m pc ls (.null :: rest))) := by
  obtain ⟨⟨locs, Y, N⟩, eT, hn, hx, hZ, hown, hby, r⟩ := X
  simp only [Bool.and_eq_true, beq_iff_eq, decide_eq_true_eq] at hD
  obtain ⟨hd, rfl⟩ := hD
  exact k.lift fun _ k => XT.ifnonnullNo Y.here hx rfl (hb hby hd) rfl k
/-- two references that differ: if_acmpne is taken, if_acmpeq isn't -/
theorem Wk.acmpNeT (X : Wk Z l p e R s m args below meth c own nm bytes maxL ret n0 T h cells slots) (o : Int) (t : Nat) {a b : Addr} (hne : a ≠ b) (hD : DecB bytes pc (.if_acmp .ne o) o t = true) (k : Go p e below s R n0 Q (T.setTop (mkF m t ls rest))) : Go p e below s R n0 Q (T.setTop (mkF m pc ls (.ref b :: .ref a :: rest))) := by
  obtain ⟨⟨locs, Y, N⟩, eT, hn, hx, hZ, hown, hby, r⟩ := X
  obtain ⟨hd, h1, h2⟩ := DecB.spec hD
  exact k.lift fun _ k => XT.acmpYes Y.here hx rfl (pc0 := pc) (pc' := t) rfl (hb hby hd) rfl rfl rfl (by simp [XT.acmp, hne]) h1 h2 k
theorem Wk.acmpEqF (X : Wk Z l p e R s m args below meth c own nm bytes maxL ret n0 T h cells slots) (o : Int) (f : Nat) {a b : Addr} (hne : a ≠ b) (hD : (decide (decode bytes pc = .ok (.if_acmp .eq o, 3)) && pc + 3 == f) = true) (k : Go p e below s R n0 Q (T.setTop (mkF m f ls rest))) : Go p e below s R n0 Q (T.setTop (mkF m pc ls (.ref b :: .ref a :: rest))) := by
  obtain ⟨⟨locs, Y, N⟩, eT, hn, hx, hZ, hown, hby, r⟩ := X
  simp only [Bool.and_eq_true, beq_iff_eq, decide_eq_true_eq] at hD
  obtain ⟨hd, rfl⟩ := hD
  exact k.lift fun _ k => XT.acmpNo Y.here hx rfl (hb hby hd) rfl rfl rfl (by simp [XT.acmp, hne]) k
/-! division -/
def De (b : ByteArray) (pc : Nat) (i : Instr) (n pc' : Nat) : Bool := decide (decode b pc = .ok (i, n)) && pc + n == pc'
theorem De.spec {b : ByteArray} {i : Instr} {n pc' : Nat} (hD : De b pc i n pc' = true) : decode b pc = .ok (i, n) ∧ pc + n = pc' := by
  simpa only [De, Bool.and_eq_true, decide_eq_true_eq, beq_iff_eq] using hD
theorem Wk.irem (X : Wk Z l p e R s m args below meth c own nm bytes maxL ret n0 T h cells slots) (pc' : Nat) {x y : Int32} (hD : De bytes pc .irem 1 pc' = true) (hy : y ≠ 0) (k : Go p e below s R n0 Q (T.setTop (mkF m pc' ls (.int (x % y) :: rest)))) : Go p e below s R n0 Q (T.setTop (mkF m pc ls (.int y :: .int x :: rest))) := by
  obtain ⟨⟨locs, Y, N⟩, eT, hn, hx, hZ, hown, hby, r⟩ := X
  obtain ⟨hd, rfl⟩ := De.spec hD
  exact k.lift fun _ k => iremM Y hx rfl (hb hby hd) rfl hy k
theorem Wk.idiv (X : Wk Z l p e R s m args below meth c own nm bytes maxL ret n0 T h cells slots) (pc' : Nat) {x y : Int32} (hD : De bytes pc .idiv 1 pc' = true) (hy : y ≠ 0) (k : Go p e below s R n0 Q (T.setTop (mkF m pc' ls (.int (x / y) :: rest)))) : Go p e below s R n0 Q (T.setTop (mkF m pc ls (.int y :: .int x :: rest))) := by
  obtain ⟨⟨locs, Y, N⟩, eT, hn, hx, hZ, hown, hby, r⟩ := X
  obtain ⟨hd, rfl⟩ := De.spec hD
  exact k.lift fun _ k => XS.idiv Y.here hx rfl (hb hby hd) rfl hy k
theorem Wk.ldiv (X : Wk Z l p e R s m args below meth c own nm bytes maxL ret n0 T h cells slots) (pc' : Nat) {x y : Int64} (hD : De bytes pc .ldiv 1 pc' = true) (hy : y ≠ 0) (k : Go p e below s R n0 Q (T.setTop (mkF m pc' ls (.long (x / y) :: rest)))) : Go p e below s R n0 Q (T.setTop (mkF m pc ls (.long y :: .long x :: rest))) := by
  obtain ⟨⟨locs, Y, N⟩, eT, hn, hx, hZ, hown, hby, r⟩ := X
  obtain ⟨hd, rfl⟩ := De.spec hD
  exact k.lift fun _ k => XT.ldiv Y.here hx rfl (hb hby hd) rfl hy k
theorem Wk.lrem (X : Wk Z l p e R s m args below meth c own nm bytes maxL ret n0 T h cells slots) (pc' : Nat) {x y : Int64} (hD : De bytes pc .lrem 1 pc' = true) (hy : y ≠ 0) (k : Go p e below s R n0 Q (T.setTop (mkF m pc' ls (.long (x % y) :: rest)))) : Go p e below s R n0 Q (T.setTop (mkF m pc ls (.long y :: .long x :: rest))) := by
  obtain ⟨⟨locs, Y, N⟩, eT, hn, hx, hZ, hown, hby, r⟩ := X
  obtain ⟨hd, rfl⟩ := De.spec hD
  exact k.lift fun _ k => XT.lrem Y.here hx rfl (hb hby hd) rfl hy (by rw [lrem_mod]; exact k)
/-! returns -/
theorem Wk.retG (X : Wk Z l p e R s m args below meth c own nm bytes maxL ret n0 T h cells slots) {i : Instr} {t : FieldType} {w : Value} (hd : decode bytes pc = .ok (i, 1)) (hret : ret = some t) (hnw : narrow t w = w)
    (hi : (i = .ireturn ∧ (t = .int ∨ t = .boolean ∨ t = .byte ∨ t = .char ∨ t = .short) ∧ ∃ z, w = .int z) ∨ (i = .lreturn ∧ t = .long ∧ ∃ z, w = .long z) ∨ (i = .dreturn ∧ t = .double ∧ ∃ z, w = .double z) ∨ (i = .freturn ∧ t = .float ∧ ∃ z, w = .float z) ∨ (i = .areturn ∧ t.isReference = true ∧ w.isRef = true))
    (hc : cells ≤ R.cells) (hs : slots ≤ R.slots) (hq : Q (some w) h) : Go p e below s R n0 Q (T.setTop (mkF m pc ls (w :: rest))) := by
  obtain ⟨⟨locs, Y, N⟩, eT, hn, hx, hZ, hown, hby, hml, hr, hlk, hnm⟩ := X
  obtain ⟨fs, hl, hrun, hended, hW, hsame⟩ := Y.leave (v := some w) (fun q => by rw [hr, hret] at q; cases q) hlk
  refine ⟨T.setFrames fs, some w, locs, retOut Y hx (hr.trans hret) hnw hi (hb hby hd) hl, hrun, hended, ⟨?_, ?_, N⟩, ⟨_, rfl⟩, hW, hsame.mono hc hs⟩
  · show Q (some w) T.heap
    rw [eT]; exact hq
  · show n0 ≤ T.heap.size
    rw [eT]; exact hn
theorem Wk.retI (X : Wk Z l p e R s m args below meth c own nm bytes maxL (some .int) n0 T h cells slots) {z : Int32} (hd : decode bytes pc = .ok (.ireturn, 1)) (hc : cells ≤ R.cells) (hs : slots ≤ R.slots) (hq : Q (some (.int z)) h) : Go p e below s R n0 Q (T.setTop (mkF m pc ls (.int z :: rest))) :=
  X.retG hd rfl rfl (Or.inl ⟨rfl, Or.inl rfl, z, rfl⟩) hc hs hq
theorem Wk.retL (X : Wk Z l p e R s m args below meth c own nm bytes maxL (some .long) n0 T h cells slots) {z : Int64} (hd : decode bytes pc = .ok (.lreturn, 1)) (hc : cells ≤ R.cells) (hs : slots ≤ R.slots) (hq : Q (some (.long z)) h) : Go p e below s R n0 Q (T.setTop (mkF m pc ls (.long z :: rest))) :=
  X.retG hd rfl rfl (Or.inr (Or.inl ⟨rfl, rfl, z, rfl⟩)) hc hs hq
theorem Wk.retA (X : Wk Z l p e R s m args below meth c own nm bytes maxL ret n0 T h cells slots) {t : FieldType} {w : Value} (hd : decode bytes pc = .ok (.areturn, 1)) (hret : ret = some t) (ht : t.isReference = true) (hw : w.isRef = true) (hc : cells ≤ R.cells) (hs : slots ≤ R.slots) (hq : Q (some w) h) : Go p e below s R n0 Q (T.setTop (mkF m pc ls (w :: rest))) :=
  X.retG hd hret (by rcases ref_cases hw with rfl | ⟨z, rfl⟩ <;> cases t <;> first | rfl | simp [FieldType.isReference] at ht) (Or.inr (Or.inr (Or.inr (Or.inr ⟨rfl, ht, hw⟩)))) hc hs hq
theorem Wk.retZ (X : Wk Z l p e R s m args below meth c own nm bytes maxL (some .boolean) n0 T h cells slots) {z : Int32} (hd : decode bytes pc = .ok (.ireturn, 1)) (hc : cells ≤ R.cells) (hs : slots ≤ R.slots) (hz : z = 0 ∨ z = 1) (hq : Q (some (.int z)) h) : Go p e below s R n0 Q (T.setTop (mkF m pc ls (.int z :: rest))) :=
  X.retG hd rfl (by rcases hz with rfl | rfl <;> rfl) (Or.inl ⟨rfl, Or.inr (Or.inl rfl), z, rfl⟩) hc hs hq
theorem Wk.retV (X : Wk Z l p e R s m args below meth c own nm bytes maxL none n0 T h cells slots) (hd : decode bytes pc = .ok (.return_, 1)) (hc : cells ≤ R.cells) (hs : slots ≤ R.slots) (hq : Q none h) : Go p e below s R n0 Q (T.setTop (mkF m pc ls [])) := by
  obtain ⟨⟨locs, Y, N⟩, eT, hn, hx, hZ, hown, hby, hml, hr, hlk, hnm⟩ := X
  obtain ⟨fs, hl, hrun, hended, hW, hsame⟩ := Y.leave (v := none) (fun _ => rfl) hlk
  refine ⟨T.setFrames fs, none, locs, Y.returnOut hx hr (hb hby hd) hl, hrun, hended, ⟨?_, ?_, N⟩, ⟨_, rfl⟩, hW, hsame.mono hc hs⟩
  · show Q none T.heap
    rw [eT]; exact hq
  · show n0 ≤ T.heap.size
    rw [eT]; exact hn
/-! arrays: all their components by a list -/
def AV (Z : State) (h : Heap) (a : Addr) (ty : FieldType) (vs : List Value) : Prop := ∃ cl : Cell, Arr Z h a cl ty ∧ cl.slots.toList = vs ∧ vs.length < 2 ^ 31 ∧ (∀ v ∈ vs, fits ty v = true) ∧ Exa Z h a ("[" ++ ty.toString)
theorem AV.lt {a : Addr} {ty : FieldType} {vs : List Value} (A : AV Z h a ty vs) : a < h.size := by obtain ⟨cl, A, -⟩ := A; exact A.lt
theorem AV.ext {h' : Heap} {a : Addr} {ty : FieldType} {vs : List Value} (A : AV Z h a ty vs) (E : Ext h h') : AV Z h' a ty vs := by obtain ⟨cl, A, q1, q2, q3, q4⟩ := A; exact ⟨cl, A.ext E, q1, q2, q3, q4.ext E⟩
theorem AV.other {h' : Heap} {a b : Addr} {sl : Nat} {v : Value} {ty : FieldType} {vs : List Value} (A : AV Z h a ty vs) (W : Wr h h' b sl v) (ne : a ≠ b) : AV Z h' a ty vs := by obtain ⟨cl, A, q1, q2, q3, q4⟩ := A; exact ⟨cl, A.other W ne, q1, q2, q3, q4.wr W⟩
theorem AV.keep {h' : Heap} {a : Addr} {ws : List Addr} {ty : FieldType} {vs : List Value} (A : AV Z h a ty vs) (K : Keep h h' ws) (ne : a ∉ ws) : AV Z h' a ty vs := by obtain ⟨cl, A, q1, q2, q3, q4⟩ := A; exact ⟨cl, ⟨K.2.1 a cl A.1 ne, A.2⟩, q1, q2, q3, q4.keep K⟩
theorem AV.arv {a : Addr} {ty : FieldType} {vs : List Value} (A : AV Z h a ty vs) (d : Value) : ∃ k, Arv Z h a k ty vs.length.toInt32 vs d := by
  obtain ⟨cl, A, rfl, q2, q3, q4⟩ := A
  have hz : ¬ cl.slots.toList.length.toInt32 < 0 := by rw [Int32.lt_iff_toInt_lt, len_toInt q2]; show ¬ ((_ : Int) < (0 : Int)); omega
  have hs : cl.slots.size = cl.slots.toList.length.toInt32.toNatClampNeg := by
    have := nat_of hz; rw [len_toInt q2] at this; simp only [Array.length_toList] at *; omega
  refine ⟨cl.cls, cl, A, rfl, hs, hz, fun i hi => ?_, fun i hi => ?_⟩
  · rw [List.getD_eq_getElem?_getD, Array.getElem?_toList, Array.getElem?_eq_getElem hi]; rfl
  · rw [List.getD_eq_getElem?_getD, Array.getElem?_toList, Array.getElem?_eq_getElem hi]; exact q3 _ (by simp)
theorem AV.of_arv {a : Addr} {k : ClassId} {ty : FieldType} {vs : List Value} {d : Value} {z : Int32} (A : Arv Z h a k ty z vs d) (hl : z.toNatClampNeg = vs.length) (E : Exa Z h a ("[" ++ ty.toString)) : AV Z h a ty vs := by
  obtain ⟨cl, A, -, S, hz, H, G⟩ := A
  have e : cl.slots.toList = vs := by
    refine List.ext_getElem? fun i => ?_
    rw [Array.getElem?_toList]
    by_cases hi : i < cl.slots.size
    · rw [H i hi, List.getD_eq_getElem?_getD, List.getElem?_eq_getElem (by omega)]; rfl
    · rw [Array.getElem?_eq_none (by omega), List.getElem?_eq_none (by omega)]
  refine ⟨cl, A, e, by rw [← hl]; exact (back32 hz).2, fun v hv => ?_, E⟩
  obtain ⟨i, hi, rfl⟩ := List.getElem_of_mem hv
  have q := G i (by omega)
  rwa [List.getD_eq_getElem?_getD, List.getElem?_eq_getElem hi] at q
theorem AV.exa {a : Addr} {ty : FieldType} {vs : List Value} (A : AV Z h a ty vs) : Exa Z h a ("[" ++ ty.toString) := by obtain ⟨cl, -, -, -, -, E⟩ := A; exact E
theorem fits_default {ty : FieldType} : fits ty (defaultValue ty) = true := by cases ty <;> rfl
theorem Wk.newarr (X : Wk Z l p e R s m args below meth c own nm bytes maxL ret n0 T h cells slots) (pc' cap : Nat) {aty : ArrayType} {ty : FieldType} {n : Int32} (w : (Jvm.Cond.arrayClass ty).before a0 Z = true) (hty : newarray.typeOf aty = ty) (hD : De bytes pc (.newarray aty) 2 pc' = true) (hn : ¬ n < 0) (hcap : n.toNatClampNeg ≤ cap) (hrm : (decide (cap * 8 ≤ 536870912) && (decide (cells + 1 ≤ R.cells) && decide (slots + cap ≤ R.slots))) = true)
    (k : ∀ T' h', Wk Z l p e R s m args below meth c own nm bytes maxL ret n0 T' h' (cells + 1) (slots + cap) → Ext h h' → AV Z h' h.size ty (List.replicate n.toNatClampNeg (defaultValue ty)) → Go p e below s R n0 Q (T'.setTop (mkF m pc' ls (.ref h.size :: rest)))) : Go p e below s R n0 Q (T.setTop (mkF m pc ls (.int n :: rest))) := by
  obtain ⟨⟨locs, Y, N⟩, eT, hn0, hx, hZ, hown, hby, hml, hrt, hlk, hnm⟩ := X
  obtain ⟨hd, rfl⟩ := De.spec hD
  subst hty
  simp only [Bool.and_eq_true, decide_eq_true_eq] at hrm
  obtain ⟨T', h', cA, Y', e', E, A, E2, stp⟩ := newPE Y hx hZ w eT (g := mkF m pc ls (.int n :: rest)) rfl (hb hby hd) rfl hn hcap hrm.1 hrm.2.1 hrm.2.2 (ad := "[" ++ (newarray.typeOf aty).toString) rfl
  refine (k T' h' ⟨⟨locs, Y', N⟩, e', Nat.le_trans hn0 E.1, hx, hZ, hown, hby, hml, hrt, hlk, hnm⟩ E ⟨_, A, by simp [newA], ?_, ?_, E2⟩).lift stp
  · rw [List.length_replicate]; exact (back32 hn).2
  · intro v hv
    rw [(List.mem_replicate.mp hv).2]; exact fits_default
theorem Wk.baload (X : Wk Z l p e R s m args below meth c own nm bytes maxL ret n0 T h cells slots) (pc' : Nat) {a : Addr} {vs : List Value} {j : Int32} {v : Value} (A : AV Z h a .byte vs) (hD : De bytes pc .baload 1 pc' = true) (hj : ¬ j < 0) (hv : vs[j.toNatClampNeg]? = some v) (k : Go p e below s R n0 Q (T.setTop (mkF m pc' ls (v :: rest)))) : Go p e below s R n0 Q (T.setTop (mkF m pc ls (.int j :: .ref a :: rest))) := by
  obtain ⟨⟨locs, Y, N⟩, eT, hn, hx, hZ, hown, hby, hml, hrt, hlk, hnm⟩ := X
  obtain ⟨hd, rfl⟩ := De.spec hD
  obtain ⟨cl, A, rfl, q2, q3, q4⟩ := A
  rw [Array.getElem?_toList] at hv
  have hlt := (Array.getElem?_eq_some_iff.mp hv).1
  exact k.lift fun t k => Y.baloadBytes hx (by rw [eT]; exact A.1) (State.isArrayOf_alike hZ.alike A.2.1) A.2.2 (fun q => q.elim hj fun q => absurd hlt (Nat.not_lt.mpr q)) hv (g := mkF m pc ls (.int j :: .ref a :: rest)) rfl rfl (hb hby hd) t k
theorem Wk.iaload (X : Wk Z l p e R s m args below meth c own nm bytes maxL ret n0 T h cells slots) (pc' : Nat) {a : Addr} {vs : List Value} {j : Int32} {v : Value} (A : AV Z h a .int vs) (hD : De bytes pc .iaload 1 pc' = true) (hj : ¬ j < 0) (hv : vs[j.toNatClampNeg]? = some v) (k : Go p e below s R n0 Q (T.setTop (mkF m pc' ls (v :: rest)))) : Go p e below s R n0 Q (T.setTop (mkF m pc ls (.int j :: .ref a :: rest))) := by
  obtain ⟨⟨locs, Y, N⟩, eT, hn, hx, hZ, hown, hby, hml, hrt, hlk, hnm⟩ := X
  obtain ⟨hd, rfl⟩ := De.spec hD
  obtain ⟨cl, A, rfl, q2, q3, q4⟩ := A
  rw [Array.getElem?_toList] at hv
  have hlt := (Array.getElem?_eq_some_iff.mp hv).1
  exact k.lift fun t k => Y.iaload hx (by rw [eT]; exact A.1) (State.isArrayOf_alike hZ.alike A.2.1) A.2.2 (fun q => q.elim hj fun q => absurd hlt (Nat.not_lt.mpr q)) hv (g := mkF m pc ls (.int j :: .ref a :: rest)) rfl rfl (hb hby hd) t k
theorem Wk.laload (X : Wk Z l p e R s m args below meth c own nm bytes maxL ret n0 T h cells slots) (pc' : Nat) {a : Addr} {vs : List Value} {j : Int32} {v : Value} (A : AV Z h a .long vs) (hD : De bytes pc .laload 1 pc' = true) (hj : ¬ j < 0) (hv : vs[j.toNatClampNeg]? = some v) (k : Go p e below s R n0 Q (T.setTop (mkF m pc' ls (v :: rest)))) : Go p e below s R n0 Q (T.setTop (mkF m pc ls (.int j :: .ref a :: rest))) := by
  obtain ⟨⟨locs, Y, N⟩, eT, hn, hx, hZ, hown, hby, hml, hrt, hlk, hnm⟩ := X
  obtain ⟨hd, rfl⟩ := De.spec hD
  obtain ⟨cl, A, rfl, q2, q3, q4⟩ := A
  rw [Array.getElem?_toList] at hv
  have hlt := (Array.getElem?_eq_some_iff.mp hv).1
  exact k.lift fun t k => Y.laload hx (by rw [eT]; exact A.1) (State.isArrayOf_alike hZ.alike A.2.1) A.2.2 (fun q => q.elim hj fun q => absurd hlt (Nat.not_lt.mpr q)) hv (g := mkF m pc ls (.int j :: .ref a :: rest)) rfl rfl (hb hby hd) t k
theorem Wk.saload (X : Wk Z l p e R s m args below meth c own nm bytes maxL ret n0 T h cells slots) (pc' : Nat) {a : Addr} {vs : List Value} {j : Int32} {v : Value} (A : AV Z h a .short vs) (hD : De bytes pc .saload 1 pc' = true) (hj : ¬ j < 0) (hv : vs[j.toNatClampNeg]? = some v) (k : Go p e below s R n0 Q (T.setTop (mkF m pc' ls (v :: rest)))) : Go p e below s R n0 Q (T.setTop (mkF m pc ls (.int j :: .ref a :: rest))) := by
  obtain ⟨⟨locs, Y, N⟩, eT, hn, hx, hZ, hown, hby, hml, hrt, hlk, hnm⟩ := X
  obtain ⟨hd, rfl⟩ := De.spec hD
  obtain ⟨cl, A, rfl, q2, q3, q4⟩ := A
  rw [Array.getElem?_toList] at hv
  have hlt := (Array.getElem?_eq_some_iff.mp hv).1
  exact k.lift fun t k => Y.saload hx (by rw [eT]; exact A.1) (State.isArrayOf_alike hZ.alike A.2.1) A.2.2 (fun q => q.elim hj fun q => absurd hlt (Nat.not_lt.mpr q)) hv (g := mkF m pc ls (.int j :: .ref a :: rest)) rfl rfl (hb hby hd) t k
theorem Wk.alen (X : Wk Z l p e R s m args below meth c own nm bytes maxL ret n0 T h cells slots) (pc' : Nat) {a : Addr} {vs : List Value} {ty : FieldType} {n : Int32} (A : AV Z h a ty vs) (hD : De bytes pc .arraylength 1 pc' = true) (hl : vs.length.toInt32 = n) (k : Go p e below s R n0 Q (T.setTop (mkF m pc' ls (.int n :: rest)))) : Go p e below s R n0 Q (T.setTop (mkF m pc ls (.ref a :: rest))) := by
  obtain ⟨⟨locs, Y, N⟩, eT, hn, hx, hZ, hown, hby, hml, hrt, hlk, hnm⟩ := X
  obtain ⟨hd, rfl⟩ := De.spec hD
  obtain ⟨cl, A, rfl, q2, q3, q4⟩ := A
  subst hl
  exact k.lift fun t k => Y.arraylength hx (by rw [eT]; exact A.1) (State.isArrayOf_alike hZ.alike A.2.1) (g := mkF m pc ls (.ref a :: rest)) rfl rfl (hb hby hd) t (by simpa using k)
theorem Wk.bastore (X : Wk Z l p e R s m args below meth c own nm bytes maxL ret n0 T h cells slots) (pc' : Nat) {a : Addr} {vs : List Value} {j : Int32} {x x' : Int32} (hx' : nar .byte x = x') (A : AV Z h a .byte vs) (hD : De bytes pc .bastore 1 pc' = true) (hj : ¬ j < 0) (hl : j.toNatClampNeg < vs.length) (ha : n0 ≤ a)
    (k : ∀ T' h', Wk Z l p e R s m args below meth c own nm bytes maxL ret n0 T' h' cells slots → Wr h h' a j.toNatClampNeg (.int x') → AV Z h' a .byte (vs.set j.toNatClampNeg (.int x')) → Go p e below s R n0 Q (T'.setTop (mkF m pc' ls rest))) : Go p e below s R n0 Q (T.setTop (mkF m pc ls (.int x :: .int j :: .ref a :: rest))) := by
  obtain ⟨⟨locs, Y, N⟩, eT, hn, hx, hZ, hown, hby, hml, hrt, hlk, hnm⟩ := X
  obtain ⟨hd, rfl⟩ := De.spec hD
  obtain ⟨cl, A, rfl, q2, q3, q4⟩ := A
  subst hx'
  rw [Array.length_toList] at hl
  obtain ⟨T', h', Y', e', W, stp⟩ := stB Y hx hZ eT A (fun q => q.elim hj fun q => absurd hl (Nat.not_lt.mpr q)) (g := mkF m pc ls (.int x :: .int j :: .ref a :: rest)) rfl rfl (hb hby hd)
  refine (k T' h' ⟨⟨_, Y', Fr.snoc Y' N ha⟩, e', by rw [W.size]; exact hn, hx, hZ, hown, hby, hml, hrt, hlk, hnm⟩ W ⟨_, Arr.same W A, by simp [Cell.setSlot], by simpa using q2, fun v hv => ?_, q4.wr W⟩).lift stp
  rcases List.mem_or_eq_of_mem_set hv with q | rfl
  · exact q3 _ q
  · exact fits_nar_byte _
theorem Wk.iastore (X : Wk Z l p e R s m args below meth c own nm bytes maxL ret n0 T h cells slots) (pc' : Nat) {a : Addr} {vs : List Value} {j : Int32} {x : Int32} (A : AV Z h a .int vs) (hD : De bytes pc .iastore 1 pc' = true) (hj : ¬ j < 0) (hl : j.toNatClampNeg < vs.length) (ha : n0 ≤ a)
    (k : ∀ T' h', Wk Z l p e R s m args below meth c own nm bytes maxL ret n0 T' h' cells slots → Wr h h' a j.toNatClampNeg (.int x) → AV Z h' a .int (vs.set j.toNatClampNeg (.int x)) → Go p e below s R n0 Q (T'.setTop (mkF m pc' ls rest))) : Go p e below s R n0 Q (T.setTop (mkF m pc ls (.int x :: .int j :: .ref a :: rest))) := by
  obtain ⟨⟨locs, Y, N⟩, eT, hn, hx, hZ, hown, hby, hml, hrt, hlk, hnm⟩ := X
  obtain ⟨hd, rfl⟩ := De.spec hD
  obtain ⟨cl, A, rfl, q2, q3, q4⟩ := A
  rw [Array.length_toList] at hl
  obtain ⟨T', h', Y', e', W, stp⟩ := stI Y hx hZ eT A (fun q => q.elim hj fun q => absurd hl (Nat.not_lt.mpr q)) (g := mkF m pc ls (.int x :: .int j :: .ref a :: rest)) rfl rfl (hb hby hd)
  refine (k T' h' ⟨⟨_, Y', Fr.snoc Y' N ha⟩, e', by rw [W.size]; exact hn, hx, hZ, hown, hby, hml, hrt, hlk, hnm⟩ W ⟨_, Arr.same W A, by simp [Cell.setSlot], by simpa using q2, fun v hv => ?_, q4.wr W⟩).lift stp
  rcases List.mem_or_eq_of_mem_set hv with q | rfl
  · exact q3 _ q
  · rfl
theorem Wk.lastore (X : Wk Z l p e R s m args below meth c own nm bytes maxL ret n0 T h cells slots) (pc' : Nat) {a : Addr} {vs : List Value} {j : Int32} {x : Int64} (A : AV Z h a .long vs) (hD : De bytes pc .lastore 1 pc' = true) (hj : ¬ j < 0) (hl : j.toNatClampNeg < vs.length) (ha : n0 ≤ a)
    (k : ∀ T' h', Wk Z l p e R s m args below meth c own nm bytes maxL ret n0 T' h' cells slots → Wr h h' a j.toNatClampNeg (.long x) → AV Z h' a .long (vs.set j.toNatClampNeg (.long x)) → Go p e below s R n0 Q (T'.setTop (mkF m pc' ls rest))) : Go p e below s R n0 Q (T.setTop (mkF m pc ls (.long x :: .int j :: .ref a :: rest))) := by
  obtain ⟨⟨locs, Y, N⟩, eT, hn, hx, hZ, hown, hby, hml, hrt, hlk, hnm⟩ := X
  obtain ⟨hd, rfl⟩ := De.spec hD
  obtain ⟨cl, A, rfl, q2, q3, q4⟩ := A
  rw [Array.length_toList] at hl
  obtain ⟨T', h', Y', e', W, stp⟩ := stJ Y hx hZ eT A (fun q => q.elim hj fun q => absurd hl (Nat.not_lt.mpr q)) (g := mkF m pc ls (.long x :: .int j :: .ref a :: rest)) rfl rfl (hb hby hd)
  refine (k T' h' ⟨⟨_, Y', Fr.snoc Y' N ha⟩, e', by rw [W.size]; exact hn, hx, hZ, hown, hby, hml, hrt, hlk, hnm⟩ W ⟨_, Arr.same W A, by simp [Cell.setSlot], by simpa using q2, fun v hv => ?_, q4.wr W⟩).lift stp
  rcases List.mem_or_eq_of_mem_set hv with q | rfl
  · exact q3 _ q
  · rfl
theorem Wk.sastore (X : Wk Z l p e R s m args below meth c own nm bytes maxL ret n0 T h cells slots) (pc' : Nat) {a : Addr} {vs : List Value} {j : Int32} {x x' : Int32} (hx' : nar .short x = x') (A : AV Z h a .short vs) (hD : De bytes pc .sastore 1 pc' = true) (hj : ¬ j < 0) (hl : j.toNatClampNeg < vs.length) (ha : n0 ≤ a)
    (k : ∀ T' h', Wk Z l p e R s m args below meth c own nm bytes maxL ret n0 T' h' cells slots → Wr h h' a j.toNatClampNeg (.int x') → AV Z h' a .short (vs.set j.toNatClampNeg (.int x')) → Go p e below s R n0 Q (T'.setTop (mkF m pc' ls rest))) : Go p e below s R n0 Q (T.setTop (mkF m pc ls (.int x :: .int j :: .ref a :: rest))) := by
  obtain ⟨⟨locs, Y, N⟩, eT, hn, hx, hZ, hown, hby, hml, hrt, hlk, hnm⟩ := X
  obtain ⟨hd, rfl⟩ := De.spec hD
  obtain ⟨cl, A, rfl, q2, q3, q4⟩ := A
  subst hx'
  rw [Array.length_toList] at hl
  obtain ⟨T', h', Y', e', W, stp⟩ := stS Y hx hZ eT A (fun q => q.elim hj fun q => absurd hl (Nat.not_lt.mpr q)) (g := mkF m pc ls (.int x :: .int j :: .ref a :: rest)) rfl rfl (hb hby hd)
  refine (k T' h' ⟨⟨_, Y', Fr.snoc Y' N ha⟩, e', by rw [W.size]; exact hn, hx, hZ, hown, hby, hml, hrt, hlk, hnm⟩ W ⟨_, Arr.same W A, by simp [Cell.setSlot], by simpa using q2, fun v hv => ?_, q4.wr W⟩).lift stp
  rcases List.mem_or_eq_of_mem_set hv with q | rfl
  · exact q3 _ q
  · exact fits_nar_short _
theorem Wk.getf (X : Wk Z l p e R s m args below meth c own nm bytes maxL ret n0 T h cells slots) (pc' : Nat) {index : Nat} {O n d : String} {a : Addr} {v : Value} (w : (Jvm.Cond.fieldLink own index O n d).before a0 Z = true) (F : Fld Z h a O n d v) (hD : De bytes pc (.getfield index) 3 pc' = true)
    (k : ∀ T', Wk Z l p e R s m args below meth c own nm bytes maxL ret n0 T' h cells slots → Go p e below s R n0 Q (T'.setTop (mkF m pc' ls (v :: rest)))) : Go p e below s R n0 Q (T.setTop (mkF m pc ls (.ref a :: rest))) := by
  obtain ⟨⟨locs, Y, N⟩, eT, hn, hx, hZ, hown, hby, hml, hrt, hlk, hnm⟩ := X
  obtain ⟨hd, rfl⟩ := De.spec hD
  obtain ⟨T', Y', e', stp⟩ := getF Y hx hZ hown (host := "") (Or.inl w) Via.refl eT F (g := mkF m pc ls (.ref a :: rest)) rfl rfl (hb hby hd)
  exact (k T' ⟨⟨_, Y', N⟩, e', hn, hx, hZ, hown, hby, hml, hrt, hlk, hnm⟩).lift stp
theorem Wk.putf (X : Wk Z l p e R s m args below meth c own nm bytes maxL ret n0 T h cells slots) (pc' : Nat) {index kk : Nat} {O n d C : String} {a : Addr} {v old : Value} {ty : FieldType} (w : (Jvm.Cond.fieldLink own index O n d).before a0 Z = true) (F : Fld Z h a O n d old) (E : Exa Z h a C) (L : (Jvm.Cond.lays C O n d).before a0 Z = true ∨ ((Jvm.Cond.laysFinal C O n d).before a0 Z = true ∧ own = O ∧ nm = "<init>")) (wi : (Jvm.Cond.instantiable C kk).before a0 Z = true) (hty : parseFieldDescriptor d = some ty) (hnw : narrow ty v = v) (hf : fits ty v = true) (ha : n0 ≤ a) (hD : De bytes pc (.putfield index) 3 pc' = true)
    (k : ∀ T' h', Wk Z l p e R s m args below meth c own nm bytes maxL ret n0 T' h' cells slots → Wr h h' a (RoadKit.slotOf Z O n d) v → Go p e below s R n0 Q (T'.setTop (mkF m pc' ls rest))) : Go p e below s R n0 Q (T.setTop (mkF m pc ls (v :: .ref a :: rest))) := by
  obtain ⟨⟨locs, Y, N⟩, eT, hn, hx, hZ, hown, hby, hml, hrt, hlk, hnm⟩ := X
  obtain ⟨hd, rfl⟩ := De.spec hD
  obtain ⟨T', h', Y', e', W, stp⟩ := putF Y hx hZ hown (host := "") (Or.inl w) Via.refl eT F E (L.imp id fun q => ⟨q.1, q.2.1, hnm.trans q.2.2⟩) wi hty hnw hf (g := mkF m pc ls (v :: .ref a :: rest)) rfl rfl (hb hby hd)
  exact (k T' h' ⟨⟨_, Y', Fr.snoc Y' N ha⟩, e', by rw [W.size]; exact hn, hx, hZ, hown, hby, hml, hrt, hlk, hnm⟩ W).lift stp
theorem Wk.newobj (X : Wk Z l p e R s m args below meth c own nm bytes maxL ret n0 T h cells slots) (pc' : Nat) {index n : Nat} {C : String} (w : (Jvm.Cond.classLink own index C).before a0 Z = true) (wi : (Jvm.Cond.instantiable C n).before a0 Z = true) (wz : (Jvm.Cond.initialized C).before a0 Z = true) (hD : De bytes pc (.new index) 3 pc' = true) (hrm : (decide (cells + 1 ≤ R.cells) && decide (slots + n ≤ R.slots)) = true)
    (k : ∀ T' h', Wk Z l p e R s m args below meth c own nm bytes maxL ret n0 T' h' (cells + 1) (slots + n) → Ext h h' → Exa Z h' h.size C → (∀ {O nm d : String} {ty : FieldType}, Laid Z a0 C O nm d → parseFieldDescriptor d = some ty → Fld Z h' h.size O nm d (defaultValue ty)) → Go p e below s R n0 Q (T'.setTop (mkF m pc' ls (.ref h.size :: st)))) : Go p e below s R n0 Q (T.setTop (mkF m pc ls st)) := by
  obtain ⟨⟨locs, Y, N⟩, eT, hn, hx, hZ, hown, hby, hml, hrt, hlk, hnm⟩ := X
  obtain ⟨hd, rfl⟩ := De.spec hD
  simp only [Bool.and_eq_true, decide_eq_true_eq] at hrm
  obtain ⟨T', h', Y', e', E, A, D, -, stp⟩ := newO Y hx hZ hown w wi wz eT (g := mkF m pc ls st) rfl (hb hby hd) hrm.1 hrm.2
  exact (k T' h' ⟨⟨_, Y', N⟩, e', Nat.le_trans hn E.1, hx, hZ, hown, hby, hml, hrt, hlk, hnm⟩ E A D).lift stp
theorem Wk.initO (X : Wk Z l p e R s m args below meth c own nm bytes maxL ret n0 T h cells slots) (pc' W : Nat) {index : Nat} {a : Addr} (w1 : (Jvm.Cond.methodLink own index Lib.objectInit).before a0 Z = true) (w2 : (Jvm.Cond.instanceMethod Lib.objectInit).before a0 Z = true) (w3 : (Jvm.Cond.code Lib.objectInit ⟨#[0xb1]⟩ 1 none).before a0 Z = true) (hsz : ls.size = maxL) (hW : (rest.map fun v => v.category).sum = W) (hD : De bytes pc (.invokespecial index) 3 pc' = true) (hrm : (decide (1 ≤ R.frames) && decide (W + 12 ≤ R.locals)) = true)
    (k : ∀ T', Wk Z l p e R s m args below meth c own nm bytes maxL ret n0 T' h cells slots → Go p e below s R n0 Q (T'.setTop (mkF m pc' ls rest))) : Go p e below s R n0 Q (T.setTop (mkF m pc ls (.ref a :: rest))) := by
  obtain ⟨⟨locs, Y, N⟩, eT, hn, hx, hZ, hown, hby, hml, hrt, hlk, hnm⟩ := X
  obtain ⟨hd, rfl⟩ := De.spec hD
  simp only [Bool.and_eq_true, decide_eq_true_eq] at hrm
  obtain ⟨T', Y', e', stp⟩ := RoadKit.initO Y hx hZ hown w1 w2 w3 eT (g := mkF m pc ls (.ref a :: rest)) rfl (hsz.trans hml.symm) rfl (hb hby hd) hrm.1 (W := W) (by show 2 * 0 + _ ≤ _; omega) hrm.2
  exact (k T' ⟨⟨_, Y', N⟩, e', hn, hx, hZ, hown, hby, hml, hrt, hlk, hnm⟩).lift stp
theorem Wk.callS (X : Wk Z l p e R s m args below meth c own nm bytes maxL ret n0 T h cells slots) (pc' W : Nat) {y : MethodName} {yb : ByteArray} {yml : Nat} {yret : Option FieldType} {rm : Room} {Q' : Option Value → Heap → Prop} {argsL : List Value} {ps : List FieldType} {r : Option FieldType} {index : Nat} (K : Cnt l Z y yb yml yret rm n0 argsL.toArray h Q') (w1 : (Jvm.Cond.methodLink own index y).before a0 Z = true) (w2 : (Jvm.Cond.static y).before a0 Z = true) (w3 : (Jvm.Cond.initialized y.cls).before a0 Z = true) (w4 : (Jvm.Cond.code y yb yml yret).before a0 Z = true) (hy : (decide (y.cls ≠ "java/lang/invoke/MethodHandle") && decide (y.cls ≠ "java/lang/invoke/VarHandle")) = true) (hpd : parseMethodDescriptor y.desc = some ⟨ps, r⟩) (hlen : argsL.length = ps.length) (hst : st = argsL.reverse ++ rest) (hsz : ls.size = maxL) (hW : (rest.map fun v => v.category).sum = W) (hD : De bytes pc (.invokestatic index) 3 pc' = true) (hrm : (decide (rm.frames + 1 ≤ R.frames) && (decide (W + (yml + 11) + rm.locals ≤ R.locals) && (decide (cells + rm.cells ≤ R.cells) && decide (slots + rm.slots ≤ R.slots)))) = true)
    (k : ∀ T' h' v, Wk Z l p e R s m args below meth c own nm bytes maxL ret n0 T' h' (cells + rm.cells) (slots + rm.slots) → Q' v h' → Go p e below s R n0 Q (T'.setTop (mkF m pc' ls (v.toList ++ rest)))) : Go p e below s R n0 Q (T.setTop (mkF m pc ls st)) := by
  obtain ⟨⟨locs, Y, N⟩, eT, hn, hx, hZ, hown, hby, hml, hrt, hlk, hnm⟩ := X
  obtain ⟨hd, rfl⟩ := De.spec hD
  simp only [Bool.and_eq_true, decide_eq_true_eq] at hrm hy
  obtain ⟨v, _, ⟨U', L', c', s'⟩, -, Y', ⟨Lc, hq, el, ec, es⟩, stp⟩ := Jvm.LawKit.callS Y hx (y := y) hown (mvT hZ w1) (mvT hZ w2) (mvT hZ w3) (mvT hZ w4) hy (backOf (W := W) (Q := fun v h L => Q' v h ∧ n0 ≤ h.size ∧ Fr n0 L) (K []) hZ w4 w3 hrm.1 hrm.2.1) (g := mkF m pc ls st) rfl (hsz.trans hml.symm) (argsL := argsL) (rest := rest) (lenOf hpd hlen) hst (by show 2 * 0 + _ ≤ _; omega) (hb hby hd) (fun _ _ => ⟨rfl, eT, hrm.2.2.1, hrm.2.2.2⟩)
  dsimp only [Pt.U, Pt.locs, Pt.cells, Pt.slots] at Y' el ec es stp hq
  subst el ec es
  exact (k U' U'.heap v ⟨⟨_, Y', N.app hq.2.2⟩, rfl, hq.2.1, hx, hZ, hown, hby, hml, hrt, hlk, hnm⟩ hq.1).lift stp
theorem Wk.callI (X : Wk Z l p e R s m args below meth c own nm bytes maxL ret n0 T h cells slots) (pc' W : Nat) {y : MethodName} {yb : ByteArray} {yml : Nat} {rm : Room} {Q' : Option Value → Heap → Prop} {argsL : List Value} {ps : List FieldType} {r : Option FieldType} {index : Nat} {a : Addr} (K : Cnt l Z y yb yml none rm n0 (.ref a :: argsL).toArray h Q') (hnm' : y.name = "<init>") (w1 : (Jvm.Cond.methodLink own index y).before a0 Z = true) (w2 : (Jvm.Cond.instanceMethod y).before a0 Z = true) (w3 : (Jvm.Cond.initialized y.cls).before a0 Z = true) (w4 : (Jvm.Cond.code y yb yml none).before a0 Z = true) (hy : (decide (y.cls ≠ "java/lang/invoke/MethodHandle") && decide (y.cls ≠ "java/lang/invoke/VarHandle")) = true) (hpd : parseMethodDescriptor y.desc = some ⟨ps, r⟩) (hlen : argsL.length = ps.length) (hst : st = argsL.reverse ++ .ref a :: rest) (hsz : ls.size = maxL) (hW : (rest.map fun v => v.category).sum = W) (hD : De bytes pc (.invokespecial index) 3 pc' = true) (hrm : (decide (rm.frames + 1 ≤ R.frames) && (decide (W + (yml + 11) + rm.locals ≤ R.locals) && (decide (cells + rm.cells ≤ R.cells) && decide (slots + rm.slots ≤ R.slots)))) = true)
    (k : ∀ T' h' v, Wk Z l p e R s m args below meth c own nm bytes maxL ret n0 T' h' (cells + rm.cells) (slots + rm.slots) → Q' v h' → Go p e below s R n0 Q (T'.setTop (mkF m pc' ls (v.toList ++ rest)))) : Go p e below s R n0 Q (T.setTop (mkF m pc ls st)) := by
  obtain ⟨⟨locs, Y, N⟩, eT, hn, hx, hZ, hown, hby, hml, hrt, hlk, hnm⟩ := X
  obtain ⟨hd, rfl⟩ := De.spec hD
  simp only [Bool.and_eq_true, decide_eq_true_eq] at hrm hy
  obtain ⟨v, _, ⟨U', L', c', s'⟩, -, Y', ⟨Lc, hq, el, ec, es⟩, stp⟩ := Y.specialBack hx (y := y) hnm' hown (mvT hZ w1) (mvT hZ w2) (mvT hZ w4) hy (backOf (W := W) (Q := fun v h L => Q' v h ∧ n0 ≤ h.size ∧ Fr n0 L) (K []) hZ w4 w3 hrm.1 hrm.2.1) (g := mkF m pc ls st) rfl (hsz.trans hml.symm) (Steps.refl _) (a := a) (argsL := argsL) (rest := rest) (lenOf hpd hlen) hst (by show 2 * 0 + _ ≤ _; omega) (hb hby hd) (fun _ _ => ⟨rfl, eT, hrm.2.2.1, hrm.2.2.2⟩)
  dsimp only [Pt.U, Pt.locs, Pt.cells, Pt.slots] at Y' el ec es stp hq
  subst el ec es
  exact (k U' U'.heap v ⟨⟨_, Y', N.app hq.2.2⟩, rfl, hq.2.1, hx, hZ, hown, hby, hml, hrt, hlk, hnm⟩ hq.1).lift fun _ k => stp.trans k
theorem Wk.callV (X : Wk Z l p e R s m args below meth c own nm bytes maxL ret n0 T h cells slots) (pc' W : Nat) {y : MethodName} {yb : ByteArray} {yml : Nat} {yret : Option FieldType} {rm : Room} {Q' : Option Value → Heap → Prop} {argsL : List Value} {ps : List FieldType} {r : Option FieldType} {index : Nat} {b : Addr} {C : String} (E : Exa Z h b C) (K : Cnt l Z y yb yml yret rm n0 (.ref b :: argsL).toArray h Q') (w1 : (Jvm.Cond.methodLink own index y).before a0 Z = true) (w2 : (Jvm.Cond.declares y).before a0 Z = true) (w5 : (Jvm.Cond.selects C y y).before a0 Z = true) (w6 : (Jvm.Cond.instanceMethod y).before a0 Z = true) (w3 : (Jvm.Cond.initialized y.cls).before a0 Z = true) (w4 : (Jvm.Cond.code y yb yml yret).before a0 Z = true) (hy : (decide (y.cls ≠ "java/lang/invoke/MethodHandle") && decide (y.cls ≠ "java/lang/invoke/VarHandle")) = true) (hpd : parseMethodDescriptor y.desc = some ⟨ps, r⟩) (hlen : argsL.length = ps.length) (hst : st = argsL.reverse ++ .ref b :: rest) (hsz : ls.size = maxL) (hW : (rest.map fun v => v.category).sum = W) (hD : De bytes pc (.invokevirtual index) 3 pc' = true) (hrm : (decide (rm.frames + 1 ≤ R.frames) && (decide (W + (yml + 11) + rm.locals ≤ R.locals) && (decide (cells + rm.cells ≤ R.cells) && decide (slots + rm.slots ≤ R.slots)))) = true)
    (k : ∀ T' h' v, Wk Z l p e R s m args below meth c own nm bytes maxL ret n0 T' h' (cells + rm.cells) (slots + rm.slots) → Q' v h' → Go p e below s R n0 Q (T'.setTop (mkF m pc' ls (v.toList ++ rest)))) : Go p e below s R n0 Q (T.setTop (mkF m pc ls st)) := by
  obtain ⟨⟨locs, Y, N⟩, eT, hn, hx, hZ, hown, hby, hml, hrt, hlk, hnm⟩ := X
  obtain ⟨hd, rfl⟩ := De.spec hD
  simp only [Bool.and_eq_true, decide_eq_true_eq] at hrm hy
  obtain ⟨cq, kq, qa, qb, qc⟩ := isOf hZ eT E
  obtain ⟨v, _, ⟨U', L', c', s'⟩, -, Y', ⟨Lc, hq, el, ec, es⟩, stp⟩ := Y.virtualBack hx (y := y) (z := y) hown (mvT hZ w1) (mvT hZ w2) (notFace_of_selects (args := #[]) (mvT hZ w5)) (mvT hZ w5) (mvT hZ w6) hy (backOf (W := W) (Q := fun v h L => Q' v h ∧ n0 ≤ h.size ∧ Fr n0 L) (K []) hZ w4 w3 hrm.1 hrm.2.1) qa qc (g := mkF m pc ls st) rfl (hsz.trans hml.symm) (Steps.refl _) (argsL := argsL) (rest := rest) (lenOf hpd hlen) hst (by show 2 * 0 + _ ≤ _; omega) (hb hby hd) (fun _ _ => ⟨rfl, eT, hrm.2.2.1, hrm.2.2.2⟩)
  dsimp only [Pt.U, Pt.locs, Pt.cells, Pt.slots] at Y' el ec es stp hq
  subst el ec es
  exact (k U' U'.heap v ⟨⟨_, Y', N.app hq.2.2⟩, rfl, hq.2.1, hx, hZ, hown, hby, hml, hrt, hlk, hnm⟩ hq.1).lift fun _ k => stp.trans k
theorem Wk.callF (X : Wk Z l p e R s m args below meth c own nm bytes maxL ret n0 T h cells slots) (pc' W : Nat) {z : MethodName} {y : MethodName} {yb : ByteArray} {yml : Nat} {yret : Option FieldType} {rm : Room} {Q' : Option Value → Heap → Prop} {argsL : List Value} {ps : List FieldType} {r : Option FieldType} {index count : Nat} {b : Addr} {C : String} (E : Exa Z h b C) (K : Cnt l Z z yb yml yret rm n0 (.ref b :: argsL).toArray h Q') (w1 : (Jvm.Cond.methodLink own index y).before a0 Z = true) (w2 : (Jvm.Cond.declares y).before a0 Z = true) (w7 : (Jvm.Cond.interfaceMethod y.cls y.cls y.name y.desc).before a0 Z = true) (w5 : (Jvm.Cond.selects C y z).before a0 Z = true) (w6 : (Jvm.Cond.instanceMethod z).before a0 Z = true) (w8 : (Jvm.Cond.publicMethod z).before a0 Z = true) (w9 : (Jvm.Cond.unhidden C y.name y.desc).before a0 Z = true) (w10 : (Jvm.Cond.castable C y.cls).before a0 Z = true) (hfa : (Jvm.Cond.interfaceMethod y.cls y.cls y.name y.desc).faceAtom = true) (w3 : (Jvm.Cond.initialized z.cls).before a0 Z = true) (w4 : (Jvm.Cond.code z yb yml yret).before a0 Z = true) (hy : (decide (y.cls ≠ "java/lang/invoke/MethodHandle") && decide (y.cls ≠ "java/lang/invoke/VarHandle")) = true) (hpd : parseMethodDescriptor y.desc = some ⟨ps, r⟩) (hlen : argsL.length = ps.length) (hst : st = argsL.reverse ++ .ref b :: rest) (hsz : ls.size = maxL) (hW : (rest.map fun v => v.category).sum = W) (hD : De bytes pc (.invokeinterface index count) 5 pc' = true) (hrm : (decide (rm.frames + 1 ≤ R.frames) && (decide (W + (yml + 11) + rm.locals ≤ R.locals) && (decide (cells + rm.cells ≤ R.cells) && decide (slots + rm.slots ≤ R.slots)))) = true)
    (k : ∀ T' h' v, Wk Z l p e R s m args below meth c own nm bytes maxL ret n0 T' h' (cells + rm.cells) (slots + rm.slots) → Q' v h' → Go p e below s R n0 Q (T'.setTop (mkF m pc' ls (v.toList ++ rest)))) : Go p e below s R n0 Q (T.setTop (mkF m pc ls st)) := by
  obtain ⟨⟨locs, Y, N⟩, eT, hn, hx, hZ, hown, hby, hml, hrt, hlk, hnm⟩ := X
  obtain ⟨hd, rfl⟩ := De.spec hD
  simp only [Bool.and_eq_true, decide_eq_true_eq] at hrm hy
  obtain ⟨cq, kq, qa, qb, qc⟩ := isOf hZ eT E
  obtain ⟨v, _, ⟨U', L', c', s'⟩, -, Y', ⟨Lc, hq, el, ec, es⟩, stp⟩ := Y.interfaceBack hx (xi := y) (y := z) hown (mvT hZ w1) (mvT hZ w2) (mvT hZ w7 (by simp [Cond.onTables, Cond.keepsFace, Cond.keeps, Cond.steady, hfa])) (mvT hZ w5) (mvT hZ w6) (mvT hZ w8) (mvT hZ w9) (mvT hZ w10) hy (backOf (W := W) (Q := fun v h L => Q' v h ∧ n0 ≤ h.size ∧ Fr n0 L) (K []) hZ w4 w3 hrm.1 hrm.2.1) qa qb qc (g := mkF m pc ls st) rfl (hsz.trans hml.symm) (Steps.refl _) (argsL := argsL) (rest := rest) (lenOf hpd hlen) hst (by show 2 * 0 + _ ≤ _; omega) (hb hby hd) (fun _ _ => ⟨rfl, eT, hrm.2.2.1, hrm.2.2.2⟩)
  dsimp only [Pt.U, Pt.locs, Pt.cells, Pt.slots] at Y' el ec es stp hq
  subst el ec es
  exact (k U' U'.heap v ⟨⟨_, Y', N.app hq.2.2⟩, rfl, hq.2.1, hx, hZ, hown, hby, hml, hrt, hlk, hnm⟩ hq.1).lift fun _ k => stp.trans k
theorem Wk.clone (X : Wk Z l p e R s m args below meth c own nm bytes maxL ret n0 T h cells slots) (pc' W cap : Nat) {index : Nat} {ad : String} {a : Addr} {ty : FieldType} {vs : List Value} (A : AV Z h a ty vs) (had : "[" ++ ty.toString = ad) (w1 : (Jvm.Cond.methodLink own index ⟨ad, "clone", "()Ljava/lang/Object;"⟩).before a0 Z = true) (w2 : (Jvm.Cond.sameMethod ad "java/lang/Object" "clone" "()Ljava/lang/Object;").before a0 Z = true) (w3 : (Jvm.Cond.native ⟨"java/lang/Object", "clone", "()Ljava/lang/Object;"⟩).before a0 Z = true) (w4 : (Jvm.Cond.instanceMethod ⟨"java/lang/Object", "clone", "()Ljava/lang/Object;"⟩).before a0 Z = true) (w5 : (Jvm.Cond.selects ad ⟨ad, "clone", "()Ljava/lang/Object;"⟩ ⟨"java/lang/Object", "clone", "()Ljava/lang/Object;"⟩).before a0 Z = true) (w6 : (Jvm.Cond.castable ad "java/lang/Cloneable").before a0 Z = true) (hsz : ls.size = maxL) (hW : (rest.map fun v => v.category).sum = W) (hD : De bytes pc (.invokevirtual index) 3 pc' = true) (hcap : vs.length ≤ cap) (hrm : (decide (1 ≤ R.frames) && (decide (W + 14 ≤ R.locals) && (decide (cells + 1 ≤ R.cells) && decide (slots + cap ≤ R.slots)))) = true)
    (k : ∀ T' h', Wk Z l p e R s m args below meth c own nm bytes maxL ret n0 T' h' (cells + 1) (slots + cap) → Ext h h' → AV Z h' h.size ty vs → Go p e below s R n0 Q (T'.setTop (mkF m pc' ls (.ref h.size :: rest)))) : Go p e below s R n0 Q (T.setTop (mkF m pc ls (.ref a :: rest))) := by
  obtain ⟨⟨locs, Y, N⟩, eT, hn, hx, hZ, hown, hby, hml, hrt, hlk, hnm⟩ := X
  obtain ⟨hd, rfl⟩ := De.spec hD
  simp only [Bool.and_eq_true, decide_eq_true_eq] at hrm
  subst had
  obtain ⟨cl, A, rfl, q2, q3, q4⟩ := A
  have FC : FitC Z cl := fitC_of A fun i hi v hv => q3 v (by
    have := Array.getElem?_eq_some_iff.mp hv
    obtain ⟨_, e⟩ := this
    rw [← e]; simp)
  obtain ⟨T', h', Y', e', E, A', E', stp⟩ := cloneA Y hx hZ hown w1 w2 w3 w4 w5 w6 eT A q4 FC (g := mkF m pc ls (.ref a :: rest)) rfl (hsz.trans hml.symm) rfl (hb hby hd) hrm.1 (W := W) (cap := cap) (by show 2 * 0 + _ ≤ _; omega) hrm.2.1 (by simpa using hcap) hrm.2.2.1 hrm.2.2.2
  exact (k T' h' ⟨⟨_, Y', N⟩, e', Nat.le_trans hn E.1, hx, hZ, hown, hby, hml, hrt, hlk, hnm⟩ E ⟨_, A', rfl, q2, q3, E'⟩).lift stp
theorem Wk.cast (X : Wk Z l p e R s m args below meth c own nm bytes maxL ret n0 T h cells slots) (pc' : Nat) {index : Nat} {K : String} {a : Addr} (w : (Jvm.Cond.classLink own index K).before a0 Z = true) (E : Exa Z h a K) (hD : De bytes pc (.checkcast index) 3 pc' = true)
    (k : ∀ T', Wk Z l p e R s m args below meth c own nm bytes maxL ret n0 T' h cells slots → Go p e below s R n0 Q (T'.setTop (mkF m pc' ls (.ref a :: rest)))) : Go p e below s R n0 Q (T.setTop (mkF m pc ls (.ref a :: rest))) := by
  obtain ⟨⟨locs, Y, N⟩, eT, hn, hx, hZ, hown, hby, hml, hrt, hlk, hnm⟩ := X
  obtain ⟨hd, rfl⟩ := De.spec hD
  obtain ⟨T', Y', e', stp⟩ := castY Y hx hZ hown w eT (Ins.self E) (g := mkF m pc ls (.ref a :: rest)) rfl rfl (hb hby hd)
  exact (k T' ⟨⟨_, Y', N⟩, e', hn, hx, hZ, hown, hby, hml, hrt, hlk, hnm⟩).lift stp
theorem Wk.acopy (X : Wk Z l p e R s m args below meth c own nm bytes maxL ret n0 T h cells slots) (pc' W : Nat) {index : Nat} {a b : Addr} {ty : FieldType} {vs vd : List Value} {sp dp nn : Int32} (d : Value) (A : AV Z h a ty vs) (B : AV Z h b ty vd) (hp : refKind ty = false) (w1 : (Jvm.Cond.methodLink own index Jvm.Stand.acN).before a0 Z = true) (w2 : (Jvm.Cond.native Jvm.Stand.acN).before a0 Z = true) (w3 : (Jvm.Cond.static Jvm.Stand.acN).before a0 Z = true) (w4 : (Jvm.Cond.initialized "java/lang/System").before a0 Z = true) (h1 : ¬ sp < 0) (h2 : ¬ dp < 0) (h3 : ¬ nn < 0) (h4 : sp.toNatClampNeg + nn.toNatClampNeg ≤ vs.length) (h5 : dp.toNatClampNeg + nn.toNatClampNeg ≤ vd.length) (ha : n0 ≤ b) (hsz : ls.size = maxL) (hW : (rest.map fun v => v.category).sum = W) (hD : De bytes pc (.invokestatic index) 3 pc' = true) (hrm : (decide (1 ≤ R.frames) && decide (W + (nativeFrameWords "java/lang/System" "arraycopy" 5 + 11) ≤ R.locals)) = true)
    (k : ∀ T' h', Wk Z l p e R s m args below meth c own nm bytes maxL ret n0 T' h' cells slots → Keep h h' [b] → AV Z h' b ty (vd.take dp.toNatClampNeg ++ ((List.range nn.toNatClampNeg).map fun i => vs.getD (sp.toNatClampNeg + i) d) ++ vd.drop (dp.toNatClampNeg + nn.toNatClampNeg)) → Go p e below s R n0 Q (T'.setTop (mkF m pc' ls rest))) : Go p e below s R n0 Q (T.setTop (mkF m pc ls (.int nn :: .int dp :: .ref b :: .int sp :: .ref a :: rest))) := by
  obtain ⟨⟨locs, Y, N⟩, eT, hn, hx, hZ, hown, hby, hml, hrt, hlk, hnm⟩ := X
  obtain ⟨hd, rfl⟩ := De.spec hD
  simp only [Bool.and_eq_true, decide_eq_true_eq] at hrm
  have lz : ∀ {us : List Value}, us.length < 2 ^ 31 → us.length.toInt32.toNatClampNeg = us.length := fun {us} q => by
    have hz : ¬ us.length.toInt32 < 0 := by rw [Int32.lt_iff_toInt_lt, len_toInt q]; show ¬ ((_ : Int) < (0 : Int)); omega
    have := nat_of hz; rw [len_toInt q] at this; omega
  have lA : vs.length < 2 ^ 31 := by obtain ⟨_, _, _, q, _⟩ := A; exact q
  have lB : vd.length < 2 ^ 31 := by obtain ⟨_, _, _, q, _⟩ := B; exact q
  obtain ⟨k1, A'⟩ := A.arv d
  obtain ⟨k2, B'⟩ := B.arv d
  obtain ⟨T', h', L, Y', e', N', K, B2, stp⟩ := cpA Y hx hZ hown w1 w2 w3 w4 eT A' B' (Or.inl ⟨rfl, hp⟩) h1 h2 h3 (by rw [lz lA]; exact h4) (by rw [lz lB]; exact h5) rfl h5 N ha (g := mkF m pc ls (.int nn :: .int dp :: .ref b :: .int sp :: .ref a :: rest)) rfl (hsz.trans hml.symm) rfl (hb hby hd) hrm.1 (W := W) (by show 2 * 0 + _ ≤ _; omega) hrm.2
  exact (k T' h' ⟨⟨_, Y', N'⟩, e', Nat.le_trans hn K.1, hx, hZ, hown, hby, hml, hrt, hlk, hnm⟩ K (AV.of_arv B2 (by rw [lz lB]; simp; omega) (B.exa.keep K))).lift stp
theorem Wk.callP (X : Wk Z l p e R s m args below meth c own nm bytes maxL ret n0 T h cells slots) (pc' W : Nat) {y2 z2 : MethodName} {C2 : String} {y : MethodName} {yb : ByteArray} {yml : Nat} {yret : Option FieldType} {rm : Room} {Q' : Option Value → Heap → Prop} {argsL : List Value} {ps : List FieldType} {r : Option FieldType} {index : Nat} {b : Addr} {C : String} (E : Exa Z h b C) (K : Cnt l Z y yb yml yret rm n0 (.ref b :: argsL).toArray h Q') (w1 : (Jvm.Cond.methodLink own index y).before a0 Z = true) (w5 : (Jvm.Cond.selects C2 y2 z2).before a0 Z = true) (hz2 : z2.cls = y.cls) (w6 : (Jvm.Cond.instanceMethod y).before a0 Z = true) (w7 : (Jvm.Cond.privateMethod y).before a0 Z = true) (w3 : (Jvm.Cond.initialized y.cls).before a0 Z = true) (w4 : (Jvm.Cond.code y yb yml yret).before a0 Z = true) (hy : (decide (y.cls ≠ "java/lang/invoke/MethodHandle") && decide (y.cls ≠ "java/lang/invoke/VarHandle")) = true) (hpd : parseMethodDescriptor y.desc = some ⟨ps, r⟩) (hlen : argsL.length = ps.length) (hst : st = argsL.reverse ++ .ref b :: rest) (hsz : ls.size = maxL) (hW : (rest.map fun v => v.category).sum = W) (hD : De bytes pc (.invokevirtual index) 3 pc' = true) (hrm : (decide (rm.frames + 1 ≤ R.frames) && (decide (W + (yml + 11) + rm.locals ≤ R.locals) && (decide (cells + rm.cells ≤ R.cells) && decide (slots + rm.slots ≤ R.slots)))) = true)
    (k : ∀ T' h' v, Wk Z l p e R s m args below meth c own nm bytes maxL ret n0 T' h' (cells + rm.cells) (slots + rm.slots) → Q' v h' → Go p e below s R n0 Q (T'.setTop (mkF m pc' ls (v.toList ++ rest)))) : Go p e below s R n0 Q (T.setTop (mkF m pc ls st)) := by
  obtain ⟨⟨locs, Y, N⟩, eT, hn, hx, hZ, hown, hby, hml, hrt, hlk, hnm⟩ := X
  obtain ⟨hd, rfl⟩ := De.spec hD
  simp only [Bool.and_eq_true, decide_eq_true_eq] at hrm hy
  obtain ⟨cq, q, q'⟩ := E.cell
  have hpr : s.PrivateAt y := Cond.privateMethod_at (mvP hZ w7 (args := #[]))
  obtain ⟨c2, r2, m2, -, -, q3, -, kP, hkP, hkPi⟩ := Cond.selects_spec (mvT hZ w5 : (Jvm.Cond.selects C2 y2 z2).before args s = true)
  have hsel : (Jvm.Cond.selects y.cls y y).before args s = true := selects_self_of_private (by rw [← hz2]; exact findClass_of_methodNamed q3) hkP hkPi hpr (mvT hZ w6) hy
  obtain ⟨v, _, ⟨U', L', c', s'⟩, -, Y', ⟨Lc, hq, el, ec, es⟩, stp⟩ := Y.privateBack hx (y := y) hown (mvT hZ w1) (mvT hZ w6) hsel hpr (mvT hZ w4) hy (backOf (W := W) (Q := fun v h L => Q' v h ∧ n0 ≤ h.size ∧ Fr n0 L) (K []) hZ w4 w3 hrm.1 hrm.2.1) (g := mkF m pc ls st) rfl (hsz.trans hml.symm) (Steps.refl _) (a := b) (by rw [eT]; exact q) q' (argsL := argsL) (rest := rest) (lenOf hpd hlen) hst (by show 2 * 0 + _ ≤ _; omega) (hb hby hd) (fun _ _ => ⟨rfl, eT, hrm.2.2.1, hrm.2.2.2⟩)
  dsimp only [Pt.U, Pt.locs, Pt.cells, Pt.slots] at Y' el ec es stp hq
  subst el ec es
  exact (k U' U'.heap v ⟨⟨_, Y', N.app hq.2.2⟩, rfl, hq.2.1, hx, hZ, hown, hby, hml, hrt, hlk, hnm⟩ hq.1).lift fun _ k => stp.trans k
theorem Wk.tsw (X : Wk Z l p e R s m args below meth c own nm bytes maxL ret n0 T h cells slots) (t : Nat) {i : Int32} {df lo hi : Int} {offs : Array Int} {n : Nat} (hD : (decide (decode bytes pc = .ok (.tableswitch df lo hi offs, n)) && (if i.toInt < lo ∨ i.toInt > hi then decide (0 ≤ (pc : Int) + df) && decide (((pc : Int) + df).toNat = t) else (match offs[(i.toInt - lo).toNat]? with | some o => decide (0 ≤ (pc : Int) + o) && decide (((pc : Int) + o).toNat = t) | none => false))) = true) (k : Go p e below s R n0 Q (T.setTop (mkF m t ls rest))) : Go p e below s R n0 Q (T.setTop (mkF m pc ls (.int i :: rest))) := by
  obtain ⟨⟨locs, Y, N⟩, eT, hn, hx, hZ, hown, hby, r⟩ := X
  rw [Bool.and_eq_true, decide_eq_true_eq] at hD
  obtain ⟨hd, hD⟩ := hD
  split at hD
  · rename_i q
    rw [Bool.and_eq_true, decide_eq_true_eq, decide_eq_true_eq] at hD
    exact k.lift fun _ k => XS.tswOut Y.here hx rfl (pc0 := pc) (pc' := t) rfl (hb hby hd) rfl q hD.1 hD.2 k
  · rename_i q
    split at hD
    · rename_i o ho
      rw [Bool.and_eq_true, decide_eq_true_eq, decide_eq_true_eq] at hD
      exact k.lift fun _ k => XS.tswIn Y.here hx rfl (pc0 := pc) (pc' := t) rfl (hb hby hd) rfl q ho hD.1 hD.2 k
    · cases hD
end OwnLaws

theorem own_byte (x : Int32) : x.toInt8.toInt32 &&& 255 = x &&& 255 := by
  apply Int32.toInt_inj.mp
  rw [c_mask _ 255 8 (by decide) (by decide), c_mask _ 255 8 (by decide) (by decide)]
  have := c_i2b x
  have k : ((2 ^ 8 : Nat) : Int) = 256 := rfl
  rw [k]; omega
theorem own_small (x : Int32) : ∃ n : Fin 256, x &&& 255 = Int32.ofNat n.val := by
  have h := c_mask x 255 8 (by decide) (by decide)
  have h0 : 0 ≤ (x &&& 255).toInt ∧ (x &&& 255).toInt < 256 := by rw [h]; omega
  refine ⟨⟨(x &&& 255).toInt.toNat, by omega⟩, ?_⟩
  apply Int32.toInt_inj.mp
  show _ = (Int32.ofNat (x &&& 255).toInt.toNat).toInt
  rw [Int32.toInt_ofNat_small (by omega)]
  omega
theorem own_m255 (x : Int32) : 0 ≤ (x &&& 255).toInt ∧ (x &&& 255).toInt ≤ 255 := c_and x 255 (by decide)
theorem own_narb (x : Int32) : nar .byte x.toInt8.toInt32 = x.toInt8.toInt32 := by
  show x.toInt8.toInt32.toInt8.toInt32 = _
  have h1 := c_i2b x; have h2 := c_i2b x.toInt8.toInt32
  exact Int32.toInt_inj.mp (by omega)

def xs (v : Int64) : Int64 := v ^^^ (XT.ushrL v (33 : Int32))
def stp (a : Int64) (b : Int32) : Int64 := (a ^^^ (b &&& (255 : Int32)).toInt64) * (1099511628211 : Int64)
def mix (v : Int64) : Int64 := xs ((xs ((xs v) * (-49064778989728563 : Int64))) * (-4265267296055464877 : Int64))
def nw (c v : Int64) : Int64 := v * ((2 : Int64) - (c * v))
def inv (c : Int64) : Int64 := nw c (nw c (nw c (nw c (nw c c))))
def unm (v : Int64) : Int64 := xs ((xs ((xs v) * inv (-4265267296055464877 : Int64))) * inv (-49064778989728563 : Int64))
theorem own_i1 : (-49064778989728563 : Int64) * inv (-49064778989728563) = 1 := by decide +kernel
theorem own_i2 : (-4265267296055464877 : Int64) * inv (-4265267296055464877) = 1 := by decide +kernel
theorem own_sh (v : Int64) : (XT.ushrL v 33).toBitVec = v.toBitVec >>> 33 := by
  show (v.toUInt64 >>> ((33 : Int32).toInt64.toUInt64 &&& Int64.toUInt64 63)).toInt64.toBitVec = _
  have e : ((33 : Int32).toInt64.toUInt64 &&& Int64.toUInt64 63) = (33 : UInt64) := by decide
  rw [e]
  show (v.toUInt64 >>> (33 : UInt64)).toBitVec = _
  rw [UInt64.toBitVec_shiftRight]
  rfl
theorem own_xx (v : Int64) : xs (xs v) = v := by
  apply Int64.toBitVec_inj.mp
  simp only [xs, Int64.toBitVec_xor, own_sh]
  generalize v.toBitVec = w
  ext i hi
  simp only [BitVec.getElem_xor, BitVec.getElem_ushiftRight, BitVec.getLsbD_xor, BitVec.getLsbD_ushiftRight]
  rw [BitVec.getLsbD_of_ge w (33 + (33 + i)) (by omega)]
  simp
theorem own_un (v : Int64) : unm (mix v) = v := by
  unfold unm mix
  rw [own_xx, Int64.mul_assoc, own_i2, Int64.mul_one, own_xx, Int64.mul_assoc, own_i1, Int64.mul_one, own_xx]
theorem own_st (a : Int64) (d : Int32) : unm (mix (stp a d.toInt8.toInt32)) = (unm (mix a) ^^^ (d &&& 255).toInt64) * 1099511628211 := by
  rw [own_un, own_un]; unfold stp; rw [own_byte]
theorem own_4 (x : Int32) : (x &&& 3) = 0 ∨ (x &&& 3) = 1 ∨ (x &&& 3) = 2 ∨ (x &&& 3) = 3 := by
  have h := c_and x 3 (by decide)
  have e : (3 : Int32).toInt = 3 := rfl
  have : (x &&& 3).toInt = 0 ∨ (x &&& 3).toInt = 1 ∨ (x &&& 3).toInt = 2 ∨ (x &&& 3).toInt = 3 := by omega
  rcases this with q | q | q | q
  · exact Or.inl (Int32.toInt_inj.mp q)
  · exact Or.inr (Or.inl (Int32.toInt_inj.mp q))
  · exact Or.inr (Or.inr (Or.inl (Int32.toInt_inj.mp q)))
  · exact Or.inr (Or.inr (Or.inr (Int32.toInt_inj.mp q)))
set_option maxRecDepth 65536 in
set_option maxHeartbeats 40000000 in
theorem rm_inv (l : Launch) (Z : State) (a0 : Array Value) (hw : ∀ d ∈ tables_1, d.before a0 Z = true) (p1 : Int64) (h0 : Heap) (n0 : Nat) (Z0 : n0 ≤ h0.size)  :
    Cnt l Z (⟨"com/example/redolith/redolith/kv/StoreHashPinLaw", "inverse", "(J)J"⟩ : MethodName) method_2_code 4 (some .long) ({ frames := 0, cells := 0, slots := 0, locals := 0 } : Room) n0 #[(.long p1)] h0 (fun v h => v = some (.long (inv p1)) ∧ h0 = h) := by
  refine Cnt.mk (by first | exact plainFor_of_name (by first | (simp [plainName, overriddenIn]; done) | decide +kernel) | decide +kernel) Z0 ?_
  intro p e s m below meth c T X
  refine Go.cast (g' := mkF m 0 #[.val (.long p1), .second, .unset, .unset] []) (by first | (simp [entryFrame, mkF, argsToLocals, Value.category, maxLocals]; done) | rfl) ?_
  have hK : (∀ q ∈ ([] : List (Nat × Int32)), (Jvm.Cond.constant "com/example/redolith/redolith/kv/StoreHashPinLaw" q.1 q.2).before a0 Z = true) ∧ (∀ q ∈ ([(11, (-4265267296055464877 : Int64)), (7, (2 : Int64)), (17, (-49064778989728563 : Int64)), (28, (-3750763034362895579 : Int64)), (30, (1099511628211 : Int64))] : List (Nat × Int64)), (Jvm.Cond.constantLong "com/example/redolith/redolith/kv/StoreHashPinLaw" q.1 q.2).before a0 Z = true) :=
    ⟨(fun q hq => nomatch hq), (fun q hq => by
      rcases List.mem_cons.mp hq with rfl | hq
      · exact hw _ (List.mem_of_getElem? (i := 13) rfl)
      rcases List.mem_cons.mp hq with rfl | hq
      · exact hw _ (List.mem_of_getElem? (i := 17) rfl)
      rcases List.mem_cons.mp hq with rfl | hq
      · exact hw _ (List.mem_of_getElem? (i := 18) rfl)
      rcases List.mem_cons.mp hq with rfl | hq
      · exact hw _ (List.mem_of_getElem? (i := 19) rfl)
      rcases List.mem_cons.mp hq with rfl | hq
      · exact hw _ (List.mem_of_getElem? (i := 20) rfl)
      exact nomatch hq)⟩
  refine X.blk hK (L := [(.lload_n 0, 1, 0, 0), (.lstore_n 2, 1, 0, 0), (.lload_n 2, 1, 0, 0), (.ldc2_w 7, 3, 0, 0), (.lload_n 0, 1, 0, 0), (.lload_n 2, 1, 0, 0), (.lmul, 1, 0, 0), (.lsub, 1, 0, 0), (.lmul, 1, 0, 0), (.lstore_n 2, 1, 0, 0)]) (pc' := 12) (ls' := #[.val (.long p1), .second, .val (.long (nw p1 p1)), .second]) (st' := []) (by decide +kernel) rfl ?_
  refine X.blk hK (L := [(.lload_n 2, 1, 0, 0), (.ldc2_w 7, 3, 0, 0), (.lload_n 0, 1, 0, 0), (.lload_n 2, 1, 0, 0), (.lmul, 1, 0, 0), (.lsub, 1, 0, 0), (.lmul, 1, 0, 0), (.lstore_n 2, 1, 0, 0)]) (pc' := 22) (ls' := #[.val (.long p1), .second, .val (.long (nw p1 (nw p1 p1))), .second]) (st' := []) (by decide +kernel) rfl ?_
  refine X.blk hK (L := [(.lload_n 2, 1, 0, 0), (.ldc2_w 7, 3, 0, 0), (.lload_n 0, 1, 0, 0), (.lload_n 2, 1, 0, 0), (.lmul, 1, 0, 0), (.lsub, 1, 0, 0), (.lmul, 1, 0, 0), (.lstore_n 2, 1, 0, 0)]) (pc' := 32) (ls' := #[.val (.long p1), .second, .val (.long (nw p1 (nw p1 (nw p1 p1)))), .second]) (st' := []) (by decide +kernel) rfl ?_
  refine X.blk hK (L := [(.lload_n 2, 1, 0, 0), (.ldc2_w 7, 3, 0, 0), (.lload_n 0, 1, 0, 0), (.lload_n 2, 1, 0, 0), (.lmul, 1, 0, 0), (.lsub, 1, 0, 0), (.lmul, 1, 0, 0), (.lstore_n 2, 1, 0, 0)]) (pc' := 42) (ls' := #[.val (.long p1), .second, .val (.long (nw p1 (nw p1 (nw p1 (nw p1 p1))))), .second]) (st' := []) (by decide +kernel) rfl ?_
  refine X.blk hK (L := [(.lload_n 2, 1, 0, 0), (.ldc2_w 7, 3, 0, 0), (.lload_n 0, 1, 0, 0), (.lload_n 2, 1, 0, 0), (.lmul, 1, 0, 0), (.lsub, 1, 0, 0), (.lmul, 1, 0, 0), (.lstore_n 2, 1, 0, 0)]) (pc' := 52) (ls' := #[.val (.long p1), .second, .val (.long (nw p1 (nw p1 (nw p1 (nw p1 (nw p1 p1)))))), .second]) (st' := []) (by decide +kernel) rfl ?_
  refine X.blk hK (L := [(.lload_n 2, 1, 0, 0)]) (pc' := 53) (ls' := #[.val (.long p1), .second, .val (.long (nw p1 (nw p1 (nw p1 (nw p1 (nw p1 p1)))))), .second]) (st' := [(.long (nw p1 (nw p1 (nw p1 (nw p1 (nw p1 p1))))))]) (by decide +kernel) rfl ?_
  exact X.retL (by decide +kernel) (by decide) (by decide) (⟨rfl, rfl⟩)
set_option maxRecDepth 65536 in
set_option maxHeartbeats 40000000 in
theorem rm_un (l : Launch) (Z : State) (a0 : Array Value) (hw : ∀ d ∈ tables_1, d.before a0 Z = true) (p1 : Int64) (h0 : Heap) (n0 : Nat) (Z0 : n0 ≤ h0.size)  :
    Cnt l Z (⟨"com/example/redolith/redolith/kv/StoreHashPinLaw", "unmix", "(J)J"⟩ : MethodName) method_3_code 4 (some .long) ({ frames := 1, cells := 0, slots := 0, locals := 19 } : Room) n0 #[(.long p1)] h0 (fun v h => v = some (.long (unm p1)) ∧ h0 = h) := by
  refine Cnt.mk (by first | exact plainFor_of_name (by first | (simp [plainName, overriddenIn]; done) | decide +kernel) | decide +kernel) Z0 ?_
  intro p e s m below meth c T X
  refine Go.cast (g' := mkF m 0 #[.val (.long p1), .second, .unset, .unset] []) (by first | (simp [entryFrame, mkF, argsToLocals, Value.category, maxLocals]; done) | rfl) ?_
  have hK : (∀ q ∈ ([] : List (Nat × Int32)), (Jvm.Cond.constant "com/example/redolith/redolith/kv/StoreHashPinLaw" q.1 q.2).before a0 Z = true) ∧ (∀ q ∈ ([(11, (-4265267296055464877 : Int64)), (7, (2 : Int64)), (17, (-49064778989728563 : Int64)), (28, (-3750763034362895579 : Int64)), (30, (1099511628211 : Int64))] : List (Nat × Int64)), (Jvm.Cond.constantLong "com/example/redolith/redolith/kv/StoreHashPinLaw" q.1 q.2).before a0 Z = true) :=
    ⟨(fun q hq => nomatch hq), (fun q hq => by
      rcases List.mem_cons.mp hq with rfl | hq
      · exact hw _ (List.mem_of_getElem? (i := 13) rfl)
      rcases List.mem_cons.mp hq with rfl | hq
      · exact hw _ (List.mem_of_getElem? (i := 17) rfl)
      rcases List.mem_cons.mp hq with rfl | hq
      · exact hw _ (List.mem_of_getElem? (i := 18) rfl)
      rcases List.mem_cons.mp hq with rfl | hq
      · exact hw _ (List.mem_of_getElem? (i := 19) rfl)
      rcases List.mem_cons.mp hq with rfl | hq
      · exact hw _ (List.mem_of_getElem? (i := 20) rfl)
      exact nomatch hq)⟩
  refine X.blk hK (L := [(.lload_n 0, 1, 0, 0), (.lload_n 0, 1, 0, 0), (.bipush 33, 2, 33, 0), (.lushr, 1, 0, 0), (.lxor, 1, 0, 0), (.lstore_n 2, 1, 0, 0)]) (pc' := 7) (ls' := #[.val (.long p1), .second, .val (.long (xs p1)), .second]) (st' := []) (by decide +kernel) rfl ?_
  refine X.blk hK (L := [(.lload_n 2, 1, 0, 0), (.ldc2_w 11, 3, 0, 0)]) (pc' := 11) (ls' := #[.val (.long p1), .second, .val (.long (xs p1)), .second]) (st' := [(.long (-4265267296055464877 : Int64)), (.long (xs p1))]) (by decide +kernel) rfl ?_
  refine X.callS 14 2 (argsL := [(.long (-4265267296055464877 : Int64))]) (rest := [(.long (xs p1))]) (rm_inv l Z a0 hw (-4265267296055464877 : Int64) h0 n0 Z0) (hw _ (List.mem_of_getElem? (i := 14) rfl)) (hw _ (List.mem_of_getElem? (i := 15) rfl)) (hw _ (List.mem_of_getElem? (i := 11) rfl)) (hw _ (List.mem_of_getElem? (i := 16) rfl)) (by decide) (ps := [.long]) (r := some .long) (by decide +kernel) rfl rfl rfl rfl (by decide +kernel) (by decide) ?_
  rintro T1 h1 v1 X1 ⟨rfl, rfl⟩
  show Go p e below s _ n0 _ (T1.setTop (mkF m 14 #[.val (.long p1), .second, .val (.long (xs p1)), .second] [(.long (inv (-4265267296055464877 : Int64))), (.long (xs p1))]))
  refine X1.blk hK (L := [(.lmul, 1, 0, 0), (.lstore_n 2, 1, 0, 0)]) (pc' := 16) (ls' := #[.val (.long p1), .second, .val (.long ((xs p1) * (inv (-4265267296055464877 : Int64)))), .second]) (st' := []) (by decide +kernel) rfl ?_
  refine X1.blk hK (L := [(.lload_n 2, 1, 0, 0), (.lload_n 2, 1, 0, 0), (.bipush 33, 2, 33, 0), (.lushr, 1, 0, 0), (.lxor, 1, 0, 0), (.lstore_n 2, 1, 0, 0)]) (pc' := 23) (ls' := #[.val (.long p1), .second, .val (.long (xs ((xs p1) * (inv (-4265267296055464877 : Int64))))), .second]) (st' := []) (by decide +kernel) rfl ?_
  refine X1.blk hK (L := [(.lload_n 2, 1, 0, 0), (.ldc2_w 17, 3, 0, 0)]) (pc' := 27) (ls' := #[.val (.long p1), .second, .val (.long (xs ((xs p1) * (inv (-4265267296055464877 : Int64))))), .second]) (st' := [(.long (-49064778989728563 : Int64)), (.long (xs ((xs p1) * (inv (-4265267296055464877 : Int64)))))]) (by decide +kernel) rfl ?_
  refine X1.callS 30 2 (argsL := [(.long (-49064778989728563 : Int64))]) (rest := [(.long (xs ((xs p1) * (inv (-4265267296055464877 : Int64)))))]) (rm_inv l Z a0 hw (-49064778989728563 : Int64) h0 n0 Z0) (hw _ (List.mem_of_getElem? (i := 14) rfl)) (hw _ (List.mem_of_getElem? (i := 15) rfl)) (hw _ (List.mem_of_getElem? (i := 11) rfl)) (hw _ (List.mem_of_getElem? (i := 16) rfl)) (by decide) (ps := [.long]) (r := some .long) (by decide +kernel) rfl rfl rfl rfl (by decide +kernel) (by decide) ?_
  rintro T2 h2 v2 X2 ⟨rfl, rfl⟩
  show Go p e below s _ n0 _ (T2.setTop (mkF m 30 #[.val (.long p1), .second, .val (.long (xs ((xs p1) * (inv (-4265267296055464877 : Int64))))), .second] [(.long (inv (-49064778989728563 : Int64))), (.long (xs ((xs p1) * (inv (-4265267296055464877 : Int64)))))]))
  refine X2.blk hK (L := [(.lmul, 1, 0, 0), (.lstore_n 2, 1, 0, 0)]) (pc' := 32) (ls' := #[.val (.long p1), .second, .val (.long ((xs ((xs p1) * (inv (-4265267296055464877 : Int64)))) * (inv (-49064778989728563 : Int64)))), .second]) (st' := []) (by decide +kernel) rfl ?_
  refine X2.blk hK (L := [(.lload_n 2, 1, 0, 0), (.lload_n 2, 1, 0, 0), (.bipush 33, 2, 33, 0), (.lushr, 1, 0, 0), (.lxor, 1, 0, 0), (.lstore_n 2, 1, 0, 0)]) (pc' := 39) (ls' := #[.val (.long p1), .second, .val (.long (xs ((xs ((xs p1) * (inv (-4265267296055464877 : Int64)))) * (inv (-49064778989728563 : Int64))))), .second]) (st' := []) (by decide +kernel) rfl ?_
  refine X2.blk hK (L := [(.lload_n 2, 1, 0, 0)]) (pc' := 40) (ls' := #[.val (.long p1), .second, .val (.long (xs ((xs ((xs p1) * (inv (-4265267296055464877 : Int64)))) * (inv (-49064778989728563 : Int64))))), .second]) (st' := [(.long (xs ((xs ((xs p1) * (inv (-4265267296055464877 : Int64)))) * (inv (-49064778989728563 : Int64)))))]) (by decide +kernel) rfl ?_
  exact X2.retL (by decide +kernel) (by decide) (by decide) (⟨rfl, rfl⟩)
set_option maxRecDepth 65536 in
set_option maxHeartbeats 40000000 in
theorem rm_hash0 (l : Launch) (Z : State) (a0 : Array Value) (hw : ∀ d ∈ tables_1, d.before a0 Z = true) (a1 : Addr)  (h0 : Heap) (n0 : Nat) (Z0 : n0 ≤ h0.size) (A : AV Z h0 a1 .byte []) :
    Cnt l Z (⟨"com/example/redolith/redolith/kv/Store", "hash", "([B)J"⟩ : MethodName) prog_113_method_16_code 7 (some .long) ({ frames := 0, cells := 0, slots := 0, locals := 0 } : Room) n0 #[(.ref a1)] h0 (fun v h => v = some (.long (mix ((-3750763034362895579 : Int64)))) ∧ h0 = h) := by
  refine Cnt.mk (by first | exact plainFor_of_name (by first | (simp [plainName, overriddenIn]; done) | decide +kernel) | decide +kernel) Z0 ?_
  intro p e s m below meth c T X
  refine Go.cast (g' := mkF m 0 #[.val (.ref a1), .unset, .unset, .unset, .unset, .unset, .unset] []) (by first | (simp [entryFrame, mkF, argsToLocals, Value.category, maxLocals]; done) | rfl) ?_
  have hK : (∀ q ∈ ([] : List (Nat × Int32)), (Jvm.Cond.constant "com/example/redolith/redolith/kv/Store" q.1 q.2).before a0 Z = true) ∧ (∀ q ∈ ([(192, (-3750763034362895579 : Int64)), (196, (-49064778989728563 : Int64)), (198, (-4265267296055464877 : Int64)), (194, (1099511628211 : Int64))] : List (Nat × Int64)), (Jvm.Cond.constantLong "com/example/redolith/redolith/kv/Store" q.1 q.2).before a0 Z = true) :=
    ⟨(fun q hq => nomatch hq), (fun q hq => by
      rcases List.mem_cons.mp hq with rfl | hq
      · exact hw _ (List.mem_of_getElem? (i := 5) rfl)
      rcases List.mem_cons.mp hq with rfl | hq
      · exact hw _ (List.mem_of_getElem? (i := 6) rfl)
      rcases List.mem_cons.mp hq with rfl | hq
      · exact hw _ (List.mem_of_getElem? (i := 7) rfl)
      rcases List.mem_cons.mp hq with rfl | hq
      · exact hw _ (List.mem_of_getElem? (i := 8) rfl)
      exact nomatch hq)⟩
  refine X.blk hK (L := [(.ldc2_w 192, 3, 0, 0), (.lstore_n 1, 1, 0, 0), (.aload_n 0, 1, 0, 0), (.astore_n 3, 1, 0, 0), (.aload_n 3, 1, 0, 0)]) (pc' := 7) (ls' := #[.val (.ref a1), .val (.long (-3750763034362895579 : Int64)), .second, .val (.ref a1), .unset, .unset, .unset]) (st' := [(.ref a1)]) (by decide +kernel) rfl ?_
  refine X.alen 8 (n := (0 : Int32)) A (by decide +kernel) (rfl) ?_
  refine X.blk hK (L := [(.istore 4, 2, 0, 0), (.iconst 0, 1, 0, 0), (.istore 5, 2, 0, 0)]) (pc' := 13) (ls' := #[.val (.ref a1), .val (.long (-3750763034362895579 : Int64)), .second, .val (.ref a1), .val (.int (0 : Int32)), .val (.int (0 : Int32)), .unset]) (st' := []) (by decide +kernel) rfl ?_
  refine X.blk hK (L := [(.iload 5, 2, 0, 0), (.iload 4, 2, 0, 0)]) (pc' := 17) (ls' := #[.val (.ref a1), .val (.long (-3750763034362895579 : Int64)), .second, .val (.ref a1), .val (.int (0 : Int32)), .val (.int (0 : Int32)), .unset]) (st' := [(.int (0 : Int32)), (.int (0 : Int32))]) (by decide +kernel) rfl ?_
  refine X.icmp .ge (29) 46 20 (by decide +kernel) (fun (c17 : ¬ (0 : Int32) < (0 : Int32)) => ?_) (fun (c17 : (0 : Int32) < (0 : Int32)) => absurd c17 (by decide : ¬ (0 : Int32) < (0 : Int32)))
  refine X.blk hK (L := [(.lload_n 1, 1, 0, 0), (.lload_n 1, 1, 0, 0), (.bipush 33, 2, 33, 0), (.lushr, 1, 0, 0), (.lxor, 1, 0, 0), (.ldc2_w 196, 3, 0, 0), (.lmul, 1, 0, 0), (.lstore_n 1, 1, 0, 0)]) (pc' := 57) (ls' := #[.val (.ref a1), .val (.long ((xs (-3750763034362895579 : Int64)) * (-49064778989728563 : Int64))), .second, .val (.ref a1), .val (.int (0 : Int32)), .val (.int (0 : Int32)), .unset]) (st' := []) (by decide +kernel) rfl ?_
  refine X.blk hK (L := [(.lload_n 1, 1, 0, 0), (.lload_n 1, 1, 0, 0), (.bipush 33, 2, 33, 0), (.lushr, 1, 0, 0), (.lxor, 1, 0, 0), (.ldc2_w 198, 3, 0, 0), (.lmul, 1, 0, 0), (.lstore_n 1, 1, 0, 0)]) (pc' := 68) (ls' := #[.val (.ref a1), .val (.long ((xs ((xs (-3750763034362895579 : Int64)) * (-49064778989728563 : Int64))) * (-4265267296055464877 : Int64))), .second, .val (.ref a1), .val (.int (0 : Int32)), .val (.int (0 : Int32)), .unset]) (st' := []) (by decide +kernel) rfl ?_
  refine X.blk hK (L := [(.lload_n 1, 1, 0, 0), (.lload_n 1, 1, 0, 0), (.bipush 33, 2, 33, 0), (.lushr, 1, 0, 0), (.lxor, 1, 0, 0)]) (pc' := 74) (ls' := #[.val (.ref a1), .val (.long ((xs ((xs (-3750763034362895579 : Int64)) * (-49064778989728563 : Int64))) * (-4265267296055464877 : Int64))), .second, .val (.ref a1), .val (.int (0 : Int32)), .val (.int (0 : Int32)), .unset]) (st' := [(.long (xs ((xs ((xs (-3750763034362895579 : Int64)) * (-49064778989728563 : Int64))) * (-4265267296055464877 : Int64))))]) (by decide +kernel) rfl ?_
  exact X.retL (by decide +kernel) (by decide) (by decide) (⟨rfl, rfl⟩)
set_option maxRecDepth 65536 in
set_option maxHeartbeats 40000000 in
theorem rm_hash1 (l : Launch) (Z : State) (a0 : Array Value) (hw : ∀ d ∈ tables_1, d.before a0 Z = true) (a1 : Addr) (b0 : Int32) (h0 : Heap) (n0 : Nat) (Z0 : n0 ≤ h0.size) (A : AV Z h0 a1 .byte [.int b0]) :
    Cnt l Z (⟨"com/example/redolith/redolith/kv/Store", "hash", "([B)J"⟩ : MethodName) prog_113_method_16_code 7 (some .long) ({ frames := 0, cells := 0, slots := 0, locals := 0 } : Room) n0 #[(.ref a1)] h0 (fun v h => v = some (.long (mix (stp (-3750763034362895579 : Int64) b0))) ∧ h0 = h) := by
  refine Cnt.mk (by first | exact plainFor_of_name (by first | (simp [plainName, overriddenIn]; done) | decide +kernel) | decide +kernel) Z0 ?_
  intro p e s m below meth c T X
  refine Go.cast (g' := mkF m 0 #[.val (.ref a1), .unset, .unset, .unset, .unset, .unset, .unset] []) (by first | (simp [entryFrame, mkF, argsToLocals, Value.category, maxLocals]; done) | rfl) ?_
  have hK : (∀ q ∈ ([] : List (Nat × Int32)), (Jvm.Cond.constant "com/example/redolith/redolith/kv/Store" q.1 q.2).before a0 Z = true) ∧ (∀ q ∈ ([(192, (-3750763034362895579 : Int64)), (196, (-49064778989728563 : Int64)), (198, (-4265267296055464877 : Int64)), (194, (1099511628211 : Int64))] : List (Nat × Int64)), (Jvm.Cond.constantLong "com/example/redolith/redolith/kv/Store" q.1 q.2).before a0 Z = true) :=
    ⟨(fun q hq => nomatch hq), (fun q hq => by
      rcases List.mem_cons.mp hq with rfl | hq
      · exact hw _ (List.mem_of_getElem? (i := 5) rfl)
      rcases List.mem_cons.mp hq with rfl | hq
      · exact hw _ (List.mem_of_getElem? (i := 6) rfl)
      rcases List.mem_cons.mp hq with rfl | hq
      · exact hw _ (List.mem_of_getElem? (i := 7) rfl)
      rcases List.mem_cons.mp hq with rfl | hq
      · exact hw _ (List.mem_of_getElem? (i := 8) rfl)
      exact nomatch hq)⟩
  refine X.blk hK (L := [(.ldc2_w 192, 3, 0, 0), (.lstore_n 1, 1, 0, 0), (.aload_n 0, 1, 0, 0), (.astore_n 3, 1, 0, 0), (.aload_n 3, 1, 0, 0)]) (pc' := 7) (ls' := #[.val (.ref a1), .val (.long (-3750763034362895579 : Int64)), .second, .val (.ref a1), .unset, .unset, .unset]) (st' := [(.ref a1)]) (by decide +kernel) rfl ?_
  refine X.alen 8 (n := (1 : Int32)) A (by decide +kernel) (rfl) ?_
  refine X.blk hK (L := [(.istore 4, 2, 0, 0), (.iconst 0, 1, 0, 0), (.istore 5, 2, 0, 0)]) (pc' := 13) (ls' := #[.val (.ref a1), .val (.long (-3750763034362895579 : Int64)), .second, .val (.ref a1), .val (.int (1 : Int32)), .val (.int (0 : Int32)), .unset]) (st' := []) (by decide +kernel) rfl ?_
  refine X.blk hK (L := [(.iload 5, 2, 0, 0), (.iload 4, 2, 0, 0)]) (pc' := 17) (ls' := #[.val (.ref a1), .val (.long (-3750763034362895579 : Int64)), .second, .val (.ref a1), .val (.int (1 : Int32)), .val (.int (0 : Int32)), .unset]) (st' := [(.int (1 : Int32)), (.int (0 : Int32))]) (by decide +kernel) rfl ?_
  refine X.icmp .ge (29) 46 20 (by decide +kernel) (fun (c17 : ¬ (0 : Int32) < (1 : Int32)) => absurd (by decide : (0 : Int32) < (1 : Int32)) c17) (fun (c17 : (0 : Int32) < (1 : Int32)) => ?_)
  refine X.blk hK (L := [(.aload_n 3, 1, 0, 0), (.iload 5, 2, 0, 0)]) (pc' := 23) (ls' := #[.val (.ref a1), .val (.long (-3750763034362895579 : Int64)), .second, .val (.ref a1), .val (.int (1 : Int32)), .val (.int (0 : Int32)), .unset]) (st' := [(.int (0 : Int32)), (.ref a1)]) (by decide +kernel) rfl ?_
  refine X.baload 24 A (by decide +kernel) (by decide) (rfl) ?_
  refine X.blk hK (L := [(.istore 6, 2, 0, 0), (.lload_n 1, 1, 0, 0), (.iload 6, 2, 0, 0), (.sipush 255, 3, 255, 0), (.iand, 1, 0, 0), (.i2l, 1, 0, 0), (.lxor, 1, 0, 0), (.ldc2_w 194, 3, 0, 0), (.lmul, 1, 0, 0), (.lstore_n 1, 1, 0, 0)]) (pc' := 40) (ls' := #[.val (.ref a1), .val (.long (((-3750763034362895579 : Int64) ^^^ ((b0 &&& (255 : Int32)).toInt64)) * (1099511628211 : Int64))), .second, .val (.ref a1), .val (.int (1 : Int32)), .val (.int (0 : Int32)), .val (.int b0)]) (st' := []) (by decide +kernel) rfl ?_
  refine X.blk hK (L := [(.iinc 5 1, 3, 1, 0), (.goto (-30), 3, 0, 13)]) (pc' := 13) (ls' := #[.val (.ref a1), .val (.long (((-3750763034362895579 : Int64) ^^^ ((b0 &&& (255 : Int32)).toInt64)) * (1099511628211 : Int64))), .second, .val (.ref a1), .val (.int (1 : Int32)), .val (.int (1 : Int32)), .val (.int b0)]) (st' := []) (by decide +kernel) rfl ?_
  refine X.blk hK (L := [(.iload 5, 2, 0, 0), (.iload 4, 2, 0, 0)]) (pc' := 17) (ls' := #[.val (.ref a1), .val (.long (((-3750763034362895579 : Int64) ^^^ ((b0 &&& (255 : Int32)).toInt64)) * (1099511628211 : Int64))), .second, .val (.ref a1), .val (.int (1 : Int32)), .val (.int (1 : Int32)), .val (.int b0)]) (st' := [(.int (1 : Int32)), (.int (1 : Int32))]) (by decide +kernel) rfl ?_
  refine X.icmp .ge (29) 46 20 (by decide +kernel) (fun (c17 : ¬ (1 : Int32) < (1 : Int32)) => ?_) (fun (c17 : (1 : Int32) < (1 : Int32)) => absurd c17 (by decide : ¬ (1 : Int32) < (1 : Int32)))
  refine X.blk hK (L := [(.lload_n 1, 1, 0, 0), (.lload_n 1, 1, 0, 0), (.bipush 33, 2, 33, 0), (.lushr, 1, 0, 0), (.lxor, 1, 0, 0), (.ldc2_w 196, 3, 0, 0), (.lmul, 1, 0, 0), (.lstore_n 1, 1, 0, 0)]) (pc' := 57) (ls' := #[.val (.ref a1), .val (.long (((((-3750763034362895579 : Int64) ^^^ ((b0 &&& (255 : Int32)).toInt64)) * (1099511628211 : Int64)) ^^^ (XT.ushrL (((-3750763034362895579 : Int64) ^^^ ((b0 &&& (255 : Int32)).toInt64)) * (1099511628211 : Int64)) (33 : Int32))) * (-49064778989728563 : Int64))), .second, .val (.ref a1), .val (.int (1 : Int32)), .val (.int (1 : Int32)), .val (.int b0)]) (st' := []) (by decide +kernel) rfl ?_
  refine X.blk hK (L := [(.lload_n 1, 1, 0, 0), (.lload_n 1, 1, 0, 0), (.bipush 33, 2, 33, 0), (.lushr, 1, 0, 0), (.lxor, 1, 0, 0), (.ldc2_w 198, 3, 0, 0), (.lmul, 1, 0, 0), (.lstore_n 1, 1, 0, 0)]) (pc' := 68) (ls' := #[.val (.ref a1), .val (.long (((((((-3750763034362895579 : Int64) ^^^ ((b0 &&& (255 : Int32)).toInt64)) * (1099511628211 : Int64)) ^^^ (XT.ushrL (((-3750763034362895579 : Int64) ^^^ ((b0 &&& (255 : Int32)).toInt64)) * (1099511628211 : Int64)) (33 : Int32))) * (-49064778989728563 : Int64)) ^^^ (XT.ushrL (((((-3750763034362895579 : Int64) ^^^ ((b0 &&& (255 : Int32)).toInt64)) * (1099511628211 : Int64)) ^^^ (XT.ushrL (((-3750763034362895579 : Int64) ^^^ ((b0 &&& (255 : Int32)).toInt64)) * (1099511628211 : Int64)) (33 : Int32))) * (-49064778989728563 : Int64)) (33 : Int32))) * (-4265267296055464877 : Int64))), .second, .val (.ref a1), .val (.int (1 : Int32)), .val (.int (1 : Int32)), .val (.int b0)]) (st' := []) (by decide +kernel) rfl ?_
  refine X.blk hK (L := [(.lload_n 1, 1, 0, 0), (.lload_n 1, 1, 0, 0), (.bipush 33, 2, 33, 0), (.lushr, 1, 0, 0), (.lxor, 1, 0, 0)]) (pc' := 74) (ls' := #[.val (.ref a1), .val (.long (((((((-3750763034362895579 : Int64) ^^^ ((b0 &&& (255 : Int32)).toInt64)) * (1099511628211 : Int64)) ^^^ (XT.ushrL (((-3750763034362895579 : Int64) ^^^ ((b0 &&& (255 : Int32)).toInt64)) * (1099511628211 : Int64)) (33 : Int32))) * (-49064778989728563 : Int64)) ^^^ (XT.ushrL (((((-3750763034362895579 : Int64) ^^^ ((b0 &&& (255 : Int32)).toInt64)) * (1099511628211 : Int64)) ^^^ (XT.ushrL (((-3750763034362895579 : Int64) ^^^ ((b0 &&& (255 : Int32)).toInt64)) * (1099511628211 : Int64)) (33 : Int32))) * (-49064778989728563 : Int64)) (33 : Int32))) * (-4265267296055464877 : Int64))), .second, .val (.ref a1), .val (.int (1 : Int32)), .val (.int (1 : Int32)), .val (.int b0)]) (st' := [(.long ((((((((-3750763034362895579 : Int64) ^^^ ((b0 &&& (255 : Int32)).toInt64)) * (1099511628211 : Int64)) ^^^ (XT.ushrL (((-3750763034362895579 : Int64) ^^^ ((b0 &&& (255 : Int32)).toInt64)) * (1099511628211 : Int64)) (33 : Int32))) * (-49064778989728563 : Int64)) ^^^ (XT.ushrL (((((-3750763034362895579 : Int64) ^^^ ((b0 &&& (255 : Int32)).toInt64)) * (1099511628211 : Int64)) ^^^ (XT.ushrL (((-3750763034362895579 : Int64) ^^^ ((b0 &&& (255 : Int32)).toInt64)) * (1099511628211 : Int64)) (33 : Int32))) * (-49064778989728563 : Int64)) (33 : Int32))) * (-4265267296055464877 : Int64)) ^^^ (XT.ushrL (((((((-3750763034362895579 : Int64) ^^^ ((b0 &&& (255 : Int32)).toInt64)) * (1099511628211 : Int64)) ^^^ (XT.ushrL (((-3750763034362895579 : Int64) ^^^ ((b0 &&& (255 : Int32)).toInt64)) * (1099511628211 : Int64)) (33 : Int32))) * (-49064778989728563 : Int64)) ^^^ (XT.ushrL (((((-3750763034362895579 : Int64) ^^^ ((b0 &&& (255 : Int32)).toInt64)) * (1099511628211 : Int64)) ^^^ (XT.ushrL (((-3750763034362895579 : Int64) ^^^ ((b0 &&& (255 : Int32)).toInt64)) * (1099511628211 : Int64)) (33 : Int32))) * (-49064778989728563 : Int64)) (33 : Int32))) * (-4265267296055464877 : Int64)) (33 : Int32))))]) (by decide +kernel) rfl ?_
  exact X.retL (by decide +kernel) (by decide) (by decide) (⟨rfl, rfl⟩)
set_option maxRecDepth 65536 in
set_option maxHeartbeats 40000000 in
theorem rm_hash2 (l : Launch) (Z : State) (a0 : Array Value) (hw : ∀ d ∈ tables_1, d.before a0 Z = true) (a1 : Addr) (b0 b1 : Int32) (h0 : Heap) (n0 : Nat) (Z0 : n0 ≤ h0.size) (A : AV Z h0 a1 .byte [.int b0, .int b1]) :
    Cnt l Z (⟨"com/example/redolith/redolith/kv/Store", "hash", "([B)J"⟩ : MethodName) prog_113_method_16_code 7 (some .long) ({ frames := 0, cells := 0, slots := 0, locals := 0 } : Room) n0 #[(.ref a1)] h0 (fun v h => v = some (.long (mix (stp (stp (-3750763034362895579 : Int64) b0) b1))) ∧ h0 = h) := by
  refine Cnt.mk (by first | exact plainFor_of_name (by first | (simp [plainName, overriddenIn]; done) | decide +kernel) | decide +kernel) Z0 ?_
  intro p e s m below meth c T X
  refine Go.cast (g' := mkF m 0 #[.val (.ref a1), .unset, .unset, .unset, .unset, .unset, .unset] []) (by first | (simp [entryFrame, mkF, argsToLocals, Value.category, maxLocals]; done) | rfl) ?_
  have hK : (∀ q ∈ ([] : List (Nat × Int32)), (Jvm.Cond.constant "com/example/redolith/redolith/kv/Store" q.1 q.2).before a0 Z = true) ∧ (∀ q ∈ ([(192, (-3750763034362895579 : Int64)), (196, (-49064778989728563 : Int64)), (198, (-4265267296055464877 : Int64)), (194, (1099511628211 : Int64))] : List (Nat × Int64)), (Jvm.Cond.constantLong "com/example/redolith/redolith/kv/Store" q.1 q.2).before a0 Z = true) :=
    ⟨(fun q hq => nomatch hq), (fun q hq => by
      rcases List.mem_cons.mp hq with rfl | hq
      · exact hw _ (List.mem_of_getElem? (i := 5) rfl)
      rcases List.mem_cons.mp hq with rfl | hq
      · exact hw _ (List.mem_of_getElem? (i := 6) rfl)
      rcases List.mem_cons.mp hq with rfl | hq
      · exact hw _ (List.mem_of_getElem? (i := 7) rfl)
      rcases List.mem_cons.mp hq with rfl | hq
      · exact hw _ (List.mem_of_getElem? (i := 8) rfl)
      exact nomatch hq)⟩
  refine X.blk hK (L := [(.ldc2_w 192, 3, 0, 0), (.lstore_n 1, 1, 0, 0), (.aload_n 0, 1, 0, 0), (.astore_n 3, 1, 0, 0), (.aload_n 3, 1, 0, 0)]) (pc' := 7) (ls' := #[.val (.ref a1), .val (.long (-3750763034362895579 : Int64)), .second, .val (.ref a1), .unset, .unset, .unset]) (st' := [(.ref a1)]) (by decide +kernel) rfl ?_
  refine X.alen 8 (n := (2 : Int32)) A (by decide +kernel) (rfl) ?_
  refine X.blk hK (L := [(.istore 4, 2, 0, 0), (.iconst 0, 1, 0, 0), (.istore 5, 2, 0, 0)]) (pc' := 13) (ls' := #[.val (.ref a1), .val (.long (-3750763034362895579 : Int64)), .second, .val (.ref a1), .val (.int (2 : Int32)), .val (.int (0 : Int32)), .unset]) (st' := []) (by decide +kernel) rfl ?_
  refine X.blk hK (L := [(.iload 5, 2, 0, 0), (.iload 4, 2, 0, 0)]) (pc' := 17) (ls' := #[.val (.ref a1), .val (.long (-3750763034362895579 : Int64)), .second, .val (.ref a1), .val (.int (2 : Int32)), .val (.int (0 : Int32)), .unset]) (st' := [(.int (2 : Int32)), (.int (0 : Int32))]) (by decide +kernel) rfl ?_
  refine X.icmp .ge (29) 46 20 (by decide +kernel) (fun (c17 : ¬ (0 : Int32) < (2 : Int32)) => absurd (by decide : (0 : Int32) < (2 : Int32)) c17) (fun (c17 : (0 : Int32) < (2 : Int32)) => ?_)
  refine X.blk hK (L := [(.aload_n 3, 1, 0, 0), (.iload 5, 2, 0, 0)]) (pc' := 23) (ls' := #[.val (.ref a1), .val (.long (-3750763034362895579 : Int64)), .second, .val (.ref a1), .val (.int (2 : Int32)), .val (.int (0 : Int32)), .unset]) (st' := [(.int (0 : Int32)), (.ref a1)]) (by decide +kernel) rfl ?_
  refine X.baload 24 A (by decide +kernel) (by decide) (rfl) ?_
  refine X.blk hK (L := [(.istore 6, 2, 0, 0), (.lload_n 1, 1, 0, 0), (.iload 6, 2, 0, 0), (.sipush 255, 3, 255, 0), (.iand, 1, 0, 0), (.i2l, 1, 0, 0), (.lxor, 1, 0, 0), (.ldc2_w 194, 3, 0, 0), (.lmul, 1, 0, 0), (.lstore_n 1, 1, 0, 0)]) (pc' := 40) (ls' := #[.val (.ref a1), .val (.long (((-3750763034362895579 : Int64) ^^^ ((b0 &&& (255 : Int32)).toInt64)) * (1099511628211 : Int64))), .second, .val (.ref a1), .val (.int (2 : Int32)), .val (.int (0 : Int32)), .val (.int b0)]) (st' := []) (by decide +kernel) rfl ?_
  refine X.blk hK (L := [(.iinc 5 1, 3, 1, 0), (.goto (-30), 3, 0, 13)]) (pc' := 13) (ls' := #[.val (.ref a1), .val (.long (((-3750763034362895579 : Int64) ^^^ ((b0 &&& (255 : Int32)).toInt64)) * (1099511628211 : Int64))), .second, .val (.ref a1), .val (.int (2 : Int32)), .val (.int (1 : Int32)), .val (.int b0)]) (st' := []) (by decide +kernel) rfl ?_
  refine X.blk hK (L := [(.iload 5, 2, 0, 0), (.iload 4, 2, 0, 0)]) (pc' := 17) (ls' := #[.val (.ref a1), .val (.long (((-3750763034362895579 : Int64) ^^^ ((b0 &&& (255 : Int32)).toInt64)) * (1099511628211 : Int64))), .second, .val (.ref a1), .val (.int (2 : Int32)), .val (.int (1 : Int32)), .val (.int b0)]) (st' := [(.int (2 : Int32)), (.int (1 : Int32))]) (by decide +kernel) rfl ?_
  refine X.icmp .ge (29) 46 20 (by decide +kernel) (fun (c17 : ¬ (1 : Int32) < (2 : Int32)) => absurd (by decide : (1 : Int32) < (2 : Int32)) c17) (fun (c17 : (1 : Int32) < (2 : Int32)) => ?_)
  refine X.blk hK (L := [(.aload_n 3, 1, 0, 0), (.iload 5, 2, 0, 0)]) (pc' := 23) (ls' := #[.val (.ref a1), .val (.long (((-3750763034362895579 : Int64) ^^^ ((b0 &&& (255 : Int32)).toInt64)) * (1099511628211 : Int64))), .second, .val (.ref a1), .val (.int (2 : Int32)), .val (.int (1 : Int32)), .val (.int b0)]) (st' := [(.int (1 : Int32)), (.ref a1)]) (by decide +kernel) rfl ?_
  refine X.baload 24 A (by decide +kernel) (by decide) (rfl) ?_
  refine X.blk hK (L := [(.istore 6, 2, 0, 0), (.lload_n 1, 1, 0, 0), (.iload 6, 2, 0, 0), (.sipush 255, 3, 255, 0), (.iand, 1, 0, 0), (.i2l, 1, 0, 0), (.lxor, 1, 0, 0), (.ldc2_w 194, 3, 0, 0), (.lmul, 1, 0, 0), (.lstore_n 1, 1, 0, 0)]) (pc' := 40) (ls' := #[.val (.ref a1), .val (.long (((((-3750763034362895579 : Int64) ^^^ ((b0 &&& (255 : Int32)).toInt64)) * (1099511628211 : Int64)) ^^^ ((b1 &&& (255 : Int32)).toInt64)) * (1099511628211 : Int64))), .second, .val (.ref a1), .val (.int (2 : Int32)), .val (.int (1 : Int32)), .val (.int b1)]) (st' := []) (by decide +kernel) rfl ?_
  refine X.blk hK (L := [(.iinc 5 1, 3, 1, 0), (.goto (-30), 3, 0, 13)]) (pc' := 13) (ls' := #[.val (.ref a1), .val (.long (((((-3750763034362895579 : Int64) ^^^ ((b0 &&& (255 : Int32)).toInt64)) * (1099511628211 : Int64)) ^^^ ((b1 &&& (255 : Int32)).toInt64)) * (1099511628211 : Int64))), .second, .val (.ref a1), .val (.int (2 : Int32)), .val (.int (2 : Int32)), .val (.int b1)]) (st' := []) (by decide +kernel) rfl ?_
  refine X.blk hK (L := [(.iload 5, 2, 0, 0), (.iload 4, 2, 0, 0)]) (pc' := 17) (ls' := #[.val (.ref a1), .val (.long (((((-3750763034362895579 : Int64) ^^^ ((b0 &&& (255 : Int32)).toInt64)) * (1099511628211 : Int64)) ^^^ ((b1 &&& (255 : Int32)).toInt64)) * (1099511628211 : Int64))), .second, .val (.ref a1), .val (.int (2 : Int32)), .val (.int (2 : Int32)), .val (.int b1)]) (st' := [(.int (2 : Int32)), (.int (2 : Int32))]) (by decide +kernel) rfl ?_
  refine X.icmp .ge (29) 46 20 (by decide +kernel) (fun (c17 : ¬ (2 : Int32) < (2 : Int32)) => ?_) (fun (c17 : (2 : Int32) < (2 : Int32)) => absurd c17 (by decide : ¬ (2 : Int32) < (2 : Int32)))
  refine X.blk hK (L := [(.lload_n 1, 1, 0, 0), (.lload_n 1, 1, 0, 0), (.bipush 33, 2, 33, 0), (.lushr, 1, 0, 0), (.lxor, 1, 0, 0), (.ldc2_w 196, 3, 0, 0), (.lmul, 1, 0, 0), (.lstore_n 1, 1, 0, 0)]) (pc' := 57) (ls' := #[.val (.ref a1), .val (.long (((((((-3750763034362895579 : Int64) ^^^ ((b0 &&& (255 : Int32)).toInt64)) * (1099511628211 : Int64)) ^^^ ((b1 &&& (255 : Int32)).toInt64)) * (1099511628211 : Int64)) ^^^ (XT.ushrL (((((-3750763034362895579 : Int64) ^^^ ((b0 &&& (255 : Int32)).toInt64)) * (1099511628211 : Int64)) ^^^ ((b1 &&& (255 : Int32)).toInt64)) * (1099511628211 : Int64)) (33 : Int32))) * (-49064778989728563 : Int64))), .second, .val (.ref a1), .val (.int (2 : Int32)), .val (.int (2 : Int32)), .val (.int b1)]) (st' := []) (by decide +kernel) rfl ?_
  refine X.blk hK (L := [(.lload_n 1, 1, 0, 0), (.lload_n 1, 1, 0, 0), (.bipush 33, 2, 33, 0), (.lushr, 1, 0, 0), (.lxor, 1, 0, 0), (.ldc2_w 198, 3, 0, 0), (.lmul, 1, 0, 0), (.lstore_n 1, 1, 0, 0)]) (pc' := 68) (ls' := #[.val (.ref a1), .val (.long (((((((((-3750763034362895579 : Int64) ^^^ ((b0 &&& (255 : Int32)).toInt64)) * (1099511628211 : Int64)) ^^^ ((b1 &&& (255 : Int32)).toInt64)) * (1099511628211 : Int64)) ^^^ (XT.ushrL (((((-3750763034362895579 : Int64) ^^^ ((b0 &&& (255 : Int32)).toInt64)) * (1099511628211 : Int64)) ^^^ ((b1 &&& (255 : Int32)).toInt64)) * (1099511628211 : Int64)) (33 : Int32))) * (-49064778989728563 : Int64)) ^^^ (XT.ushrL (((((((-3750763034362895579 : Int64) ^^^ ((b0 &&& (255 : Int32)).toInt64)) * (1099511628211 : Int64)) ^^^ ((b1 &&& (255 : Int32)).toInt64)) * (1099511628211 : Int64)) ^^^ (XT.ushrL (((((-3750763034362895579 : Int64) ^^^ ((b0 &&& (255 : Int32)).toInt64)) * (1099511628211 : Int64)) ^^^ ((b1 &&& (255 : Int32)).toInt64)) * (1099511628211 : Int64)) (33 : Int32))) * (-49064778989728563 : Int64)) (33 : Int32))) * (-4265267296055464877 : Int64))), .second, .val (.ref a1), .val (.int (2 : Int32)), .val (.int (2 : Int32)), .val (.int b1)]) (st' := []) (by decide +kernel) rfl ?_
  refine X.blk hK (L := [(.lload_n 1, 1, 0, 0), (.lload_n 1, 1, 0, 0), (.bipush 33, 2, 33, 0), (.lushr, 1, 0, 0), (.lxor, 1, 0, 0)]) (pc' := 74) (ls' := #[.val (.ref a1), .val (.long (((((((((-3750763034362895579 : Int64) ^^^ ((b0 &&& (255 : Int32)).toInt64)) * (1099511628211 : Int64)) ^^^ ((b1 &&& (255 : Int32)).toInt64)) * (1099511628211 : Int64)) ^^^ (XT.ushrL (((((-3750763034362895579 : Int64) ^^^ ((b0 &&& (255 : Int32)).toInt64)) * (1099511628211 : Int64)) ^^^ ((b1 &&& (255 : Int32)).toInt64)) * (1099511628211 : Int64)) (33 : Int32))) * (-49064778989728563 : Int64)) ^^^ (XT.ushrL (((((((-3750763034362895579 : Int64) ^^^ ((b0 &&& (255 : Int32)).toInt64)) * (1099511628211 : Int64)) ^^^ ((b1 &&& (255 : Int32)).toInt64)) * (1099511628211 : Int64)) ^^^ (XT.ushrL (((((-3750763034362895579 : Int64) ^^^ ((b0 &&& (255 : Int32)).toInt64)) * (1099511628211 : Int64)) ^^^ ((b1 &&& (255 : Int32)).toInt64)) * (1099511628211 : Int64)) (33 : Int32))) * (-49064778989728563 : Int64)) (33 : Int32))) * (-4265267296055464877 : Int64))), .second, .val (.ref a1), .val (.int (2 : Int32)), .val (.int (2 : Int32)), .val (.int b1)]) (st' := [(.long ((((((((((-3750763034362895579 : Int64) ^^^ ((b0 &&& (255 : Int32)).toInt64)) * (1099511628211 : Int64)) ^^^ ((b1 &&& (255 : Int32)).toInt64)) * (1099511628211 : Int64)) ^^^ (XT.ushrL (((((-3750763034362895579 : Int64) ^^^ ((b0 &&& (255 : Int32)).toInt64)) * (1099511628211 : Int64)) ^^^ ((b1 &&& (255 : Int32)).toInt64)) * (1099511628211 : Int64)) (33 : Int32))) * (-49064778989728563 : Int64)) ^^^ (XT.ushrL (((((((-3750763034362895579 : Int64) ^^^ ((b0 &&& (255 : Int32)).toInt64)) * (1099511628211 : Int64)) ^^^ ((b1 &&& (255 : Int32)).toInt64)) * (1099511628211 : Int64)) ^^^ (XT.ushrL (((((-3750763034362895579 : Int64) ^^^ ((b0 &&& (255 : Int32)).toInt64)) * (1099511628211 : Int64)) ^^^ ((b1 &&& (255 : Int32)).toInt64)) * (1099511628211 : Int64)) (33 : Int32))) * (-49064778989728563 : Int64)) (33 : Int32))) * (-4265267296055464877 : Int64)) ^^^ (XT.ushrL (((((((((-3750763034362895579 : Int64) ^^^ ((b0 &&& (255 : Int32)).toInt64)) * (1099511628211 : Int64)) ^^^ ((b1 &&& (255 : Int32)).toInt64)) * (1099511628211 : Int64)) ^^^ (XT.ushrL (((((-3750763034362895579 : Int64) ^^^ ((b0 &&& (255 : Int32)).toInt64)) * (1099511628211 : Int64)) ^^^ ((b1 &&& (255 : Int32)).toInt64)) * (1099511628211 : Int64)) (33 : Int32))) * (-49064778989728563 : Int64)) ^^^ (XT.ushrL (((((((-3750763034362895579 : Int64) ^^^ ((b0 &&& (255 : Int32)).toInt64)) * (1099511628211 : Int64)) ^^^ ((b1 &&& (255 : Int32)).toInt64)) * (1099511628211 : Int64)) ^^^ (XT.ushrL (((((-3750763034362895579 : Int64) ^^^ ((b0 &&& (255 : Int32)).toInt64)) * (1099511628211 : Int64)) ^^^ ((b1 &&& (255 : Int32)).toInt64)) * (1099511628211 : Int64)) (33 : Int32))) * (-49064778989728563 : Int64)) (33 : Int32))) * (-4265267296055464877 : Int64)) (33 : Int32))))]) (by decide +kernel) rfl ?_
  exact X.retL (by decide +kernel) (by decide) (by decide) (⟨rfl, rfl⟩)
set_option maxRecDepth 65536 in
set_option maxHeartbeats 40000000 in
theorem rm_hash3 (l : Launch) (Z : State) (a0 : Array Value) (hw : ∀ d ∈ tables_1, d.before a0 Z = true) (a1 : Addr) (b0 b1 b2 : Int32) (h0 : Heap) (n0 : Nat) (Z0 : n0 ≤ h0.size) (A : AV Z h0 a1 .byte [.int b0, .int b1, .int b2]) :
    Cnt l Z (⟨"com/example/redolith/redolith/kv/Store", "hash", "([B)J"⟩ : MethodName) prog_113_method_16_code 7 (some .long) ({ frames := 0, cells := 0, slots := 0, locals := 0 } : Room) n0 #[(.ref a1)] h0 (fun v h => v = some (.long (mix (stp (stp (stp (-3750763034362895579 : Int64) b0) b1) b2))) ∧ h0 = h) := by
  refine Cnt.mk (by first | exact plainFor_of_name (by first | (simp [plainName, overriddenIn]; done) | decide +kernel) | decide +kernel) Z0 ?_
  intro p e s m below meth c T X
  refine Go.cast (g' := mkF m 0 #[.val (.ref a1), .unset, .unset, .unset, .unset, .unset, .unset] []) (by first | (simp [entryFrame, mkF, argsToLocals, Value.category, maxLocals]; done) | rfl) ?_
  have hK : (∀ q ∈ ([] : List (Nat × Int32)), (Jvm.Cond.constant "com/example/redolith/redolith/kv/Store" q.1 q.2).before a0 Z = true) ∧ (∀ q ∈ ([(192, (-3750763034362895579 : Int64)), (196, (-49064778989728563 : Int64)), (198, (-4265267296055464877 : Int64)), (194, (1099511628211 : Int64))] : List (Nat × Int64)), (Jvm.Cond.constantLong "com/example/redolith/redolith/kv/Store" q.1 q.2).before a0 Z = true) :=
    ⟨(fun q hq => nomatch hq), (fun q hq => by
      rcases List.mem_cons.mp hq with rfl | hq
      · exact hw _ (List.mem_of_getElem? (i := 5) rfl)
      rcases List.mem_cons.mp hq with rfl | hq
      · exact hw _ (List.mem_of_getElem? (i := 6) rfl)
      rcases List.mem_cons.mp hq with rfl | hq
      · exact hw _ (List.mem_of_getElem? (i := 7) rfl)
      rcases List.mem_cons.mp hq with rfl | hq
      · exact hw _ (List.mem_of_getElem? (i := 8) rfl)
      exact nomatch hq)⟩
  refine X.blk hK (L := [(.ldc2_w 192, 3, 0, 0), (.lstore_n 1, 1, 0, 0), (.aload_n 0, 1, 0, 0), (.astore_n 3, 1, 0, 0), (.aload_n 3, 1, 0, 0)]) (pc' := 7) (ls' := #[.val (.ref a1), .val (.long (-3750763034362895579 : Int64)), .second, .val (.ref a1), .unset, .unset, .unset]) (st' := [(.ref a1)]) (by decide +kernel) rfl ?_
  refine X.alen 8 (n := (3 : Int32)) A (by decide +kernel) (rfl) ?_
  refine X.blk hK (L := [(.istore 4, 2, 0, 0), (.iconst 0, 1, 0, 0), (.istore 5, 2, 0, 0)]) (pc' := 13) (ls' := #[.val (.ref a1), .val (.long (-3750763034362895579 : Int64)), .second, .val (.ref a1), .val (.int (3 : Int32)), .val (.int (0 : Int32)), .unset]) (st' := []) (by decide +kernel) rfl ?_
  refine X.blk hK (L := [(.iload 5, 2, 0, 0), (.iload 4, 2, 0, 0)]) (pc' := 17) (ls' := #[.val (.ref a1), .val (.long (-3750763034362895579 : Int64)), .second, .val (.ref a1), .val (.int (3 : Int32)), .val (.int (0 : Int32)), .unset]) (st' := [(.int (3 : Int32)), (.int (0 : Int32))]) (by decide +kernel) rfl ?_
  refine X.icmp .ge (29) 46 20 (by decide +kernel) (fun (c17 : ¬ (0 : Int32) < (3 : Int32)) => absurd (by decide : (0 : Int32) < (3 : Int32)) c17) (fun (c17 : (0 : Int32) < (3 : Int32)) => ?_)
  refine X.blk hK (L := [(.aload_n 3, 1, 0, 0), (.iload 5, 2, 0, 0)]) (pc' := 23) (ls' := #[.val (.ref a1), .val (.long (-3750763034362895579 : Int64)), .second, .val (.ref a1), .val (.int (3 : Int32)), .val (.int (0 : Int32)), .unset]) (st' := [(.int (0 : Int32)), (.ref a1)]) (by decide +kernel) rfl ?_
  refine X.baload 24 A (by decide +kernel) (by decide) (rfl) ?_
  refine X.blk hK (L := [(.istore 6, 2, 0, 0), (.lload_n 1, 1, 0, 0), (.iload 6, 2, 0, 0), (.sipush 255, 3, 255, 0), (.iand, 1, 0, 0), (.i2l, 1, 0, 0), (.lxor, 1, 0, 0), (.ldc2_w 194, 3, 0, 0), (.lmul, 1, 0, 0), (.lstore_n 1, 1, 0, 0)]) (pc' := 40) (ls' := #[.val (.ref a1), .val (.long (((-3750763034362895579 : Int64) ^^^ ((b0 &&& (255 : Int32)).toInt64)) * (1099511628211 : Int64))), .second, .val (.ref a1), .val (.int (3 : Int32)), .val (.int (0 : Int32)), .val (.int b0)]) (st' := []) (by decide +kernel) rfl ?_
  refine X.blk hK (L := [(.iinc 5 1, 3, 1, 0), (.goto (-30), 3, 0, 13)]) (pc' := 13) (ls' := #[.val (.ref a1), .val (.long (((-3750763034362895579 : Int64) ^^^ ((b0 &&& (255 : Int32)).toInt64)) * (1099511628211 : Int64))), .second, .val (.ref a1), .val (.int (3 : Int32)), .val (.int (1 : Int32)), .val (.int b0)]) (st' := []) (by decide +kernel) rfl ?_
  refine X.blk hK (L := [(.iload 5, 2, 0, 0), (.iload 4, 2, 0, 0)]) (pc' := 17) (ls' := #[.val (.ref a1), .val (.long (((-3750763034362895579 : Int64) ^^^ ((b0 &&& (255 : Int32)).toInt64)) * (1099511628211 : Int64))), .second, .val (.ref a1), .val (.int (3 : Int32)), .val (.int (1 : Int32)), .val (.int b0)]) (st' := [(.int (3 : Int32)), (.int (1 : Int32))]) (by decide +kernel) rfl ?_
  refine X.icmp .ge (29) 46 20 (by decide +kernel) (fun (c17 : ¬ (1 : Int32) < (3 : Int32)) => absurd (by decide : (1 : Int32) < (3 : Int32)) c17) (fun (c17 : (1 : Int32) < (3 : Int32)) => ?_)
  refine X.blk hK (L := [(.aload_n 3, 1, 0, 0), (.iload 5, 2, 0, 0)]) (pc' := 23) (ls' := #[.val (.ref a1), .val (.long (((-3750763034362895579 : Int64) ^^^ ((b0 &&& (255 : Int32)).toInt64)) * (1099511628211 : Int64))), .second, .val (.ref a1), .val (.int (3 : Int32)), .val (.int (1 : Int32)), .val (.int b0)]) (st' := [(.int (1 : Int32)), (.ref a1)]) (by decide +kernel) rfl ?_
  refine X.baload 24 A (by decide +kernel) (by decide) (rfl) ?_
  refine X.blk hK (L := [(.istore 6, 2, 0, 0), (.lload_n 1, 1, 0, 0), (.iload 6, 2, 0, 0), (.sipush 255, 3, 255, 0), (.iand, 1, 0, 0), (.i2l, 1, 0, 0), (.lxor, 1, 0, 0), (.ldc2_w 194, 3, 0, 0), (.lmul, 1, 0, 0), (.lstore_n 1, 1, 0, 0)]) (pc' := 40) (ls' := #[.val (.ref a1), .val (.long (((((-3750763034362895579 : Int64) ^^^ ((b0 &&& (255 : Int32)).toInt64)) * (1099511628211 : Int64)) ^^^ ((b1 &&& (255 : Int32)).toInt64)) * (1099511628211 : Int64))), .second, .val (.ref a1), .val (.int (3 : Int32)), .val (.int (1 : Int32)), .val (.int b1)]) (st' := []) (by decide +kernel) rfl ?_
  refine X.blk hK (L := [(.iinc 5 1, 3, 1, 0), (.goto (-30), 3, 0, 13)]) (pc' := 13) (ls' := #[.val (.ref a1), .val (.long (((((-3750763034362895579 : Int64) ^^^ ((b0 &&& (255 : Int32)).toInt64)) * (1099511628211 : Int64)) ^^^ ((b1 &&& (255 : Int32)).toInt64)) * (1099511628211 : Int64))), .second, .val (.ref a1), .val (.int (3 : Int32)), .val (.int (2 : Int32)), .val (.int b1)]) (st' := []) (by decide +kernel) rfl ?_
  refine X.blk hK (L := [(.iload 5, 2, 0, 0), (.iload 4, 2, 0, 0)]) (pc' := 17) (ls' := #[.val (.ref a1), .val (.long (((((-3750763034362895579 : Int64) ^^^ ((b0 &&& (255 : Int32)).toInt64)) * (1099511628211 : Int64)) ^^^ ((b1 &&& (255 : Int32)).toInt64)) * (1099511628211 : Int64))), .second, .val (.ref a1), .val (.int (3 : Int32)), .val (.int (2 : Int32)), .val (.int b1)]) (st' := [(.int (3 : Int32)), (.int (2 : Int32))]) (by decide +kernel) rfl ?_
  refine X.icmp .ge (29) 46 20 (by decide +kernel) (fun (c17 : ¬ (2 : Int32) < (3 : Int32)) => absurd (by decide : (2 : Int32) < (3 : Int32)) c17) (fun (c17 : (2 : Int32) < (3 : Int32)) => ?_)
  refine X.blk hK (L := [(.aload_n 3, 1, 0, 0), (.iload 5, 2, 0, 0)]) (pc' := 23) (ls' := #[.val (.ref a1), .val (.long (((((-3750763034362895579 : Int64) ^^^ ((b0 &&& (255 : Int32)).toInt64)) * (1099511628211 : Int64)) ^^^ ((b1 &&& (255 : Int32)).toInt64)) * (1099511628211 : Int64))), .second, .val (.ref a1), .val (.int (3 : Int32)), .val (.int (2 : Int32)), .val (.int b1)]) (st' := [(.int (2 : Int32)), (.ref a1)]) (by decide +kernel) rfl ?_
  refine X.baload 24 A (by decide +kernel) (by decide) (rfl) ?_
  refine X.blk hK (L := [(.istore 6, 2, 0, 0), (.lload_n 1, 1, 0, 0), (.iload 6, 2, 0, 0), (.sipush 255, 3, 255, 0), (.iand, 1, 0, 0), (.i2l, 1, 0, 0), (.lxor, 1, 0, 0), (.ldc2_w 194, 3, 0, 0), (.lmul, 1, 0, 0), (.lstore_n 1, 1, 0, 0)]) (pc' := 40) (ls' := #[.val (.ref a1), .val (.long (((((((-3750763034362895579 : Int64) ^^^ ((b0 &&& (255 : Int32)).toInt64)) * (1099511628211 : Int64)) ^^^ ((b1 &&& (255 : Int32)).toInt64)) * (1099511628211 : Int64)) ^^^ ((b2 &&& (255 : Int32)).toInt64)) * (1099511628211 : Int64))), .second, .val (.ref a1), .val (.int (3 : Int32)), .val (.int (2 : Int32)), .val (.int b2)]) (st' := []) (by decide +kernel) rfl ?_
  refine X.blk hK (L := [(.iinc 5 1, 3, 1, 0), (.goto (-30), 3, 0, 13)]) (pc' := 13) (ls' := #[.val (.ref a1), .val (.long (((((((-3750763034362895579 : Int64) ^^^ ((b0 &&& (255 : Int32)).toInt64)) * (1099511628211 : Int64)) ^^^ ((b1 &&& (255 : Int32)).toInt64)) * (1099511628211 : Int64)) ^^^ ((b2 &&& (255 : Int32)).toInt64)) * (1099511628211 : Int64))), .second, .val (.ref a1), .val (.int (3 : Int32)), .val (.int (3 : Int32)), .val (.int b2)]) (st' := []) (by decide +kernel) rfl ?_
  refine X.blk hK (L := [(.iload 5, 2, 0, 0), (.iload 4, 2, 0, 0)]) (pc' := 17) (ls' := #[.val (.ref a1), .val (.long (((((((-3750763034362895579 : Int64) ^^^ ((b0 &&& (255 : Int32)).toInt64)) * (1099511628211 : Int64)) ^^^ ((b1 &&& (255 : Int32)).toInt64)) * (1099511628211 : Int64)) ^^^ ((b2 &&& (255 : Int32)).toInt64)) * (1099511628211 : Int64))), .second, .val (.ref a1), .val (.int (3 : Int32)), .val (.int (3 : Int32)), .val (.int b2)]) (st' := [(.int (3 : Int32)), (.int (3 : Int32))]) (by decide +kernel) rfl ?_
  refine X.icmp .ge (29) 46 20 (by decide +kernel) (fun (c17 : ¬ (3 : Int32) < (3 : Int32)) => ?_) (fun (c17 : (3 : Int32) < (3 : Int32)) => absurd c17 (by decide : ¬ (3 : Int32) < (3 : Int32)))
  refine X.blk hK (L := [(.lload_n 1, 1, 0, 0), (.lload_n 1, 1, 0, 0), (.bipush 33, 2, 33, 0), (.lushr, 1, 0, 0), (.lxor, 1, 0, 0), (.ldc2_w 196, 3, 0, 0), (.lmul, 1, 0, 0), (.lstore_n 1, 1, 0, 0)]) (pc' := 57) (ls' := #[.val (.ref a1), .val (.long (((((((((-3750763034362895579 : Int64) ^^^ ((b0 &&& (255 : Int32)).toInt64)) * (1099511628211 : Int64)) ^^^ ((b1 &&& (255 : Int32)).toInt64)) * (1099511628211 : Int64)) ^^^ ((b2 &&& (255 : Int32)).toInt64)) * (1099511628211 : Int64)) ^^^ (XT.ushrL (((((((-3750763034362895579 : Int64) ^^^ ((b0 &&& (255 : Int32)).toInt64)) * (1099511628211 : Int64)) ^^^ ((b1 &&& (255 : Int32)).toInt64)) * (1099511628211 : Int64)) ^^^ ((b2 &&& (255 : Int32)).toInt64)) * (1099511628211 : Int64)) (33 : Int32))) * (-49064778989728563 : Int64))), .second, .val (.ref a1), .val (.int (3 : Int32)), .val (.int (3 : Int32)), .val (.int b2)]) (st' := []) (by decide +kernel) rfl ?_
  refine X.blk hK (L := [(.lload_n 1, 1, 0, 0), (.lload_n 1, 1, 0, 0), (.bipush 33, 2, 33, 0), (.lushr, 1, 0, 0), (.lxor, 1, 0, 0), (.ldc2_w 198, 3, 0, 0), (.lmul, 1, 0, 0), (.lstore_n 1, 1, 0, 0)]) (pc' := 68) (ls' := #[.val (.ref a1), .val (.long (((((((((((-3750763034362895579 : Int64) ^^^ ((b0 &&& (255 : Int32)).toInt64)) * (1099511628211 : Int64)) ^^^ ((b1 &&& (255 : Int32)).toInt64)) * (1099511628211 : Int64)) ^^^ ((b2 &&& (255 : Int32)).toInt64)) * (1099511628211 : Int64)) ^^^ (XT.ushrL (((((((-3750763034362895579 : Int64) ^^^ ((b0 &&& (255 : Int32)).toInt64)) * (1099511628211 : Int64)) ^^^ ((b1 &&& (255 : Int32)).toInt64)) * (1099511628211 : Int64)) ^^^ ((b2 &&& (255 : Int32)).toInt64)) * (1099511628211 : Int64)) (33 : Int32))) * (-49064778989728563 : Int64)) ^^^ (XT.ushrL (((((((((-3750763034362895579 : Int64) ^^^ ((b0 &&& (255 : Int32)).toInt64)) * (1099511628211 : Int64)) ^^^ ((b1 &&& (255 : Int32)).toInt64)) * (1099511628211 : Int64)) ^^^ ((b2 &&& (255 : Int32)).toInt64)) * (1099511628211 : Int64)) ^^^ (XT.ushrL (((((((-3750763034362895579 : Int64) ^^^ ((b0 &&& (255 : Int32)).toInt64)) * (1099511628211 : Int64)) ^^^ ((b1 &&& (255 : Int32)).toInt64)) * (1099511628211 : Int64)) ^^^ ((b2 &&& (255 : Int32)).toInt64)) * (1099511628211 : Int64)) (33 : Int32))) * (-49064778989728563 : Int64)) (33 : Int32))) * (-4265267296055464877 : Int64))), .second, .val (.ref a1), .val (.int (3 : Int32)), .val (.int (3 : Int32)), .val (.int b2)]) (st' := []) (by decide +kernel) rfl ?_
  refine X.blk hK (L := [(.lload_n 1, 1, 0, 0), (.lload_n 1, 1, 0, 0), (.bipush 33, 2, 33, 0), (.lushr, 1, 0, 0), (.lxor, 1, 0, 0)]) (pc' := 74) (ls' := #[.val (.ref a1), .val (.long (((((((((((-3750763034362895579 : Int64) ^^^ ((b0 &&& (255 : Int32)).toInt64)) * (1099511628211 : Int64)) ^^^ ((b1 &&& (255 : Int32)).toInt64)) * (1099511628211 : Int64)) ^^^ ((b2 &&& (255 : Int32)).toInt64)) * (1099511628211 : Int64)) ^^^ (XT.ushrL (((((((-3750763034362895579 : Int64) ^^^ ((b0 &&& (255 : Int32)).toInt64)) * (1099511628211 : Int64)) ^^^ ((b1 &&& (255 : Int32)).toInt64)) * (1099511628211 : Int64)) ^^^ ((b2 &&& (255 : Int32)).toInt64)) * (1099511628211 : Int64)) (33 : Int32))) * (-49064778989728563 : Int64)) ^^^ (XT.ushrL (((((((((-3750763034362895579 : Int64) ^^^ ((b0 &&& (255 : Int32)).toInt64)) * (1099511628211 : Int64)) ^^^ ((b1 &&& (255 : Int32)).toInt64)) * (1099511628211 : Int64)) ^^^ ((b2 &&& (255 : Int32)).toInt64)) * (1099511628211 : Int64)) ^^^ (XT.ushrL (((((((-3750763034362895579 : Int64) ^^^ ((b0 &&& (255 : Int32)).toInt64)) * (1099511628211 : Int64)) ^^^ ((b1 &&& (255 : Int32)).toInt64)) * (1099511628211 : Int64)) ^^^ ((b2 &&& (255 : Int32)).toInt64)) * (1099511628211 : Int64)) (33 : Int32))) * (-49064778989728563 : Int64)) (33 : Int32))) * (-4265267296055464877 : Int64))), .second, .val (.ref a1), .val (.int (3 : Int32)), .val (.int (3 : Int32)), .val (.int b2)]) (st' := [(.long ((((((((((((-3750763034362895579 : Int64) ^^^ ((b0 &&& (255 : Int32)).toInt64)) * (1099511628211 : Int64)) ^^^ ((b1 &&& (255 : Int32)).toInt64)) * (1099511628211 : Int64)) ^^^ ((b2 &&& (255 : Int32)).toInt64)) * (1099511628211 : Int64)) ^^^ (XT.ushrL (((((((-3750763034362895579 : Int64) ^^^ ((b0 &&& (255 : Int32)).toInt64)) * (1099511628211 : Int64)) ^^^ ((b1 &&& (255 : Int32)).toInt64)) * (1099511628211 : Int64)) ^^^ ((b2 &&& (255 : Int32)).toInt64)) * (1099511628211 : Int64)) (33 : Int32))) * (-49064778989728563 : Int64)) ^^^ (XT.ushrL (((((((((-3750763034362895579 : Int64) ^^^ ((b0 &&& (255 : Int32)).toInt64)) * (1099511628211 : Int64)) ^^^ ((b1 &&& (255 : Int32)).toInt64)) * (1099511628211 : Int64)) ^^^ ((b2 &&& (255 : Int32)).toInt64)) * (1099511628211 : Int64)) ^^^ (XT.ushrL (((((((-3750763034362895579 : Int64) ^^^ ((b0 &&& (255 : Int32)).toInt64)) * (1099511628211 : Int64)) ^^^ ((b1 &&& (255 : Int32)).toInt64)) * (1099511628211 : Int64)) ^^^ ((b2 &&& (255 : Int32)).toInt64)) * (1099511628211 : Int64)) (33 : Int32))) * (-49064778989728563 : Int64)) (33 : Int32))) * (-4265267296055464877 : Int64)) ^^^ (XT.ushrL (((((((((((-3750763034362895579 : Int64) ^^^ ((b0 &&& (255 : Int32)).toInt64)) * (1099511628211 : Int64)) ^^^ ((b1 &&& (255 : Int32)).toInt64)) * (1099511628211 : Int64)) ^^^ ((b2 &&& (255 : Int32)).toInt64)) * (1099511628211 : Int64)) ^^^ (XT.ushrL (((((((-3750763034362895579 : Int64) ^^^ ((b0 &&& (255 : Int32)).toInt64)) * (1099511628211 : Int64)) ^^^ ((b1 &&& (255 : Int32)).toInt64)) * (1099511628211 : Int64)) ^^^ ((b2 &&& (255 : Int32)).toInt64)) * (1099511628211 : Int64)) (33 : Int32))) * (-49064778989728563 : Int64)) ^^^ (XT.ushrL (((((((((-3750763034362895579 : Int64) ^^^ ((b0 &&& (255 : Int32)).toInt64)) * (1099511628211 : Int64)) ^^^ ((b1 &&& (255 : Int32)).toInt64)) * (1099511628211 : Int64)) ^^^ ((b2 &&& (255 : Int32)).toInt64)) * (1099511628211 : Int64)) ^^^ (XT.ushrL (((((((-3750763034362895579 : Int64) ^^^ ((b0 &&& (255 : Int32)).toInt64)) * (1099511628211 : Int64)) ^^^ ((b1 &&& (255 : Int32)).toInt64)) * (1099511628211 : Int64)) ^^^ ((b2 &&& (255 : Int32)).toInt64)) * (1099511628211 : Int64)) (33 : Int32))) * (-49064778989728563 : Int64)) (33 : Int32))) * (-4265267296055464877 : Int64)) (33 : Int32))))]) (by decide +kernel) rfl ?_
  exact X.retL (by decide +kernel) (by decide) (by decide) (⟨rfl, rfl⟩)
set_option maxRecDepth 65536 in
set_option maxHeartbeats 40000000 in
theorem rm_hash4 (l : Launch) (Z : State) (a0 : Array Value) (hw : ∀ d ∈ tables_1, d.before a0 Z = true) (a1 : Addr) (b0 b1 b2 b3 : Int32) (h0 : Heap) (n0 : Nat) (Z0 : n0 ≤ h0.size) (A : AV Z h0 a1 .byte [.int b0, .int b1, .int b2, .int b3]) :
    Cnt l Z (⟨"com/example/redolith/redolith/kv/Store", "hash", "([B)J"⟩ : MethodName) prog_113_method_16_code 7 (some .long) ({ frames := 0, cells := 0, slots := 0, locals := 0 } : Room) n0 #[(.ref a1)] h0 (fun v h => v = some (.long (mix (stp (stp (stp (stp (-3750763034362895579 : Int64) b0) b1) b2) b3))) ∧ h0 = h) := by
  refine Cnt.mk (by first | exact plainFor_of_name (by first | (simp [plainName, overriddenIn]; done) | decide +kernel) | decide +kernel) Z0 ?_
  intro p e s m below meth c T X
  refine Go.cast (g' := mkF m 0 #[.val (.ref a1), .unset, .unset, .unset, .unset, .unset, .unset] []) (by first | (simp [entryFrame, mkF, argsToLocals, Value.category, maxLocals]; done) | rfl) ?_
  have hK : (∀ q ∈ ([] : List (Nat × Int32)), (Jvm.Cond.constant "com/example/redolith/redolith/kv/Store" q.1 q.2).before a0 Z = true) ∧ (∀ q ∈ ([(192, (-3750763034362895579 : Int64)), (196, (-49064778989728563 : Int64)), (198, (-4265267296055464877 : Int64)), (194, (1099511628211 : Int64))] : List (Nat × Int64)), (Jvm.Cond.constantLong "com/example/redolith/redolith/kv/Store" q.1 q.2).before a0 Z = true) :=
    ⟨(fun q hq => nomatch hq), (fun q hq => by
      rcases List.mem_cons.mp hq with rfl | hq
      · exact hw _ (List.mem_of_getElem? (i := 5) rfl)
      rcases List.mem_cons.mp hq with rfl | hq
      · exact hw _ (List.mem_of_getElem? (i := 6) rfl)
      rcases List.mem_cons.mp hq with rfl | hq
      · exact hw _ (List.mem_of_getElem? (i := 7) rfl)
      rcases List.mem_cons.mp hq with rfl | hq
      · exact hw _ (List.mem_of_getElem? (i := 8) rfl)
      exact nomatch hq)⟩
  refine X.blk hK (L := [(.ldc2_w 192, 3, 0, 0), (.lstore_n 1, 1, 0, 0), (.aload_n 0, 1, 0, 0), (.astore_n 3, 1, 0, 0), (.aload_n 3, 1, 0, 0)]) (pc' := 7) (ls' := #[.val (.ref a1), .val (.long (-3750763034362895579 : Int64)), .second, .val (.ref a1), .unset, .unset, .unset]) (st' := [(.ref a1)]) (by decide +kernel) rfl ?_
  refine X.alen 8 (n := (4 : Int32)) A (by decide +kernel) (rfl) ?_
  refine X.blk hK (L := [(.istore 4, 2, 0, 0), (.iconst 0, 1, 0, 0), (.istore 5, 2, 0, 0)]) (pc' := 13) (ls' := #[.val (.ref a1), .val (.long (-3750763034362895579 : Int64)), .second, .val (.ref a1), .val (.int (4 : Int32)), .val (.int (0 : Int32)), .unset]) (st' := []) (by decide +kernel) rfl ?_
  refine X.blk hK (L := [(.iload 5, 2, 0, 0), (.iload 4, 2, 0, 0)]) (pc' := 17) (ls' := #[.val (.ref a1), .val (.long (-3750763034362895579 : Int64)), .second, .val (.ref a1), .val (.int (4 : Int32)), .val (.int (0 : Int32)), .unset]) (st' := [(.int (4 : Int32)), (.int (0 : Int32))]) (by decide +kernel) rfl ?_
  refine X.icmp .ge (29) 46 20 (by decide +kernel) (fun (c17 : ¬ (0 : Int32) < (4 : Int32)) => absurd (by decide : (0 : Int32) < (4 : Int32)) c17) (fun (c17 : (0 : Int32) < (4 : Int32)) => ?_)
  refine X.blk hK (L := [(.aload_n 3, 1, 0, 0), (.iload 5, 2, 0, 0)]) (pc' := 23) (ls' := #[.val (.ref a1), .val (.long (-3750763034362895579 : Int64)), .second, .val (.ref a1), .val (.int (4 : Int32)), .val (.int (0 : Int32)), .unset]) (st' := [(.int (0 : Int32)), (.ref a1)]) (by decide +kernel) rfl ?_
  refine X.baload 24 A (by decide +kernel) (by decide) (rfl) ?_
  refine X.blk hK (L := [(.istore 6, 2, 0, 0), (.lload_n 1, 1, 0, 0), (.iload 6, 2, 0, 0), (.sipush 255, 3, 255, 0), (.iand, 1, 0, 0), (.i2l, 1, 0, 0), (.lxor, 1, 0, 0), (.ldc2_w 194, 3, 0, 0), (.lmul, 1, 0, 0), (.lstore_n 1, 1, 0, 0)]) (pc' := 40) (ls' := #[.val (.ref a1), .val (.long (((-3750763034362895579 : Int64) ^^^ ((b0 &&& (255 : Int32)).toInt64)) * (1099511628211 : Int64))), .second, .val (.ref a1), .val (.int (4 : Int32)), .val (.int (0 : Int32)), .val (.int b0)]) (st' := []) (by decide +kernel) rfl ?_
  refine X.blk hK (L := [(.iinc 5 1, 3, 1, 0), (.goto (-30), 3, 0, 13)]) (pc' := 13) (ls' := #[.val (.ref a1), .val (.long (((-3750763034362895579 : Int64) ^^^ ((b0 &&& (255 : Int32)).toInt64)) * (1099511628211 : Int64))), .second, .val (.ref a1), .val (.int (4 : Int32)), .val (.int (1 : Int32)), .val (.int b0)]) (st' := []) (by decide +kernel) rfl ?_
  refine X.blk hK (L := [(.iload 5, 2, 0, 0), (.iload 4, 2, 0, 0)]) (pc' := 17) (ls' := #[.val (.ref a1), .val (.long (((-3750763034362895579 : Int64) ^^^ ((b0 &&& (255 : Int32)).toInt64)) * (1099511628211 : Int64))), .second, .val (.ref a1), .val (.int (4 : Int32)), .val (.int (1 : Int32)), .val (.int b0)]) (st' := [(.int (4 : Int32)), (.int (1 : Int32))]) (by decide +kernel) rfl ?_
  refine X.icmp .ge (29) 46 20 (by decide +kernel) (fun (c17 : ¬ (1 : Int32) < (4 : Int32)) => absurd (by decide : (1 : Int32) < (4 : Int32)) c17) (fun (c17 : (1 : Int32) < (4 : Int32)) => ?_)
  refine X.blk hK (L := [(.aload_n 3, 1, 0, 0), (.iload 5, 2, 0, 0)]) (pc' := 23) (ls' := #[.val (.ref a1), .val (.long (((-3750763034362895579 : Int64) ^^^ ((b0 &&& (255 : Int32)).toInt64)) * (1099511628211 : Int64))), .second, .val (.ref a1), .val (.int (4 : Int32)), .val (.int (1 : Int32)), .val (.int b0)]) (st' := [(.int (1 : Int32)), (.ref a1)]) (by decide +kernel) rfl ?_
  refine X.baload 24 A (by decide +kernel) (by decide) (rfl) ?_
  refine X.blk hK (L := [(.istore 6, 2, 0, 0), (.lload_n 1, 1, 0, 0), (.iload 6, 2, 0, 0), (.sipush 255, 3, 255, 0), (.iand, 1, 0, 0), (.i2l, 1, 0, 0), (.lxor, 1, 0, 0), (.ldc2_w 194, 3, 0, 0), (.lmul, 1, 0, 0), (.lstore_n 1, 1, 0, 0)]) (pc' := 40) (ls' := #[.val (.ref a1), .val (.long (((((-3750763034362895579 : Int64) ^^^ ((b0 &&& (255 : Int32)).toInt64)) * (1099511628211 : Int64)) ^^^ ((b1 &&& (255 : Int32)).toInt64)) * (1099511628211 : Int64))), .second, .val (.ref a1), .val (.int (4 : Int32)), .val (.int (1 : Int32)), .val (.int b1)]) (st' := []) (by decide +kernel) rfl ?_
  refine X.blk hK (L := [(.iinc 5 1, 3, 1, 0), (.goto (-30), 3, 0, 13)]) (pc' := 13) (ls' := #[.val (.ref a1), .val (.long (((((-3750763034362895579 : Int64) ^^^ ((b0 &&& (255 : Int32)).toInt64)) * (1099511628211 : Int64)) ^^^ ((b1 &&& (255 : Int32)).toInt64)) * (1099511628211 : Int64))), .second, .val (.ref a1), .val (.int (4 : Int32)), .val (.int (2 : Int32)), .val (.int b1)]) (st' := []) (by decide +kernel) rfl ?_
  refine X.blk hK (L := [(.iload 5, 2, 0, 0), (.iload 4, 2, 0, 0)]) (pc' := 17) (ls' := #[.val (.ref a1), .val (.long (((((-3750763034362895579 : Int64) ^^^ ((b0 &&& (255 : Int32)).toInt64)) * (1099511628211 : Int64)) ^^^ ((b1 &&& (255 : Int32)).toInt64)) * (1099511628211 : Int64))), .second, .val (.ref a1), .val (.int (4 : Int32)), .val (.int (2 : Int32)), .val (.int b1)]) (st' := [(.int (4 : Int32)), (.int (2 : Int32))]) (by decide +kernel) rfl ?_
  refine X.icmp .ge (29) 46 20 (by decide +kernel) (fun (c17 : ¬ (2 : Int32) < (4 : Int32)) => absurd (by decide : (2 : Int32) < (4 : Int32)) c17) (fun (c17 : (2 : Int32) < (4 : Int32)) => ?_)
  refine X.blk hK (L := [(.aload_n 3, 1, 0, 0), (.iload 5, 2, 0, 0)]) (pc' := 23) (ls' := #[.val (.ref a1), .val (.long (((((-3750763034362895579 : Int64) ^^^ ((b0 &&& (255 : Int32)).toInt64)) * (1099511628211 : Int64)) ^^^ ((b1 &&& (255 : Int32)).toInt64)) * (1099511628211 : Int64))), .second, .val (.ref a1), .val (.int (4 : Int32)), .val (.int (2 : Int32)), .val (.int b1)]) (st' := [(.int (2 : Int32)), (.ref a1)]) (by decide +kernel) rfl ?_
  refine X.baload 24 A (by decide +kernel) (by decide) (rfl) ?_
  refine X.blk hK (L := [(.istore 6, 2, 0, 0), (.lload_n 1, 1, 0, 0), (.iload 6, 2, 0, 0), (.sipush 255, 3, 255, 0), (.iand, 1, 0, 0), (.i2l, 1, 0, 0), (.lxor, 1, 0, 0), (.ldc2_w 194, 3, 0, 0), (.lmul, 1, 0, 0), (.lstore_n 1, 1, 0, 0)]) (pc' := 40) (ls' := #[.val (.ref a1), .val (.long (((((((-3750763034362895579 : Int64) ^^^ ((b0 &&& (255 : Int32)).toInt64)) * (1099511628211 : Int64)) ^^^ ((b1 &&& (255 : Int32)).toInt64)) * (1099511628211 : Int64)) ^^^ ((b2 &&& (255 : Int32)).toInt64)) * (1099511628211 : Int64))), .second, .val (.ref a1), .val (.int (4 : Int32)), .val (.int (2 : Int32)), .val (.int b2)]) (st' := []) (by decide +kernel) rfl ?_
  refine X.blk hK (L := [(.iinc 5 1, 3, 1, 0), (.goto (-30), 3, 0, 13)]) (pc' := 13) (ls' := #[.val (.ref a1), .val (.long (((((((-3750763034362895579 : Int64) ^^^ ((b0 &&& (255 : Int32)).toInt64)) * (1099511628211 : Int64)) ^^^ ((b1 &&& (255 : Int32)).toInt64)) * (1099511628211 : Int64)) ^^^ ((b2 &&& (255 : Int32)).toInt64)) * (1099511628211 : Int64))), .second, .val (.ref a1), .val (.int (4 : Int32)), .val (.int (3 : Int32)), .val (.int b2)]) (st' := []) (by decide +kernel) rfl ?_
  refine X.blk hK (L := [(.iload 5, 2, 0, 0), (.iload 4, 2, 0, 0)]) (pc' := 17) (ls' := #[.val (.ref a1), .val (.long (((((((-3750763034362895579 : Int64) ^^^ ((b0 &&& (255 : Int32)).toInt64)) * (1099511628211 : Int64)) ^^^ ((b1 &&& (255 : Int32)).toInt64)) * (1099511628211 : Int64)) ^^^ ((b2 &&& (255 : Int32)).toInt64)) * (1099511628211 : Int64))), .second, .val (.ref a1), .val (.int (4 : Int32)), .val (.int (3 : Int32)), .val (.int b2)]) (st' := [(.int (4 : Int32)), (.int (3 : Int32))]) (by decide +kernel) rfl ?_
  refine X.icmp .ge (29) 46 20 (by decide +kernel) (fun (c17 : ¬ (3 : Int32) < (4 : Int32)) => absurd (by decide : (3 : Int32) < (4 : Int32)) c17) (fun (c17 : (3 : Int32) < (4 : Int32)) => ?_)
  refine X.blk hK (L := [(.aload_n 3, 1, 0, 0), (.iload 5, 2, 0, 0)]) (pc' := 23) (ls' := #[.val (.ref a1), .val (.long (((((((-3750763034362895579 : Int64) ^^^ ((b0 &&& (255 : Int32)).toInt64)) * (1099511628211 : Int64)) ^^^ ((b1 &&& (255 : Int32)).toInt64)) * (1099511628211 : Int64)) ^^^ ((b2 &&& (255 : Int32)).toInt64)) * (1099511628211 : Int64))), .second, .val (.ref a1), .val (.int (4 : Int32)), .val (.int (3 : Int32)), .val (.int b2)]) (st' := [(.int (3 : Int32)), (.ref a1)]) (by decide +kernel) rfl ?_
  refine X.baload 24 A (by decide +kernel) (by decide) (rfl) ?_
  refine X.blk hK (L := [(.istore 6, 2, 0, 0), (.lload_n 1, 1, 0, 0), (.iload 6, 2, 0, 0), (.sipush 255, 3, 255, 0), (.iand, 1, 0, 0), (.i2l, 1, 0, 0), (.lxor, 1, 0, 0), (.ldc2_w 194, 3, 0, 0), (.lmul, 1, 0, 0), (.lstore_n 1, 1, 0, 0)]) (pc' := 40) (ls' := #[.val (.ref a1), .val (.long (((((((((-3750763034362895579 : Int64) ^^^ ((b0 &&& (255 : Int32)).toInt64)) * (1099511628211 : Int64)) ^^^ ((b1 &&& (255 : Int32)).toInt64)) * (1099511628211 : Int64)) ^^^ ((b2 &&& (255 : Int32)).toInt64)) * (1099511628211 : Int64)) ^^^ ((b3 &&& (255 : Int32)).toInt64)) * (1099511628211 : Int64))), .second, .val (.ref a1), .val (.int (4 : Int32)), .val (.int (3 : Int32)), .val (.int b3)]) (st' := []) (by decide +kernel) rfl ?_
  refine X.blk hK (L := [(.iinc 5 1, 3, 1, 0), (.goto (-30), 3, 0, 13)]) (pc' := 13) (ls' := #[.val (.ref a1), .val (.long (((((((((-3750763034362895579 : Int64) ^^^ ((b0 &&& (255 : Int32)).toInt64)) * (1099511628211 : Int64)) ^^^ ((b1 &&& (255 : Int32)).toInt64)) * (1099511628211 : Int64)) ^^^ ((b2 &&& (255 : Int32)).toInt64)) * (1099511628211 : Int64)) ^^^ ((b3 &&& (255 : Int32)).toInt64)) * (1099511628211 : Int64))), .second, .val (.ref a1), .val (.int (4 : Int32)), .val (.int (4 : Int32)), .val (.int b3)]) (st' := []) (by decide +kernel) rfl ?_
  refine X.blk hK (L := [(.iload 5, 2, 0, 0), (.iload 4, 2, 0, 0)]) (pc' := 17) (ls' := #[.val (.ref a1), .val (.long (((((((((-3750763034362895579 : Int64) ^^^ ((b0 &&& (255 : Int32)).toInt64)) * (1099511628211 : Int64)) ^^^ ((b1 &&& (255 : Int32)).toInt64)) * (1099511628211 : Int64)) ^^^ ((b2 &&& (255 : Int32)).toInt64)) * (1099511628211 : Int64)) ^^^ ((b3 &&& (255 : Int32)).toInt64)) * (1099511628211 : Int64))), .second, .val (.ref a1), .val (.int (4 : Int32)), .val (.int (4 : Int32)), .val (.int b3)]) (st' := [(.int (4 : Int32)), (.int (4 : Int32))]) (by decide +kernel) rfl ?_
  refine X.icmp .ge (29) 46 20 (by decide +kernel) (fun (c17 : ¬ (4 : Int32) < (4 : Int32)) => ?_) (fun (c17 : (4 : Int32) < (4 : Int32)) => absurd c17 (by decide : ¬ (4 : Int32) < (4 : Int32)))
  refine X.blk hK (L := [(.lload_n 1, 1, 0, 0), (.lload_n 1, 1, 0, 0), (.bipush 33, 2, 33, 0), (.lushr, 1, 0, 0), (.lxor, 1, 0, 0), (.ldc2_w 196, 3, 0, 0), (.lmul, 1, 0, 0), (.lstore_n 1, 1, 0, 0)]) (pc' := 57) (ls' := #[.val (.ref a1), .val (.long (((((((((((-3750763034362895579 : Int64) ^^^ ((b0 &&& (255 : Int32)).toInt64)) * (1099511628211 : Int64)) ^^^ ((b1 &&& (255 : Int32)).toInt64)) * (1099511628211 : Int64)) ^^^ ((b2 &&& (255 : Int32)).toInt64)) * (1099511628211 : Int64)) ^^^ ((b3 &&& (255 : Int32)).toInt64)) * (1099511628211 : Int64)) ^^^ (XT.ushrL (((((((((-3750763034362895579 : Int64) ^^^ ((b0 &&& (255 : Int32)).toInt64)) * (1099511628211 : Int64)) ^^^ ((b1 &&& (255 : Int32)).toInt64)) * (1099511628211 : Int64)) ^^^ ((b2 &&& (255 : Int32)).toInt64)) * (1099511628211 : Int64)) ^^^ ((b3 &&& (255 : Int32)).toInt64)) * (1099511628211 : Int64)) (33 : Int32))) * (-49064778989728563 : Int64))), .second, .val (.ref a1), .val (.int (4 : Int32)), .val (.int (4 : Int32)), .val (.int b3)]) (st' := []) (by decide +kernel) rfl ?_
  refine X.blk hK (L := [(.lload_n 1, 1, 0, 0), (.lload_n 1, 1, 0, 0), (.bipush 33, 2, 33, 0), (.lushr, 1, 0, 0), (.lxor, 1, 0, 0), (.ldc2_w 198, 3, 0, 0), (.lmul, 1, 0, 0), (.lstore_n 1, 1, 0, 0)]) (pc' := 68) (ls' := #[.val (.ref a1), .val (.long (((((((((((((-3750763034362895579 : Int64) ^^^ ((b0 &&& (255 : Int32)).toInt64)) * (1099511628211 : Int64)) ^^^ ((b1 &&& (255 : Int32)).toInt64)) * (1099511628211 : Int64)) ^^^ ((b2 &&& (255 : Int32)).toInt64)) * (1099511628211 : Int64)) ^^^ ((b3 &&& (255 : Int32)).toInt64)) * (1099511628211 : Int64)) ^^^ (XT.ushrL (((((((((-3750763034362895579 : Int64) ^^^ ((b0 &&& (255 : Int32)).toInt64)) * (1099511628211 : Int64)) ^^^ ((b1 &&& (255 : Int32)).toInt64)) * (1099511628211 : Int64)) ^^^ ((b2 &&& (255 : Int32)).toInt64)) * (1099511628211 : Int64)) ^^^ ((b3 &&& (255 : Int32)).toInt64)) * (1099511628211 : Int64)) (33 : Int32))) * (-49064778989728563 : Int64)) ^^^ (XT.ushrL (((((((((((-3750763034362895579 : Int64) ^^^ ((b0 &&& (255 : Int32)).toInt64)) * (1099511628211 : Int64)) ^^^ ((b1 &&& (255 : Int32)).toInt64)) * (1099511628211 : Int64)) ^^^ ((b2 &&& (255 : Int32)).toInt64)) * (1099511628211 : Int64)) ^^^ ((b3 &&& (255 : Int32)).toInt64)) * (1099511628211 : Int64)) ^^^ (XT.ushrL (((((((((-3750763034362895579 : Int64) ^^^ ((b0 &&& (255 : Int32)).toInt64)) * (1099511628211 : Int64)) ^^^ ((b1 &&& (255 : Int32)).toInt64)) * (1099511628211 : Int64)) ^^^ ((b2 &&& (255 : Int32)).toInt64)) * (1099511628211 : Int64)) ^^^ ((b3 &&& (255 : Int32)).toInt64)) * (1099511628211 : Int64)) (33 : Int32))) * (-49064778989728563 : Int64)) (33 : Int32))) * (-4265267296055464877 : Int64))), .second, .val (.ref a1), .val (.int (4 : Int32)), .val (.int (4 : Int32)), .val (.int b3)]) (st' := []) (by decide +kernel) rfl ?_
  refine X.blk hK (L := [(.lload_n 1, 1, 0, 0), (.lload_n 1, 1, 0, 0), (.bipush 33, 2, 33, 0), (.lushr, 1, 0, 0), (.lxor, 1, 0, 0)]) (pc' := 74) (ls' := #[.val (.ref a1), .val (.long (((((((((((((-3750763034362895579 : Int64) ^^^ ((b0 &&& (255 : Int32)).toInt64)) * (1099511628211 : Int64)) ^^^ ((b1 &&& (255 : Int32)).toInt64)) * (1099511628211 : Int64)) ^^^ ((b2 &&& (255 : Int32)).toInt64)) * (1099511628211 : Int64)) ^^^ ((b3 &&& (255 : Int32)).toInt64)) * (1099511628211 : Int64)) ^^^ (XT.ushrL (((((((((-3750763034362895579 : Int64) ^^^ ((b0 &&& (255 : Int32)).toInt64)) * (1099511628211 : Int64)) ^^^ ((b1 &&& (255 : Int32)).toInt64)) * (1099511628211 : Int64)) ^^^ ((b2 &&& (255 : Int32)).toInt64)) * (1099511628211 : Int64)) ^^^ ((b3 &&& (255 : Int32)).toInt64)) * (1099511628211 : Int64)) (33 : Int32))) * (-49064778989728563 : Int64)) ^^^ (XT.ushrL (((((((((((-3750763034362895579 : Int64) ^^^ ((b0 &&& (255 : Int32)).toInt64)) * (1099511628211 : Int64)) ^^^ ((b1 &&& (255 : Int32)).toInt64)) * (1099511628211 : Int64)) ^^^ ((b2 &&& (255 : Int32)).toInt64)) * (1099511628211 : Int64)) ^^^ ((b3 &&& (255 : Int32)).toInt64)) * (1099511628211 : Int64)) ^^^ (XT.ushrL (((((((((-3750763034362895579 : Int64) ^^^ ((b0 &&& (255 : Int32)).toInt64)) * (1099511628211 : Int64)) ^^^ ((b1 &&& (255 : Int32)).toInt64)) * (1099511628211 : Int64)) ^^^ ((b2 &&& (255 : Int32)).toInt64)) * (1099511628211 : Int64)) ^^^ ((b3 &&& (255 : Int32)).toInt64)) * (1099511628211 : Int64)) (33 : Int32))) * (-49064778989728563 : Int64)) (33 : Int32))) * (-4265267296055464877 : Int64))), .second, .val (.ref a1), .val (.int (4 : Int32)), .val (.int (4 : Int32)), .val (.int b3)]) (st' := [(.long ((((((((((((((-3750763034362895579 : Int64) ^^^ ((b0 &&& (255 : Int32)).toInt64)) * (1099511628211 : Int64)) ^^^ ((b1 &&& (255 : Int32)).toInt64)) * (1099511628211 : Int64)) ^^^ ((b2 &&& (255 : Int32)).toInt64)) * (1099511628211 : Int64)) ^^^ ((b3 &&& (255 : Int32)).toInt64)) * (1099511628211 : Int64)) ^^^ (XT.ushrL (((((((((-3750763034362895579 : Int64) ^^^ ((b0 &&& (255 : Int32)).toInt64)) * (1099511628211 : Int64)) ^^^ ((b1 &&& (255 : Int32)).toInt64)) * (1099511628211 : Int64)) ^^^ ((b2 &&& (255 : Int32)).toInt64)) * (1099511628211 : Int64)) ^^^ ((b3 &&& (255 : Int32)).toInt64)) * (1099511628211 : Int64)) (33 : Int32))) * (-49064778989728563 : Int64)) ^^^ (XT.ushrL (((((((((((-3750763034362895579 : Int64) ^^^ ((b0 &&& (255 : Int32)).toInt64)) * (1099511628211 : Int64)) ^^^ ((b1 &&& (255 : Int32)).toInt64)) * (1099511628211 : Int64)) ^^^ ((b2 &&& (255 : Int32)).toInt64)) * (1099511628211 : Int64)) ^^^ ((b3 &&& (255 : Int32)).toInt64)) * (1099511628211 : Int64)) ^^^ (XT.ushrL (((((((((-3750763034362895579 : Int64) ^^^ ((b0 &&& (255 : Int32)).toInt64)) * (1099511628211 : Int64)) ^^^ ((b1 &&& (255 : Int32)).toInt64)) * (1099511628211 : Int64)) ^^^ ((b2 &&& (255 : Int32)).toInt64)) * (1099511628211 : Int64)) ^^^ ((b3 &&& (255 : Int32)).toInt64)) * (1099511628211 : Int64)) (33 : Int32))) * (-49064778989728563 : Int64)) (33 : Int32))) * (-4265267296055464877 : Int64)) ^^^ (XT.ushrL (((((((((((((-3750763034362895579 : Int64) ^^^ ((b0 &&& (255 : Int32)).toInt64)) * (1099511628211 : Int64)) ^^^ ((b1 &&& (255 : Int32)).toInt64)) * (1099511628211 : Int64)) ^^^ ((b2 &&& (255 : Int32)).toInt64)) * (1099511628211 : Int64)) ^^^ ((b3 &&& (255 : Int32)).toInt64)) * (1099511628211 : Int64)) ^^^ (XT.ushrL (((((((((-3750763034362895579 : Int64) ^^^ ((b0 &&& (255 : Int32)).toInt64)) * (1099511628211 : Int64)) ^^^ ((b1 &&& (255 : Int32)).toInt64)) * (1099511628211 : Int64)) ^^^ ((b2 &&& (255 : Int32)).toInt64)) * (1099511628211 : Int64)) ^^^ ((b3 &&& (255 : Int32)).toInt64)) * (1099511628211 : Int64)) (33 : Int32))) * (-49064778989728563 : Int64)) ^^^ (XT.ushrL (((((((((((-3750763034362895579 : Int64) ^^^ ((b0 &&& (255 : Int32)).toInt64)) * (1099511628211 : Int64)) ^^^ ((b1 &&& (255 : Int32)).toInt64)) * (1099511628211 : Int64)) ^^^ ((b2 &&& (255 : Int32)).toInt64)) * (1099511628211 : Int64)) ^^^ ((b3 &&& (255 : Int32)).toInt64)) * (1099511628211 : Int64)) ^^^ (XT.ushrL (((((((((-3750763034362895579 : Int64) ^^^ ((b0 &&& (255 : Int32)).toInt64)) * (1099511628211 : Int64)) ^^^ ((b1 &&& (255 : Int32)).toInt64)) * (1099511628211 : Int64)) ^^^ ((b2 &&& (255 : Int32)).toInt64)) * (1099511628211 : Int64)) ^^^ ((b3 &&& (255 : Int32)).toInt64)) * (1099511628211 : Int64)) (33 : Int32))) * (-49064778989728563 : Int64)) (33 : Int32))) * (-4265267296055464877 : Int64)) (33 : Int32))))]) (by decide +kernel) rfl ?_
  exact X.retL (by decide +kernel) (by decide) (by decide) (⟨rfl, rfl⟩)
set_option maxRecDepth 65536 in
set_option maxHeartbeats 40000000 in
theorem rm_law (l : Launch) (Z : State) (a0 : Array Value) (hw : ∀ d ∈ tables_1, d.before a0 Z = true) (p1 p2 p3 p4 p5 : Int32) (h0 : Heap) (n0 : Nat) (Z0 : n0 ≤ h0.size)  :
    Cnt l Z x code maxLocals ret room_1 n0 #[(.int p1), (.int p2), (.int p3), (.int p4), (.int p5)] h0 (fun v h => v = some (.int 1)) := by
  refine Cnt.mk (by first | exact plainFor_of_name (by first | (simp [plainName, overriddenIn]; done) | decide +kernel) | decide +kernel) Z0 ?_
  intro p e s m below meth c T X
  refine Go.cast (g' := mkF m 0 #[.val (.int p1), .val (.int p2), .val (.int p3), .val (.int p4), .val (.int p5), .unset, .unset, .unset, .unset, .unset, .unset, .unset, .unset, .unset, .unset, .unset, .unset] []) (by first | (simp [entryFrame, mkF, argsToLocals, Value.category, maxLocals]; done) | rfl) ?_
  have hK : (∀ q ∈ ([] : List (Nat × Int32)), (Jvm.Cond.constant "com/example/redolith/redolith/kv/StoreHashPinLaw" q.1 q.2).before a0 Z = true) ∧ (∀ q ∈ ([(11, (-4265267296055464877 : Int64)), (7, (2 : Int64)), (17, (-49064778989728563 : Int64)), (28, (-3750763034362895579 : Int64)), (30, (1099511628211 : Int64))] : List (Nat × Int64)), (Jvm.Cond.constantLong "com/example/redolith/redolith/kv/StoreHashPinLaw" q.1 q.2).before a0 Z = true) :=
    ⟨(fun q hq => nomatch hq), (fun q hq => by
      rcases List.mem_cons.mp hq with rfl | hq
      · exact hw _ (List.mem_of_getElem? (i := 13) rfl)
      rcases List.mem_cons.mp hq with rfl | hq
      · exact hw _ (List.mem_of_getElem? (i := 17) rfl)
      rcases List.mem_cons.mp hq with rfl | hq
      · exact hw _ (List.mem_of_getElem? (i := 18) rfl)
      rcases List.mem_cons.mp hq with rfl | hq
      · exact hw _ (List.mem_of_getElem? (i := 19) rfl)
      rcases List.mem_cons.mp hq with rfl | hq
      · exact hw _ (List.mem_of_getElem? (i := 20) rfl)
      exact nomatch hq)⟩
  refine X.blk hK (L := [(.iload_n 0, 1, 0, 0), (.iconst 3, 1, 3, 0), (.iand, 1, 0, 0), (.istore 5, 2, 0, 0), (.iload 5, 2, 0, 0)]) (pc' := 7) (ls' := #[.val (.int p1), .val (.int p2), .val (.int p3), .val (.int p4), .val (.int p5), .val (.int (p1 &&& (3 : Int32))), .unset, .unset, .unset, .unset, .unset, .unset, .unset, .unset, .unset, .unset, .unset]) (st' := [(.int (p1 &&& (3 : Int32)))]) (by decide +kernel) rfl ?_
  rcases own_4 p1 with q_m | q_m | q_m | q_m
  · rw [q_m]
    refine X.newarr 9 0 (aty := .byte) (hw _ (List.mem_of_getElem? (i := 0) rfl)) rfl (by decide +kernel) (by decide) (by decide) (by decide) ?_
    intro Tk hk Xk Ek K0
    obtain ⟨ak, gk⟩ : ∃ z, z = h0.size := ⟨_, rfl⟩
    rw [← gk] at K0 ⊢
    have K0 : AV Z hk ak .byte (List.replicate 0 (.int 0)) := K0
    have gk2 : n0 ≤ ak := by rw [gk]; exact Z0
    refine Xk.blk hK (L := [(.astore 6, 2, 0, 0), (.iload 5, 2, 0, 0), (.iconst 1, 1, 1, 0), (.iadd, 1, 0, 0)]) (pc' := 15) (ls' := #[.val (.int p1), .val (.int p2), .val (.int p3), .val (.int p4), .val (.int p5), .val (.int (0 : Int32)), .val (.ref ak), .unset, .unset, .unset, .unset, .unset, .unset, .unset, .unset, .unset, .unset]) (st' := [(.int ((0 : Int32) + (1 : Int32)))]) (by decide +kernel) rfl ?_
    refine Xk.newarr 17 1 (aty := .byte) (hw _ (List.mem_of_getElem? (i := 0) rfl)) rfl (by decide +kernel) (by decide) (by decide) (by decide) ?_
    intro Tx hx Xx Ex E0
    obtain ⟨ax, gx⟩ : ∃ z, z = hk.size := ⟨_, rfl⟩
    rw [← gx] at E0 ⊢
    have E0 : AV Z hx ax .byte (List.replicate 1 (.int 0)) := E0
    have gx2 : n0 ≤ ax := by rw [gx]; exact Xk.size
    have nkx : ak ≠ ax := by rw [gx]; exact Nat.ne_of_lt K0.lt
    have K0 := K0.ext Ex
    refine Xx.blk hK (L := [(.astore 7, 2, 0, 0), (.iload 5, 2, 0, 0)]) (pc' := 21) (ls' := #[.val (.int p1), .val (.int p2), .val (.int p3), .val (.int p4), .val (.int p5), .val (.int (0 : Int32)), .val (.ref ak), .val (.ref ax), .unset, .unset, .unset, .unset, .unset, .unset, .unset, .unset, .unset]) (st' := [(.int (0 : Int32))]) (by decide +kernel) rfl ?_
    refine Xx.ifc .le (15) 36 24 (by decide +kernel) (fun (c21 : ¬ (0 : Int32) < (0 : Int32)) => ?_) (fun (c21 : (0 : Int32) < (0 : Int32)) => absurd c21 (by decide : ¬ (0 : Int32) < (0 : Int32)))
    refine Xx.blk hK (L := [(.iload 5, 2, 0, 0), (.iconst 1, 1, 1, 0)]) (pc' := 39) (ls' := #[.val (.int p1), .val (.int p2), .val (.int p3), .val (.int p4), .val (.int p5), .val (.int (0 : Int32)), .val (.ref ak), .val (.ref ax), .unset, .unset, .unset, .unset, .unset, .unset, .unset, .unset, .unset]) (st' := [(.int (1 : Int32)), (.int (0 : Int32))]) (by decide +kernel) rfl ?_
    refine Xx.icmp .le (15) 54 42 (by decide +kernel) (fun (c39 : ¬ (1 : Int32) < (0 : Int32)) => ?_) (fun (c39 : (1 : Int32) < (0 : Int32)) => absurd c39 (by decide : ¬ (1 : Int32) < (0 : Int32)))
    refine Xx.blk hK (L := [(.iload 5, 2, 0, 0), (.iconst 2, 1, 2, 0)]) (pc' := 57) (ls' := #[.val (.int p1), .val (.int p2), .val (.int p3), .val (.int p4), .val (.int p5), .val (.int (0 : Int32)), .val (.ref ak), .val (.ref ax), .unset, .unset, .unset, .unset, .unset, .unset, .unset, .unset, .unset]) (st' := [(.int (2 : Int32)), (.int (0 : Int32))]) (by decide +kernel) rfl ?_
    refine Xx.icmp .le (15) 72 60 (by decide +kernel) (fun (c57 : ¬ (2 : Int32) < (0 : Int32)) => ?_) (fun (c57 : (2 : Int32) < (0 : Int32)) => absurd c57 (by decide : ¬ (2 : Int32) < (0 : Int32)))
    refine Xx.blk hK (L := [(.aload 7, 2, 0, 0), (.iload 5, 2, 0, 0), (.iload 4, 2, 0, 0), (.i2b, 1, 0, 0)]) (pc' := 79) (ls' := #[.val (.int p1), .val (.int p2), .val (.int p3), .val (.int p4), .val (.int p5), .val (.int (0 : Int32)), .val (.ref ak), .val (.ref ax), .unset, .unset, .unset, .unset, .unset, .unset, .unset, .unset, .unset]) (st' := [(.int p5.toInt8.toInt32), (.int (0 : Int32)), (.ref ax)]) (by decide +kernel) rfl ?_
    refine Xx.bastore 80 (hx' := own_narb _) E0 (by decide +kernel) (by decide) (by simp) (gx2) ?_
    intro Txd hxd Xxd Wxd ED
    have KD := K0.other Wxd nkx
    replace KD : AV Z hxd ak .byte [] := KD
    replace ED : AV Z hxd ax .byte [.int p5.toInt8.toInt32] := ED
    refine Xxd.blk hK (L := [(.iconst 0, 1, 0, 0)]) (pc' := 81) (ls' := #[.val (.int p1), .val (.int p2), .val (.int p3), .val (.int p4), .val (.int p5), .val (.int (0 : Int32)), .val (.ref ak), .val (.ref ax), .unset, .unset, .unset, .unset, .unset, .unset, .unset, .unset, .unset]) (st' := [(.int (0 : Int32))]) (by decide +kernel) rfl ?_
    refine Xxd.newarr 83 0 (aty := .byte) (hw _ (List.mem_of_getElem? (i := 0) rfl)) rfl (by decide +kernel) (by decide) (by decide) (by decide) ?_
    intro Tz hz Xz Ez Z1
    obtain ⟨az, gz⟩ : ∃ z, z = hxd.size := ⟨_, rfl⟩
    rw [← gz] at Z1 ⊢
    replace Z1 : AV Z hz az .byte [] := Z1
    have KD := KD.ext Ez
    have ED := ED.ext Ez
    refine Xz.blk hK (L := [(.astore 8, 2, 0, 0), (.aload 8, 2, 0, 0)]) (pc' := 87) (ls' := #[.val (.int p1), .val (.int p2), .val (.int p3), .val (.int p4), .val (.int p5), .val (.int (0 : Int32)), .val (.ref ak), .val (.ref ax), .val (.ref az), .unset, .unset, .unset, .unset, .unset, .unset, .unset, .unset]) (st' := [(.ref az)]) (by decide +kernel) rfl ?_
    refine Xz.callS 90 0 (argsL := [(.ref az)]) (rest := []) (rm_hash0 l Z a0 hw az hz n0 Xz.size Z1) (hw _ (List.mem_of_getElem? (i := 1) rfl)) (hw _ (List.mem_of_getElem? (i := 2) rfl)) (hw _ (List.mem_of_getElem? (i := 3) rfl)) (hw _ (List.mem_of_getElem? (i := 4) rfl)) (by decide) (ps := [(.array .byte)]) (r := some .long) (by decide +kernel) rfl rfl rfl rfl (by decide +kernel) (by decide) ?_
    rintro Th1 hh1 vh1 Xh1 ⟨rfl, rfl⟩
    show Go p e below s _ n0 _ (Th1.setTop (mkF m 90 #[.val (.int p1), .val (.int p2), .val (.int p3), .val (.int p4), .val (.int p5), .val (.int (0 : Int32)), .val (.ref ak), .val (.ref ax), .val (.ref az), .unset, .unset, .unset, .unset, .unset, .unset, .unset, .unset] [(.long (mix (-3750763034362895579 : Int64)))]))
    refine Xh1.blk hK (L := [(.lstore 9, 2, 0, 0), (.aload 6, 2, 0, 0)]) (pc' := 94) (ls' := #[.val (.int p1), .val (.int p2), .val (.int p3), .val (.int p4), .val (.int p5), .val (.int (0 : Int32)), .val (.ref ak), .val (.ref ax), .val (.ref az), .val (.long (mix (-3750763034362895579 : Int64))), .second, .unset, .unset, .unset, .unset, .unset, .unset]) (st' := [(.ref ak)]) (by decide +kernel) rfl ?_
    refine Xh1.callS 97 0 (argsL := [(.ref ak)]) (rest := []) (rm_hash0 l Z a0 hw ak  hz n0 Xh1.size KD) (hw _ (List.mem_of_getElem? (i := 1) rfl)) (hw _ (List.mem_of_getElem? (i := 2) rfl)) (hw _ (List.mem_of_getElem? (i := 3) rfl)) (hw _ (List.mem_of_getElem? (i := 4) rfl)) (by decide) (ps := [(.array .byte)]) (r := some .long) (by decide +kernel) rfl rfl rfl rfl (by decide +kernel) (by decide) ?_
    rintro Th2 hh2 vh2 Xh2 ⟨rfl, rfl⟩
    show Go p e below s _ n0 _ (Th2.setTop (mkF m 97 #[.val (.int p1), .val (.int p2), .val (.int p3), .val (.int p4), .val (.int p5), .val (.int (0 : Int32)), .val (.ref ak), .val (.ref ax), .val (.ref az), .val (.long (mix (-3750763034362895579 : Int64))), .second, .unset, .unset, .unset, .unset, .unset, .unset] [(.long (mix (-3750763034362895579 : Int64)))]))
    refine Xh2.blk hK (L := [(.lstore 11, 2, 0, 0), (.aload 7, 2, 0, 0)]) (pc' := 101) (ls' := #[.val (.int p1), .val (.int p2), .val (.int p3), .val (.int p4), .val (.int p5), .val (.int (0 : Int32)), .val (.ref ak), .val (.ref ax), .val (.ref az), .val (.long (mix (-3750763034362895579 : Int64))), .second, .val (.long (mix (-3750763034362895579 : Int64))), .second, .unset, .unset, .unset, .unset]) (st' := [(.ref ax)]) (by decide +kernel) rfl ?_
    refine Xh2.callS 104 0 (argsL := [(.ref ax)]) (rest := []) (rm_hash1 l Z a0 hw ax p5.toInt8.toInt32 hz n0 Xh2.size ED) (hw _ (List.mem_of_getElem? (i := 1) rfl)) (hw _ (List.mem_of_getElem? (i := 2) rfl)) (hw _ (List.mem_of_getElem? (i := 3) rfl)) (hw _ (List.mem_of_getElem? (i := 4) rfl)) (by decide) (ps := [(.array .byte)]) (r := some .long) (by decide +kernel) rfl rfl rfl rfl (by decide +kernel) (by decide) ?_
    rintro Th3 hh3 vh3 Xh3 ⟨rfl, rfl⟩
    show Go p e below s _ n0 _ (Th3.setTop (mkF m 104 #[.val (.int p1), .val (.int p2), .val (.int p3), .val (.int p4), .val (.int p5), .val (.int (0 : Int32)), .val (.ref ak), .val (.ref ax), .val (.ref az), .val (.long (mix (-3750763034362895579 : Int64))), .second, .val (.long (mix (-3750763034362895579 : Int64))), .second, .unset, .unset, .unset, .unset] [(.long (mix (stp (-3750763034362895579 : Int64) p5.toInt8.toInt32)))]))
    refine Xh3.blk hK (L := [(.lstore 13, 2, 0, 0), (.lload 9, 2, 0, 0)]) (pc' := 108) (ls' := #[.val (.int p1), .val (.int p2), .val (.int p3), .val (.int p4), .val (.int p5), .val (.int (0 : Int32)), .val (.ref ak), .val (.ref ax), .val (.ref az), .val (.long (mix (-3750763034362895579 : Int64))), .second, .val (.long (mix (-3750763034362895579 : Int64))), .second, .val (.long (mix (stp (-3750763034362895579 : Int64) p5.toInt8.toInt32))), .second, .unset, .unset]) (st' := [(.long (mix (-3750763034362895579 : Int64)))]) (by decide +kernel) rfl ?_
    refine Xh3.callS 111 0 (argsL := [(.long (mix (-3750763034362895579 : Int64)))]) (rest := []) (rm_un l Z a0 hw (mix (-3750763034362895579 : Int64)) hz n0 Xh3.size) (hw _ (List.mem_of_getElem? (i := 9) rfl)) (hw _ (List.mem_of_getElem? (i := 10) rfl)) (hw _ (List.mem_of_getElem? (i := 11) rfl)) (hw _ (List.mem_of_getElem? (i := 12) rfl)) (by decide) (ps := [.long]) (r := some .long) (by decide +kernel) rfl rfl rfl rfl (by decide +kernel) (by decide) ?_
    rintro Tu1 hu1 vu1 Xu1 ⟨rfl, rfl⟩
    show Go p e below s _ n0 _ (Tu1.setTop (mkF m 111 #[.val (.int p1), .val (.int p2), .val (.int p3), .val (.int p4), .val (.int p5), .val (.int (0 : Int32)), .val (.ref ak), .val (.ref ax), .val (.ref az), .val (.long (mix (-3750763034362895579 : Int64))), .second, .val (.long (mix (-3750763034362895579 : Int64))), .second, .val (.long (mix (stp (-3750763034362895579 : Int64) p5.toInt8.toInt32))), .second, .unset, .unset] [(.long (unm (mix (-3750763034362895579 : Int64))))]))
    refine Xu1.blk hK (L := [(.ldc2_w 28, 3, 0, 0)]) (pc' := 114) (ls' := #[.val (.int p1), .val (.int p2), .val (.int p3), .val (.int p4), .val (.int p5), .val (.int (0 : Int32)), .val (.ref ak), .val (.ref ax), .val (.ref az), .val (.long (mix (-3750763034362895579 : Int64))), .second, .val (.long (mix (-3750763034362895579 : Int64))), .second, .val (.long (mix (stp (-3750763034362895579 : Int64) p5.toInt8.toInt32))), .second, .unset, .unset]) (st' := [(.long (-3750763034362895579 : Int64)), (.long (unm (mix (-3750763034362895579 : Int64))))]) (by decide +kernel) rfl ?_
    refine Xu1.lcmp .ne (7) 122 118 (by decide +kernel) (fun (c114 : ¬ (unm (mix (-3750763034362895579 : Int64))) = (-3750763034362895579 : Int64)) => absurd (own_un _ : (unm (mix (-3750763034362895579 : Int64))) = (-3750763034362895579 : Int64)) c114) (fun (c114 : (unm (mix (-3750763034362895579 : Int64))) = (-3750763034362895579 : Int64)) => ?_)
    refine Xu1.blk hK (L := [(.iconst 1, 1, 1, 0), (.goto 4, 3, 0, 123), (.istore 15, 2, 0, 0), (.lload 13, 2, 0, 0)]) (pc' := 127) (ls' := #[.val (.int p1), .val (.int p2), .val (.int p3), .val (.int p4), .val (.int p5), .val (.int (0 : Int32)), .val (.ref ak), .val (.ref ax), .val (.ref az), .val (.long (mix (-3750763034362895579 : Int64))), .second, .val (.long (mix (-3750763034362895579 : Int64))), .second, .val (.long (mix (stp (-3750763034362895579 : Int64) p5.toInt8.toInt32))), .second, .val (.int (1 : Int32)), .unset]) (st' := [(.long (mix (stp (-3750763034362895579 : Int64) p5.toInt8.toInt32)))]) (by decide +kernel) rfl ?_
    refine Xu1.callS 130 0 (argsL := [(.long (mix (stp (-3750763034362895579 : Int64) p5.toInt8.toInt32)))]) (rest := []) (rm_un l Z a0 hw (mix (stp (-3750763034362895579 : Int64) p5.toInt8.toInt32)) hz n0 Xu1.size) (hw _ (List.mem_of_getElem? (i := 9) rfl)) (hw _ (List.mem_of_getElem? (i := 10) rfl)) (hw _ (List.mem_of_getElem? (i := 11) rfl)) (hw _ (List.mem_of_getElem? (i := 12) rfl)) (by decide) (ps := [.long]) (r := some .long) (by decide +kernel) rfl rfl rfl rfl (by decide +kernel) (by decide) ?_
    rintro Tu2 hu2 vu2 Xu2 ⟨rfl, rfl⟩
    show Go p e below s _ n0 _ (Tu2.setTop (mkF m 130 #[.val (.int p1), .val (.int p2), .val (.int p3), .val (.int p4), .val (.int p5), .val (.int (0 : Int32)), .val (.ref ak), .val (.ref ax), .val (.ref az), .val (.long (mix (-3750763034362895579 : Int64))), .second, .val (.long (mix (-3750763034362895579 : Int64))), .second, .val (.long (mix (stp (-3750763034362895579 : Int64) p5.toInt8.toInt32))), .second, .val (.int (1 : Int32)), .unset] [(.long (unm (mix (stp (-3750763034362895579 : Int64) p5.toInt8.toInt32))))]))
    refine Xu2.blk hK (L := [(.lload 11, 2, 0, 0)]) (pc' := 132) (ls' := #[.val (.int p1), .val (.int p2), .val (.int p3), .val (.int p4), .val (.int p5), .val (.int (0 : Int32)), .val (.ref ak), .val (.ref ax), .val (.ref az), .val (.long (mix (-3750763034362895579 : Int64))), .second, .val (.long (mix (-3750763034362895579 : Int64))), .second, .val (.long (mix (stp (-3750763034362895579 : Int64) p5.toInt8.toInt32))), .second, .val (.int (1 : Int32)), .unset]) (st' := [(.long (mix (-3750763034362895579 : Int64))), (.long (unm (mix (stp (-3750763034362895579 : Int64) p5.toInt8.toInt32))))]) (by decide +kernel) rfl ?_
    refine Xu2.callS 135 2 (argsL := [(.long (mix (-3750763034362895579 : Int64)))]) (rest := [(.long (unm (mix (stp (-3750763034362895579 : Int64) p5.toInt8.toInt32))))]) (rm_un l Z a0 hw (mix (-3750763034362895579 : Int64)) hz n0 Xu2.size) (hw _ (List.mem_of_getElem? (i := 9) rfl)) (hw _ (List.mem_of_getElem? (i := 10) rfl)) (hw _ (List.mem_of_getElem? (i := 11) rfl)) (hw _ (List.mem_of_getElem? (i := 12) rfl)) (by decide) (ps := [.long]) (r := some .long) (by decide +kernel) rfl rfl rfl rfl (by decide +kernel) (by decide) ?_
    rintro Tu3 hu3 vu3 Xu3 ⟨rfl, rfl⟩
    show Go p e below s _ n0 _ (Tu3.setTop (mkF m 135 #[.val (.int p1), .val (.int p2), .val (.int p3), .val (.int p4), .val (.int p5), .val (.int (0 : Int32)), .val (.ref ak), .val (.ref ax), .val (.ref az), .val (.long (mix (-3750763034362895579 : Int64))), .second, .val (.long (mix (-3750763034362895579 : Int64))), .second, .val (.long (mix (stp (-3750763034362895579 : Int64) p5.toInt8.toInt32))), .second, .val (.int (1 : Int32)), .unset] [(.long (unm (mix (-3750763034362895579 : Int64)))), (.long (unm (mix (stp (-3750763034362895579 : Int64) p5.toInt8.toInt32))))]))
    refine Xu3.blk hK (L := [(.iload 4, 2, 0, 0), (.sipush 255, 3, 255, 0), (.iand, 1, 0, 0), (.i2l, 1, 0, 0), (.lxor, 1, 0, 0), (.ldc2_w 30, 3, 0, 0), (.lmul, 1, 0, 0)]) (pc' := 147) (ls' := #[.val (.int p1), .val (.int p2), .val (.int p3), .val (.int p4), .val (.int p5), .val (.int (0 : Int32)), .val (.ref ak), .val (.ref ax), .val (.ref az), .val (.long (mix (-3750763034362895579 : Int64))), .second, .val (.long (mix (-3750763034362895579 : Int64))), .second, .val (.long (mix (stp (-3750763034362895579 : Int64) p5.toInt8.toInt32))), .second, .val (.int (1 : Int32)), .unset]) (st' := [(.long (((unm (mix (-3750763034362895579 : Int64))) ^^^ ((p5 &&& (255 : Int32)).toInt64)) * (1099511628211 : Int64))), (.long (unm (mix (stp (-3750763034362895579 : Int64) p5.toInt8.toInt32))))]) (by decide +kernel) rfl ?_
    refine Xu3.lcmp .ne (7) 155 151 (by decide +kernel) (fun (c147 : ¬ (unm (mix (stp (-3750763034362895579 : Int64) p5.toInt8.toInt32))) = (((unm (mix (-3750763034362895579 : Int64))) ^^^ ((p5 &&& (255 : Int32)).toInt64)) * (1099511628211 : Int64))) => absurd (own_st _ _ : (unm (mix (stp (-3750763034362895579 : Int64) p5.toInt8.toInt32))) = (((unm (mix (-3750763034362895579 : Int64))) ^^^ ((p5 &&& (255 : Int32)).toInt64)) * (1099511628211 : Int64))) c147) (fun (c147 : (unm (mix (stp (-3750763034362895579 : Int64) p5.toInt8.toInt32))) = (((unm (mix (-3750763034362895579 : Int64))) ^^^ ((p5 &&& (255 : Int32)).toInt64)) * (1099511628211 : Int64))) => ?_)
    refine Xu3.blk hK (L := [(.iconst 1, 1, 1, 0), (.goto 4, 3, 0, 156), (.istore 16, 2, 0, 0), (.iload 15, 2, 0, 0)]) (pc' := 160) (ls' := #[.val (.int p1), .val (.int p2), .val (.int p3), .val (.int p4), .val (.int p5), .val (.int (0 : Int32)), .val (.ref ak), .val (.ref ax), .val (.ref az), .val (.long (mix (-3750763034362895579 : Int64))), .second, .val (.long (mix (-3750763034362895579 : Int64))), .second, .val (.long (mix (stp (-3750763034362895579 : Int64) p5.toInt8.toInt32))), .second, .val (.int (1 : Int32)), .val (.int (1 : Int32))]) (st' := [(.int (1 : Int32))]) (by decide +kernel) rfl ?_
    refine Xu3.ifc .eq (12) 172 163 (by decide +kernel) (fun (c160 : (1 : Int32) = (0 : Int32)) => absurd c160 (by decide : ¬ (1 : Int32) = (0 : Int32))) (fun (c160 : ¬ (1 : Int32) = (0 : Int32)) => ?_)
    refine Xu3.blk hK (L := [(.iload 16, 2, 0, 0)]) (pc' := 165) (ls' := #[.val (.int p1), .val (.int p2), .val (.int p3), .val (.int p4), .val (.int p5), .val (.int (0 : Int32)), .val (.ref ak), .val (.ref ax), .val (.ref az), .val (.long (mix (-3750763034362895579 : Int64))), .second, .val (.long (mix (-3750763034362895579 : Int64))), .second, .val (.long (mix (stp (-3750763034362895579 : Int64) p5.toInt8.toInt32))), .second, .val (.int (1 : Int32)), .val (.int (1 : Int32))]) (st' := [(.int (1 : Int32))]) (by decide +kernel) rfl ?_
    refine Xu3.ifc .eq (7) 172 168 (by decide +kernel) (fun (c165 : (1 : Int32) = (0 : Int32)) => absurd c165 (by decide : ¬ (1 : Int32) = (0 : Int32))) (fun (c165 : ¬ (1 : Int32) = (0 : Int32)) => ?_)
    refine Xu3.blk hK (L := [(.iconst 1, 1, 1, 0), (.goto 4, 3, 0, 173)]) (pc' := 173) (ls' := #[.val (.int p1), .val (.int p2), .val (.int p3), .val (.int p4), .val (.int p5), .val (.int (0 : Int32)), .val (.ref ak), .val (.ref ax), .val (.ref az), .val (.long (mix (-3750763034362895579 : Int64))), .second, .val (.long (mix (-3750763034362895579 : Int64))), .second, .val (.long (mix (stp (-3750763034362895579 : Int64) p5.toInt8.toInt32))), .second, .val (.int (1 : Int32)), .val (.int (1 : Int32))]) (st' := [(.int (1 : Int32))]) (by decide +kernel) rfl ?_
    exact Xu3.retZ (by decide +kernel) (by decide) (by decide) (Or.inr rfl) (rfl)
  · rw [q_m]
    refine X.newarr 9 1 (aty := .byte) (hw _ (List.mem_of_getElem? (i := 0) rfl)) rfl (by decide +kernel) (by decide) (by decide) (by decide) ?_
    intro Tk hk Xk Ek K0
    obtain ⟨ak, gk⟩ : ∃ z, z = h0.size := ⟨_, rfl⟩
    rw [← gk] at K0 ⊢
    have K0 : AV Z hk ak .byte (List.replicate 1 (.int 0)) := K0
    have gk2 : n0 ≤ ak := by rw [gk]; exact Z0
    refine Xk.blk hK (L := [(.astore 6, 2, 0, 0), (.iload 5, 2, 0, 0), (.iconst 1, 1, 1, 0), (.iadd, 1, 0, 0)]) (pc' := 15) (ls' := #[.val (.int p1), .val (.int p2), .val (.int p3), .val (.int p4), .val (.int p5), .val (.int (1 : Int32)), .val (.ref ak), .unset, .unset, .unset, .unset, .unset, .unset, .unset, .unset, .unset, .unset]) (st' := [(.int ((1 : Int32) + (1 : Int32)))]) (by decide +kernel) rfl ?_
    refine Xk.newarr 17 2 (aty := .byte) (hw _ (List.mem_of_getElem? (i := 0) rfl)) rfl (by decide +kernel) (by decide) (by decide) (by decide) ?_
    intro Tx hx Xx Ex E0
    obtain ⟨ax, gx⟩ : ∃ z, z = hk.size := ⟨_, rfl⟩
    rw [← gx] at E0 ⊢
    have E0 : AV Z hx ax .byte (List.replicate 2 (.int 0)) := E0
    have gx2 : n0 ≤ ax := by rw [gx]; exact Xk.size
    have nkx : ak ≠ ax := by rw [gx]; exact Nat.ne_of_lt K0.lt
    have K0 := K0.ext Ex
    refine Xx.blk hK (L := [(.astore 7, 2, 0, 0), (.iload 5, 2, 0, 0)]) (pc' := 21) (ls' := #[.val (.int p1), .val (.int p2), .val (.int p3), .val (.int p4), .val (.int p5), .val (.int (1 : Int32)), .val (.ref ak), .val (.ref ax), .unset, .unset, .unset, .unset, .unset, .unset, .unset, .unset, .unset]) (st' := [(.int (1 : Int32))]) (by decide +kernel) rfl ?_
    refine Xx.ifc .le (15) 36 24 (by decide +kernel) (fun (c21 : ¬ (0 : Int32) < (1 : Int32)) => absurd (by decide : (0 : Int32) < (1 : Int32)) c21) (fun (c21 : (0 : Int32) < (1 : Int32)) => ?_)
    refine Xx.blk hK (L := [(.aload 6, 2, 0, 0), (.iconst 0, 1, 0, 0), (.iload_n 1, 1, 0, 0), (.i2b, 1, 0, 0)]) (pc' := 29) (ls' := #[.val (.int p1), .val (.int p2), .val (.int p3), .val (.int p4), .val (.int p5), .val (.int (1 : Int32)), .val (.ref ak), .val (.ref ax), .unset, .unset, .unset, .unset, .unset, .unset, .unset, .unset, .unset]) (st' := [(.int p2.toInt8.toInt32), (.int (0 : Int32)), (.ref ak)]) (by decide +kernel) rfl ?_
    refine Xx.bastore 30 (hx' := own_narb _) K0 (by decide +kernel) (by decide) (by simp) (gk2) ?_
    intro Tk0 hk0 Xk0 Wk0 K1
    have E0 := E0.other Wk0 nkx.symm
    refine Xk0.blk hK (L := [(.aload 7, 2, 0, 0), (.iconst 0, 1, 0, 0), (.iload_n 1, 1, 0, 0), (.i2b, 1, 0, 0)]) (pc' := 35) (ls' := #[.val (.int p1), .val (.int p2), .val (.int p3), .val (.int p4), .val (.int p5), .val (.int (1 : Int32)), .val (.ref ak), .val (.ref ax), .unset, .unset, .unset, .unset, .unset, .unset, .unset, .unset, .unset]) (st' := [(.int p2.toInt8.toInt32), (.int (0 : Int32)), (.ref ax)]) (by decide +kernel) rfl ?_
    refine Xk0.bastore 36 (hx' := own_narb _) E0 (by decide +kernel) (by decide) (by simp) (gx2) ?_
    intro Tx0 hx0 Xx0 Wx0 E1
    have K1 := K1.other Wx0 nkx
    refine Xx0.blk hK (L := [(.iload 5, 2, 0, 0), (.iconst 1, 1, 1, 0)]) (pc' := 39) (ls' := #[.val (.int p1), .val (.int p2), .val (.int p3), .val (.int p4), .val (.int p5), .val (.int (1 : Int32)), .val (.ref ak), .val (.ref ax), .unset, .unset, .unset, .unset, .unset, .unset, .unset, .unset, .unset]) (st' := [(.int (1 : Int32)), (.int (1 : Int32))]) (by decide +kernel) rfl ?_
    refine Xx0.icmp .le (15) 54 42 (by decide +kernel) (fun (c39 : ¬ (1 : Int32) < (1 : Int32)) => ?_) (fun (c39 : (1 : Int32) < (1 : Int32)) => absurd c39 (by decide : ¬ (1 : Int32) < (1 : Int32)))
    refine Xx0.blk hK (L := [(.iload 5, 2, 0, 0), (.iconst 2, 1, 2, 0)]) (pc' := 57) (ls' := #[.val (.int p1), .val (.int p2), .val (.int p3), .val (.int p4), .val (.int p5), .val (.int (1 : Int32)), .val (.ref ak), .val (.ref ax), .unset, .unset, .unset, .unset, .unset, .unset, .unset, .unset, .unset]) (st' := [(.int (2 : Int32)), (.int (1 : Int32))]) (by decide +kernel) rfl ?_
    refine Xx0.icmp .le (15) 72 60 (by decide +kernel) (fun (c57 : ¬ (2 : Int32) < (1 : Int32)) => ?_) (fun (c57 : (2 : Int32) < (1 : Int32)) => absurd c57 (by decide : ¬ (2 : Int32) < (1 : Int32)))
    refine Xx0.blk hK (L := [(.aload 7, 2, 0, 0), (.iload 5, 2, 0, 0), (.iload 4, 2, 0, 0), (.i2b, 1, 0, 0)]) (pc' := 79) (ls' := #[.val (.int p1), .val (.int p2), .val (.int p3), .val (.int p4), .val (.int p5), .val (.int (1 : Int32)), .val (.ref ak), .val (.ref ax), .unset, .unset, .unset, .unset, .unset, .unset, .unset, .unset, .unset]) (st' := [(.int p5.toInt8.toInt32), (.int (1 : Int32)), (.ref ax)]) (by decide +kernel) rfl ?_
    refine Xx0.bastore 80 (hx' := own_narb _) E1 (by decide +kernel) (by decide) (by simp) (gx2) ?_
    intro Txd hxd Xxd Wxd ED
    have KD := K1.other Wxd nkx
    replace KD : AV Z hxd ak .byte [.int p2.toInt8.toInt32] := KD
    replace ED : AV Z hxd ax .byte [.int p2.toInt8.toInt32, .int p5.toInt8.toInt32] := ED
    refine Xxd.blk hK (L := [(.iconst 0, 1, 0, 0)]) (pc' := 81) (ls' := #[.val (.int p1), .val (.int p2), .val (.int p3), .val (.int p4), .val (.int p5), .val (.int (1 : Int32)), .val (.ref ak), .val (.ref ax), .unset, .unset, .unset, .unset, .unset, .unset, .unset, .unset, .unset]) (st' := [(.int (0 : Int32))]) (by decide +kernel) rfl ?_
    refine Xxd.newarr 83 0 (aty := .byte) (hw _ (List.mem_of_getElem? (i := 0) rfl)) rfl (by decide +kernel) (by decide) (by decide) (by decide) ?_
    intro Tz hz Xz Ez Z1
    obtain ⟨az, gz⟩ : ∃ z, z = hxd.size := ⟨_, rfl⟩
    rw [← gz] at Z1 ⊢
    replace Z1 : AV Z hz az .byte [] := Z1
    have KD := KD.ext Ez
    have ED := ED.ext Ez
    refine Xz.blk hK (L := [(.astore 8, 2, 0, 0), (.aload 8, 2, 0, 0)]) (pc' := 87) (ls' := #[.val (.int p1), .val (.int p2), .val (.int p3), .val (.int p4), .val (.int p5), .val (.int (1 : Int32)), .val (.ref ak), .val (.ref ax), .val (.ref az), .unset, .unset, .unset, .unset, .unset, .unset, .unset, .unset]) (st' := [(.ref az)]) (by decide +kernel) rfl ?_
    refine Xz.callS 90 0 (argsL := [(.ref az)]) (rest := []) (rm_hash0 l Z a0 hw az hz n0 Xz.size Z1) (hw _ (List.mem_of_getElem? (i := 1) rfl)) (hw _ (List.mem_of_getElem? (i := 2) rfl)) (hw _ (List.mem_of_getElem? (i := 3) rfl)) (hw _ (List.mem_of_getElem? (i := 4) rfl)) (by decide) (ps := [(.array .byte)]) (r := some .long) (by decide +kernel) rfl rfl rfl rfl (by decide +kernel) (by decide) ?_
    rintro Th1 hh1 vh1 Xh1 ⟨rfl, rfl⟩
    show Go p e below s _ n0 _ (Th1.setTop (mkF m 90 #[.val (.int p1), .val (.int p2), .val (.int p3), .val (.int p4), .val (.int p5), .val (.int (1 : Int32)), .val (.ref ak), .val (.ref ax), .val (.ref az), .unset, .unset, .unset, .unset, .unset, .unset, .unset, .unset] [(.long (mix (-3750763034362895579 : Int64)))]))
    refine Xh1.blk hK (L := [(.lstore 9, 2, 0, 0), (.aload 6, 2, 0, 0)]) (pc' := 94) (ls' := #[.val (.int p1), .val (.int p2), .val (.int p3), .val (.int p4), .val (.int p5), .val (.int (1 : Int32)), .val (.ref ak), .val (.ref ax), .val (.ref az), .val (.long (mix (-3750763034362895579 : Int64))), .second, .unset, .unset, .unset, .unset, .unset, .unset]) (st' := [(.ref ak)]) (by decide +kernel) rfl ?_
    refine Xh1.callS 97 0 (argsL := [(.ref ak)]) (rest := []) (rm_hash1 l Z a0 hw ak p2.toInt8.toInt32 hz n0 Xh1.size KD) (hw _ (List.mem_of_getElem? (i := 1) rfl)) (hw _ (List.mem_of_getElem? (i := 2) rfl)) (hw _ (List.mem_of_getElem? (i := 3) rfl)) (hw _ (List.mem_of_getElem? (i := 4) rfl)) (by decide) (ps := [(.array .byte)]) (r := some .long) (by decide +kernel) rfl rfl rfl rfl (by decide +kernel) (by decide) ?_
    rintro Th2 hh2 vh2 Xh2 ⟨rfl, rfl⟩
    show Go p e below s _ n0 _ (Th2.setTop (mkF m 97 #[.val (.int p1), .val (.int p2), .val (.int p3), .val (.int p4), .val (.int p5), .val (.int (1 : Int32)), .val (.ref ak), .val (.ref ax), .val (.ref az), .val (.long (mix (-3750763034362895579 : Int64))), .second, .unset, .unset, .unset, .unset, .unset, .unset] [(.long (mix (stp (-3750763034362895579 : Int64) p2.toInt8.toInt32)))]))
    refine Xh2.blk hK (L := [(.lstore 11, 2, 0, 0), (.aload 7, 2, 0, 0)]) (pc' := 101) (ls' := #[.val (.int p1), .val (.int p2), .val (.int p3), .val (.int p4), .val (.int p5), .val (.int (1 : Int32)), .val (.ref ak), .val (.ref ax), .val (.ref az), .val (.long (mix (-3750763034362895579 : Int64))), .second, .val (.long (mix (stp (-3750763034362895579 : Int64) p2.toInt8.toInt32))), .second, .unset, .unset, .unset, .unset]) (st' := [(.ref ax)]) (by decide +kernel) rfl ?_
    refine Xh2.callS 104 0 (argsL := [(.ref ax)]) (rest := []) (rm_hash2 l Z a0 hw ax p2.toInt8.toInt32 p5.toInt8.toInt32 hz n0 Xh2.size ED) (hw _ (List.mem_of_getElem? (i := 1) rfl)) (hw _ (List.mem_of_getElem? (i := 2) rfl)) (hw _ (List.mem_of_getElem? (i := 3) rfl)) (hw _ (List.mem_of_getElem? (i := 4) rfl)) (by decide) (ps := [(.array .byte)]) (r := some .long) (by decide +kernel) rfl rfl rfl rfl (by decide +kernel) (by decide) ?_
    rintro Th3 hh3 vh3 Xh3 ⟨rfl, rfl⟩
    show Go p e below s _ n0 _ (Th3.setTop (mkF m 104 #[.val (.int p1), .val (.int p2), .val (.int p3), .val (.int p4), .val (.int p5), .val (.int (1 : Int32)), .val (.ref ak), .val (.ref ax), .val (.ref az), .val (.long (mix (-3750763034362895579 : Int64))), .second, .val (.long (mix (stp (-3750763034362895579 : Int64) p2.toInt8.toInt32))), .second, .unset, .unset, .unset, .unset] [(.long (mix (stp (stp (-3750763034362895579 : Int64) p2.toInt8.toInt32) p5.toInt8.toInt32)))]))
    refine Xh3.blk hK (L := [(.lstore 13, 2, 0, 0), (.lload 9, 2, 0, 0)]) (pc' := 108) (ls' := #[.val (.int p1), .val (.int p2), .val (.int p3), .val (.int p4), .val (.int p5), .val (.int (1 : Int32)), .val (.ref ak), .val (.ref ax), .val (.ref az), .val (.long (mix (-3750763034362895579 : Int64))), .second, .val (.long (mix (stp (-3750763034362895579 : Int64) p2.toInt8.toInt32))), .second, .val (.long (mix (stp (stp (-3750763034362895579 : Int64) p2.toInt8.toInt32) p5.toInt8.toInt32))), .second, .unset, .unset]) (st' := [(.long (mix (-3750763034362895579 : Int64)))]) (by decide +kernel) rfl ?_
    refine Xh3.callS 111 0 (argsL := [(.long (mix (-3750763034362895579 : Int64)))]) (rest := []) (rm_un l Z a0 hw (mix (-3750763034362895579 : Int64)) hz n0 Xh3.size) (hw _ (List.mem_of_getElem? (i := 9) rfl)) (hw _ (List.mem_of_getElem? (i := 10) rfl)) (hw _ (List.mem_of_getElem? (i := 11) rfl)) (hw _ (List.mem_of_getElem? (i := 12) rfl)) (by decide) (ps := [.long]) (r := some .long) (by decide +kernel) rfl rfl rfl rfl (by decide +kernel) (by decide) ?_
    rintro Tu1 hu1 vu1 Xu1 ⟨rfl, rfl⟩
    show Go p e below s _ n0 _ (Tu1.setTop (mkF m 111 #[.val (.int p1), .val (.int p2), .val (.int p3), .val (.int p4), .val (.int p5), .val (.int (1 : Int32)), .val (.ref ak), .val (.ref ax), .val (.ref az), .val (.long (mix (-3750763034362895579 : Int64))), .second, .val (.long (mix (stp (-3750763034362895579 : Int64) p2.toInt8.toInt32))), .second, .val (.long (mix (stp (stp (-3750763034362895579 : Int64) p2.toInt8.toInt32) p5.toInt8.toInt32))), .second, .unset, .unset] [(.long (unm (mix (-3750763034362895579 : Int64))))]))
    refine Xu1.blk hK (L := [(.ldc2_w 28, 3, 0, 0)]) (pc' := 114) (ls' := #[.val (.int p1), .val (.int p2), .val (.int p3), .val (.int p4), .val (.int p5), .val (.int (1 : Int32)), .val (.ref ak), .val (.ref ax), .val (.ref az), .val (.long (mix (-3750763034362895579 : Int64))), .second, .val (.long (mix (stp (-3750763034362895579 : Int64) p2.toInt8.toInt32))), .second, .val (.long (mix (stp (stp (-3750763034362895579 : Int64) p2.toInt8.toInt32) p5.toInt8.toInt32))), .second, .unset, .unset]) (st' := [(.long (-3750763034362895579 : Int64)), (.long (unm (mix (-3750763034362895579 : Int64))))]) (by decide +kernel) rfl ?_
    refine Xu1.lcmp .ne (7) 122 118 (by decide +kernel) (fun (c114 : ¬ (unm (mix (-3750763034362895579 : Int64))) = (-3750763034362895579 : Int64)) => absurd (own_un _ : (unm (mix (-3750763034362895579 : Int64))) = (-3750763034362895579 : Int64)) c114) (fun (c114 : (unm (mix (-3750763034362895579 : Int64))) = (-3750763034362895579 : Int64)) => ?_)
    refine Xu1.blk hK (L := [(.iconst 1, 1, 1, 0), (.goto 4, 3, 0, 123), (.istore 15, 2, 0, 0), (.lload 13, 2, 0, 0)]) (pc' := 127) (ls' := #[.val (.int p1), .val (.int p2), .val (.int p3), .val (.int p4), .val (.int p5), .val (.int (1 : Int32)), .val (.ref ak), .val (.ref ax), .val (.ref az), .val (.long (mix (-3750763034362895579 : Int64))), .second, .val (.long (mix (stp (-3750763034362895579 : Int64) p2.toInt8.toInt32))), .second, .val (.long (mix (stp (stp (-3750763034362895579 : Int64) p2.toInt8.toInt32) p5.toInt8.toInt32))), .second, .val (.int (1 : Int32)), .unset]) (st' := [(.long (mix (stp (stp (-3750763034362895579 : Int64) p2.toInt8.toInt32) p5.toInt8.toInt32)))]) (by decide +kernel) rfl ?_
    refine Xu1.callS 130 0 (argsL := [(.long (mix (stp (stp (-3750763034362895579 : Int64) p2.toInt8.toInt32) p5.toInt8.toInt32)))]) (rest := []) (rm_un l Z a0 hw (mix (stp (stp (-3750763034362895579 : Int64) p2.toInt8.toInt32) p5.toInt8.toInt32)) hz n0 Xu1.size) (hw _ (List.mem_of_getElem? (i := 9) rfl)) (hw _ (List.mem_of_getElem? (i := 10) rfl)) (hw _ (List.mem_of_getElem? (i := 11) rfl)) (hw _ (List.mem_of_getElem? (i := 12) rfl)) (by decide) (ps := [.long]) (r := some .long) (by decide +kernel) rfl rfl rfl rfl (by decide +kernel) (by decide) ?_
    rintro Tu2 hu2 vu2 Xu2 ⟨rfl, rfl⟩
    show Go p e below s _ n0 _ (Tu2.setTop (mkF m 130 #[.val (.int p1), .val (.int p2), .val (.int p3), .val (.int p4), .val (.int p5), .val (.int (1 : Int32)), .val (.ref ak), .val (.ref ax), .val (.ref az), .val (.long (mix (-3750763034362895579 : Int64))), .second, .val (.long (mix (stp (-3750763034362895579 : Int64) p2.toInt8.toInt32))), .second, .val (.long (mix (stp (stp (-3750763034362895579 : Int64) p2.toInt8.toInt32) p5.toInt8.toInt32))), .second, .val (.int (1 : Int32)), .unset] [(.long (unm (mix (stp (stp (-3750763034362895579 : Int64) p2.toInt8.toInt32) p5.toInt8.toInt32))))]))
    refine Xu2.blk hK (L := [(.lload 11, 2, 0, 0)]) (pc' := 132) (ls' := #[.val (.int p1), .val (.int p2), .val (.int p3), .val (.int p4), .val (.int p5), .val (.int (1 : Int32)), .val (.ref ak), .val (.ref ax), .val (.ref az), .val (.long (mix (-3750763034362895579 : Int64))), .second, .val (.long (mix (stp (-3750763034362895579 : Int64) p2.toInt8.toInt32))), .second, .val (.long (mix (stp (stp (-3750763034362895579 : Int64) p2.toInt8.toInt32) p5.toInt8.toInt32))), .second, .val (.int (1 : Int32)), .unset]) (st' := [(.long (mix (stp (-3750763034362895579 : Int64) p2.toInt8.toInt32))), (.long (unm (mix (stp (stp (-3750763034362895579 : Int64) p2.toInt8.toInt32) p5.toInt8.toInt32))))]) (by decide +kernel) rfl ?_
    refine Xu2.callS 135 2 (argsL := [(.long (mix (stp (-3750763034362895579 : Int64) p2.toInt8.toInt32)))]) (rest := [(.long (unm (mix (stp (stp (-3750763034362895579 : Int64) p2.toInt8.toInt32) p5.toInt8.toInt32))))]) (rm_un l Z a0 hw (mix (stp (-3750763034362895579 : Int64) p2.toInt8.toInt32)) hz n0 Xu2.size) (hw _ (List.mem_of_getElem? (i := 9) rfl)) (hw _ (List.mem_of_getElem? (i := 10) rfl)) (hw _ (List.mem_of_getElem? (i := 11) rfl)) (hw _ (List.mem_of_getElem? (i := 12) rfl)) (by decide) (ps := [.long]) (r := some .long) (by decide +kernel) rfl rfl rfl rfl (by decide +kernel) (by decide) ?_
    rintro Tu3 hu3 vu3 Xu3 ⟨rfl, rfl⟩
    show Go p e below s _ n0 _ (Tu3.setTop (mkF m 135 #[.val (.int p1), .val (.int p2), .val (.int p3), .val (.int p4), .val (.int p5), .val (.int (1 : Int32)), .val (.ref ak), .val (.ref ax), .val (.ref az), .val (.long (mix (-3750763034362895579 : Int64))), .second, .val (.long (mix (stp (-3750763034362895579 : Int64) p2.toInt8.toInt32))), .second, .val (.long (mix (stp (stp (-3750763034362895579 : Int64) p2.toInt8.toInt32) p5.toInt8.toInt32))), .second, .val (.int (1 : Int32)), .unset] [(.long (unm (mix (stp (-3750763034362895579 : Int64) p2.toInt8.toInt32)))), (.long (unm (mix (stp (stp (-3750763034362895579 : Int64) p2.toInt8.toInt32) p5.toInt8.toInt32))))]))
    refine Xu3.blk hK (L := [(.iload 4, 2, 0, 0), (.sipush 255, 3, 255, 0), (.iand, 1, 0, 0), (.i2l, 1, 0, 0), (.lxor, 1, 0, 0), (.ldc2_w 30, 3, 0, 0), (.lmul, 1, 0, 0)]) (pc' := 147) (ls' := #[.val (.int p1), .val (.int p2), .val (.int p3), .val (.int p4), .val (.int p5), .val (.int (1 : Int32)), .val (.ref ak), .val (.ref ax), .val (.ref az), .val (.long (mix (-3750763034362895579 : Int64))), .second, .val (.long (mix (stp (-3750763034362895579 : Int64) p2.toInt8.toInt32))), .second, .val (.long (mix (stp (stp (-3750763034362895579 : Int64) p2.toInt8.toInt32) p5.toInt8.toInt32))), .second, .val (.int (1 : Int32)), .unset]) (st' := [(.long (((unm (mix (stp (-3750763034362895579 : Int64) p2.toInt8.toInt32))) ^^^ ((p5 &&& (255 : Int32)).toInt64)) * (1099511628211 : Int64))), (.long (unm (mix (stp (stp (-3750763034362895579 : Int64) p2.toInt8.toInt32) p5.toInt8.toInt32))))]) (by decide +kernel) rfl ?_
    refine Xu3.lcmp .ne (7) 155 151 (by decide +kernel) (fun (c147 : ¬ (unm (mix (stp (stp (-3750763034362895579 : Int64) p2.toInt8.toInt32) p5.toInt8.toInt32))) = (((unm (mix (stp (-3750763034362895579 : Int64) p2.toInt8.toInt32))) ^^^ ((p5 &&& (255 : Int32)).toInt64)) * (1099511628211 : Int64))) => absurd (own_st _ _ : (unm (mix (stp (stp (-3750763034362895579 : Int64) p2.toInt8.toInt32) p5.toInt8.toInt32))) = (((unm (mix (stp (-3750763034362895579 : Int64) p2.toInt8.toInt32))) ^^^ ((p5 &&& (255 : Int32)).toInt64)) * (1099511628211 : Int64))) c147) (fun (c147 : (unm (mix (stp (stp (-3750763034362895579 : Int64) p2.toInt8.toInt32) p5.toInt8.toInt32))) = (((unm (mix (stp (-3750763034362895579 : Int64) p2.toInt8.toInt32))) ^^^ ((p5 &&& (255 : Int32)).toInt64)) * (1099511628211 : Int64))) => ?_)
    refine Xu3.blk hK (L := [(.iconst 1, 1, 1, 0), (.goto 4, 3, 0, 156), (.istore 16, 2, 0, 0), (.iload 15, 2, 0, 0)]) (pc' := 160) (ls' := #[.val (.int p1), .val (.int p2), .val (.int p3), .val (.int p4), .val (.int p5), .val (.int (1 : Int32)), .val (.ref ak), .val (.ref ax), .val (.ref az), .val (.long (mix (-3750763034362895579 : Int64))), .second, .val (.long (mix (stp (-3750763034362895579 : Int64) p2.toInt8.toInt32))), .second, .val (.long (mix (stp (stp (-3750763034362895579 : Int64) p2.toInt8.toInt32) p5.toInt8.toInt32))), .second, .val (.int (1 : Int32)), .val (.int (1 : Int32))]) (st' := [(.int (1 : Int32))]) (by decide +kernel) rfl ?_
    refine Xu3.ifc .eq (12) 172 163 (by decide +kernel) (fun (c160 : (1 : Int32) = (0 : Int32)) => absurd c160 (by decide : ¬ (1 : Int32) = (0 : Int32))) (fun (c160 : ¬ (1 : Int32) = (0 : Int32)) => ?_)
    refine Xu3.blk hK (L := [(.iload 16, 2, 0, 0)]) (pc' := 165) (ls' := #[.val (.int p1), .val (.int p2), .val (.int p3), .val (.int p4), .val (.int p5), .val (.int (1 : Int32)), .val (.ref ak), .val (.ref ax), .val (.ref az), .val (.long (mix (-3750763034362895579 : Int64))), .second, .val (.long (mix (stp (-3750763034362895579 : Int64) p2.toInt8.toInt32))), .second, .val (.long (mix (stp (stp (-3750763034362895579 : Int64) p2.toInt8.toInt32) p5.toInt8.toInt32))), .second, .val (.int (1 : Int32)), .val (.int (1 : Int32))]) (st' := [(.int (1 : Int32))]) (by decide +kernel) rfl ?_
    refine Xu3.ifc .eq (7) 172 168 (by decide +kernel) (fun (c165 : (1 : Int32) = (0 : Int32)) => absurd c165 (by decide : ¬ (1 : Int32) = (0 : Int32))) (fun (c165 : ¬ (1 : Int32) = (0 : Int32)) => ?_)
    refine Xu3.blk hK (L := [(.iconst 1, 1, 1, 0), (.goto 4, 3, 0, 173)]) (pc' := 173) (ls' := #[.val (.int p1), .val (.int p2), .val (.int p3), .val (.int p4), .val (.int p5), .val (.int (1 : Int32)), .val (.ref ak), .val (.ref ax), .val (.ref az), .val (.long (mix (-3750763034362895579 : Int64))), .second, .val (.long (mix (stp (-3750763034362895579 : Int64) p2.toInt8.toInt32))), .second, .val (.long (mix (stp (stp (-3750763034362895579 : Int64) p2.toInt8.toInt32) p5.toInt8.toInt32))), .second, .val (.int (1 : Int32)), .val (.int (1 : Int32))]) (st' := [(.int (1 : Int32))]) (by decide +kernel) rfl ?_
    exact Xu3.retZ (by decide +kernel) (by decide) (by decide) (Or.inr rfl) (rfl)
  · rw [q_m]
    refine X.newarr 9 2 (aty := .byte) (hw _ (List.mem_of_getElem? (i := 0) rfl)) rfl (by decide +kernel) (by decide) (by decide) (by decide) ?_
    intro Tk hk Xk Ek K0
    obtain ⟨ak, gk⟩ : ∃ z, z = h0.size := ⟨_, rfl⟩
    rw [← gk] at K0 ⊢
    have K0 : AV Z hk ak .byte (List.replicate 2 (.int 0)) := K0
    have gk2 : n0 ≤ ak := by rw [gk]; exact Z0
    refine Xk.blk hK (L := [(.astore 6, 2, 0, 0), (.iload 5, 2, 0, 0), (.iconst 1, 1, 1, 0), (.iadd, 1, 0, 0)]) (pc' := 15) (ls' := #[.val (.int p1), .val (.int p2), .val (.int p3), .val (.int p4), .val (.int p5), .val (.int (2 : Int32)), .val (.ref ak), .unset, .unset, .unset, .unset, .unset, .unset, .unset, .unset, .unset, .unset]) (st' := [(.int ((2 : Int32) + (1 : Int32)))]) (by decide +kernel) rfl ?_
    refine Xk.newarr 17 3 (aty := .byte) (hw _ (List.mem_of_getElem? (i := 0) rfl)) rfl (by decide +kernel) (by decide) (by decide) (by decide) ?_
    intro Tx hx Xx Ex E0
    obtain ⟨ax, gx⟩ : ∃ z, z = hk.size := ⟨_, rfl⟩
    rw [← gx] at E0 ⊢
    have E0 : AV Z hx ax .byte (List.replicate 3 (.int 0)) := E0
    have gx2 : n0 ≤ ax := by rw [gx]; exact Xk.size
    have nkx : ak ≠ ax := by rw [gx]; exact Nat.ne_of_lt K0.lt
    have K0 := K0.ext Ex
    refine Xx.blk hK (L := [(.astore 7, 2, 0, 0), (.iload 5, 2, 0, 0)]) (pc' := 21) (ls' := #[.val (.int p1), .val (.int p2), .val (.int p3), .val (.int p4), .val (.int p5), .val (.int (2 : Int32)), .val (.ref ak), .val (.ref ax), .unset, .unset, .unset, .unset, .unset, .unset, .unset, .unset, .unset]) (st' := [(.int (2 : Int32))]) (by decide +kernel) rfl ?_
    refine Xx.ifc .le (15) 36 24 (by decide +kernel) (fun (c21 : ¬ (0 : Int32) < (2 : Int32)) => absurd (by decide : (0 : Int32) < (2 : Int32)) c21) (fun (c21 : (0 : Int32) < (2 : Int32)) => ?_)
    refine Xx.blk hK (L := [(.aload 6, 2, 0, 0), (.iconst 0, 1, 0, 0), (.iload_n 1, 1, 0, 0), (.i2b, 1, 0, 0)]) (pc' := 29) (ls' := #[.val (.int p1), .val (.int p2), .val (.int p3), .val (.int p4), .val (.int p5), .val (.int (2 : Int32)), .val (.ref ak), .val (.ref ax), .unset, .unset, .unset, .unset, .unset, .unset, .unset, .unset, .unset]) (st' := [(.int p2.toInt8.toInt32), (.int (0 : Int32)), (.ref ak)]) (by decide +kernel) rfl ?_
    refine Xx.bastore 30 (hx' := own_narb _) K0 (by decide +kernel) (by decide) (by simp) (gk2) ?_
    intro Tk0 hk0 Xk0 Wk0 K1
    have E0 := E0.other Wk0 nkx.symm
    refine Xk0.blk hK (L := [(.aload 7, 2, 0, 0), (.iconst 0, 1, 0, 0), (.iload_n 1, 1, 0, 0), (.i2b, 1, 0, 0)]) (pc' := 35) (ls' := #[.val (.int p1), .val (.int p2), .val (.int p3), .val (.int p4), .val (.int p5), .val (.int (2 : Int32)), .val (.ref ak), .val (.ref ax), .unset, .unset, .unset, .unset, .unset, .unset, .unset, .unset, .unset]) (st' := [(.int p2.toInt8.toInt32), (.int (0 : Int32)), (.ref ax)]) (by decide +kernel) rfl ?_
    refine Xk0.bastore 36 (hx' := own_narb _) E0 (by decide +kernel) (by decide) (by simp) (gx2) ?_
    intro Tx0 hx0 Xx0 Wx0 E1
    have K1 := K1.other Wx0 nkx
    refine Xx0.blk hK (L := [(.iload 5, 2, 0, 0), (.iconst 1, 1, 1, 0)]) (pc' := 39) (ls' := #[.val (.int p1), .val (.int p2), .val (.int p3), .val (.int p4), .val (.int p5), .val (.int (2 : Int32)), .val (.ref ak), .val (.ref ax), .unset, .unset, .unset, .unset, .unset, .unset, .unset, .unset, .unset]) (st' := [(.int (1 : Int32)), (.int (2 : Int32))]) (by decide +kernel) rfl ?_
    refine Xx0.icmp .le (15) 54 42 (by decide +kernel) (fun (c39 : ¬ (1 : Int32) < (2 : Int32)) => absurd (by decide : (1 : Int32) < (2 : Int32)) c39) (fun (c39 : (1 : Int32) < (2 : Int32)) => ?_)
    refine Xx0.blk hK (L := [(.aload 6, 2, 0, 0), (.iconst 1, 1, 1, 0), (.iload_n 2, 1, 0, 0), (.i2b, 1, 0, 0)]) (pc' := 47) (ls' := #[.val (.int p1), .val (.int p2), .val (.int p3), .val (.int p4), .val (.int p5), .val (.int (2 : Int32)), .val (.ref ak), .val (.ref ax), .unset, .unset, .unset, .unset, .unset, .unset, .unset, .unset, .unset]) (st' := [(.int p3.toInt8.toInt32), (.int (1 : Int32)), (.ref ak)]) (by decide +kernel) rfl ?_
    refine Xx0.bastore 48 (hx' := own_narb _) K1 (by decide +kernel) (by decide) (by simp) (gk2) ?_
    intro Tk1 hk1 Xk1 Wk1 K2
    have E1 := E1.other Wk1 nkx.symm
    refine Xk1.blk hK (L := [(.aload 7, 2, 0, 0), (.iconst 1, 1, 1, 0), (.iload_n 2, 1, 0, 0), (.i2b, 1, 0, 0)]) (pc' := 53) (ls' := #[.val (.int p1), .val (.int p2), .val (.int p3), .val (.int p4), .val (.int p5), .val (.int (2 : Int32)), .val (.ref ak), .val (.ref ax), .unset, .unset, .unset, .unset, .unset, .unset, .unset, .unset, .unset]) (st' := [(.int p3.toInt8.toInt32), (.int (1 : Int32)), (.ref ax)]) (by decide +kernel) rfl ?_
    refine Xk1.bastore 54 (hx' := own_narb _) E1 (by decide +kernel) (by decide) (by simp) (gx2) ?_
    intro Tx1 hx1 Xx1 Wx1 E2
    have K2 := K2.other Wx1 nkx
    refine Xx1.blk hK (L := [(.iload 5, 2, 0, 0), (.iconst 2, 1, 2, 0)]) (pc' := 57) (ls' := #[.val (.int p1), .val (.int p2), .val (.int p3), .val (.int p4), .val (.int p5), .val (.int (2 : Int32)), .val (.ref ak), .val (.ref ax), .unset, .unset, .unset, .unset, .unset, .unset, .unset, .unset, .unset]) (st' := [(.int (2 : Int32)), (.int (2 : Int32))]) (by decide +kernel) rfl ?_
    refine Xx1.icmp .le (15) 72 60 (by decide +kernel) (fun (c57 : ¬ (2 : Int32) < (2 : Int32)) => ?_) (fun (c57 : (2 : Int32) < (2 : Int32)) => absurd c57 (by decide : ¬ (2 : Int32) < (2 : Int32)))
    refine Xx1.blk hK (L := [(.aload 7, 2, 0, 0), (.iload 5, 2, 0, 0), (.iload 4, 2, 0, 0), (.i2b, 1, 0, 0)]) (pc' := 79) (ls' := #[.val (.int p1), .val (.int p2), .val (.int p3), .val (.int p4), .val (.int p5), .val (.int (2 : Int32)), .val (.ref ak), .val (.ref ax), .unset, .unset, .unset, .unset, .unset, .unset, .unset, .unset, .unset]) (st' := [(.int p5.toInt8.toInt32), (.int (2 : Int32)), (.ref ax)]) (by decide +kernel) rfl ?_
    refine Xx1.bastore 80 (hx' := own_narb _) E2 (by decide +kernel) (by decide) (by simp) (gx2) ?_
    intro Txd hxd Xxd Wxd ED
    have KD := K2.other Wxd nkx
    replace KD : AV Z hxd ak .byte [.int p2.toInt8.toInt32, .int p3.toInt8.toInt32] := KD
    replace ED : AV Z hxd ax .byte [.int p2.toInt8.toInt32, .int p3.toInt8.toInt32, .int p5.toInt8.toInt32] := ED
    refine Xxd.blk hK (L := [(.iconst 0, 1, 0, 0)]) (pc' := 81) (ls' := #[.val (.int p1), .val (.int p2), .val (.int p3), .val (.int p4), .val (.int p5), .val (.int (2 : Int32)), .val (.ref ak), .val (.ref ax), .unset, .unset, .unset, .unset, .unset, .unset, .unset, .unset, .unset]) (st' := [(.int (0 : Int32))]) (by decide +kernel) rfl ?_
    refine Xxd.newarr 83 0 (aty := .byte) (hw _ (List.mem_of_getElem? (i := 0) rfl)) rfl (by decide +kernel) (by decide) (by decide) (by decide) ?_
    intro Tz hz Xz Ez Z1
    obtain ⟨az, gz⟩ : ∃ z, z = hxd.size := ⟨_, rfl⟩
    rw [← gz] at Z1 ⊢
    replace Z1 : AV Z hz az .byte [] := Z1
    have KD := KD.ext Ez
    have ED := ED.ext Ez
    refine Xz.blk hK (L := [(.astore 8, 2, 0, 0), (.aload 8, 2, 0, 0)]) (pc' := 87) (ls' := #[.val (.int p1), .val (.int p2), .val (.int p3), .val (.int p4), .val (.int p5), .val (.int (2 : Int32)), .val (.ref ak), .val (.ref ax), .val (.ref az), .unset, .unset, .unset, .unset, .unset, .unset, .unset, .unset]) (st' := [(.ref az)]) (by decide +kernel) rfl ?_
    refine Xz.callS 90 0 (argsL := [(.ref az)]) (rest := []) (rm_hash0 l Z a0 hw az hz n0 Xz.size Z1) (hw _ (List.mem_of_getElem? (i := 1) rfl)) (hw _ (List.mem_of_getElem? (i := 2) rfl)) (hw _ (List.mem_of_getElem? (i := 3) rfl)) (hw _ (List.mem_of_getElem? (i := 4) rfl)) (by decide) (ps := [(.array .byte)]) (r := some .long) (by decide +kernel) rfl rfl rfl rfl (by decide +kernel) (by decide) ?_
    rintro Th1 hh1 vh1 Xh1 ⟨rfl, rfl⟩
    show Go p e below s _ n0 _ (Th1.setTop (mkF m 90 #[.val (.int p1), .val (.int p2), .val (.int p3), .val (.int p4), .val (.int p5), .val (.int (2 : Int32)), .val (.ref ak), .val (.ref ax), .val (.ref az), .unset, .unset, .unset, .unset, .unset, .unset, .unset, .unset] [(.long (mix (-3750763034362895579 : Int64)))]))
    refine Xh1.blk hK (L := [(.lstore 9, 2, 0, 0), (.aload 6, 2, 0, 0)]) (pc' := 94) (ls' := #[.val (.int p1), .val (.int p2), .val (.int p3), .val (.int p4), .val (.int p5), .val (.int (2 : Int32)), .val (.ref ak), .val (.ref ax), .val (.ref az), .val (.long (mix (-3750763034362895579 : Int64))), .second, .unset, .unset, .unset, .unset, .unset, .unset]) (st' := [(.ref ak)]) (by decide +kernel) rfl ?_
    refine Xh1.callS 97 0 (argsL := [(.ref ak)]) (rest := []) (rm_hash2 l Z a0 hw ak p2.toInt8.toInt32 p3.toInt8.toInt32 hz n0 Xh1.size KD) (hw _ (List.mem_of_getElem? (i := 1) rfl)) (hw _ (List.mem_of_getElem? (i := 2) rfl)) (hw _ (List.mem_of_getElem? (i := 3) rfl)) (hw _ (List.mem_of_getElem? (i := 4) rfl)) (by decide) (ps := [(.array .byte)]) (r := some .long) (by decide +kernel) rfl rfl rfl rfl (by decide +kernel) (by decide) ?_
    rintro Th2 hh2 vh2 Xh2 ⟨rfl, rfl⟩
    show Go p e below s _ n0 _ (Th2.setTop (mkF m 97 #[.val (.int p1), .val (.int p2), .val (.int p3), .val (.int p4), .val (.int p5), .val (.int (2 : Int32)), .val (.ref ak), .val (.ref ax), .val (.ref az), .val (.long (mix (-3750763034362895579 : Int64))), .second, .unset, .unset, .unset, .unset, .unset, .unset] [(.long (mix (stp (stp (-3750763034362895579 : Int64) p2.toInt8.toInt32) p3.toInt8.toInt32)))]))
    refine Xh2.blk hK (L := [(.lstore 11, 2, 0, 0), (.aload 7, 2, 0, 0)]) (pc' := 101) (ls' := #[.val (.int p1), .val (.int p2), .val (.int p3), .val (.int p4), .val (.int p5), .val (.int (2 : Int32)), .val (.ref ak), .val (.ref ax), .val (.ref az), .val (.long (mix (-3750763034362895579 : Int64))), .second, .val (.long (mix (stp (stp (-3750763034362895579 : Int64) p2.toInt8.toInt32) p3.toInt8.toInt32))), .second, .unset, .unset, .unset, .unset]) (st' := [(.ref ax)]) (by decide +kernel) rfl ?_
    refine Xh2.callS 104 0 (argsL := [(.ref ax)]) (rest := []) (rm_hash3 l Z a0 hw ax p2.toInt8.toInt32 p3.toInt8.toInt32 p5.toInt8.toInt32 hz n0 Xh2.size ED) (hw _ (List.mem_of_getElem? (i := 1) rfl)) (hw _ (List.mem_of_getElem? (i := 2) rfl)) (hw _ (List.mem_of_getElem? (i := 3) rfl)) (hw _ (List.mem_of_getElem? (i := 4) rfl)) (by decide) (ps := [(.array .byte)]) (r := some .long) (by decide +kernel) rfl rfl rfl rfl (by decide +kernel) (by decide) ?_
    rintro Th3 hh3 vh3 Xh3 ⟨rfl, rfl⟩
    show Go p e below s _ n0 _ (Th3.setTop (mkF m 104 #[.val (.int p1), .val (.int p2), .val (.int p3), .val (.int p4), .val (.int p5), .val (.int (2 : Int32)), .val (.ref ak), .val (.ref ax), .val (.ref az), .val (.long (mix (-3750763034362895579 : Int64))), .second, .val (.long (mix (stp (stp (-3750763034362895579 : Int64) p2.toInt8.toInt32) p3.toInt8.toInt32))), .second, .unset, .unset, .unset, .unset] [(.long (mix (stp (stp (stp (-3750763034362895579 : Int64) p2.toInt8.toInt32) p3.toInt8.toInt32) p5.toInt8.toInt32)))]))
    refine Xh3.blk hK (L := [(.lstore 13, 2, 0, 0), (.lload 9, 2, 0, 0)]) (pc' := 108) (ls' := #[.val (.int p1), .val (.int p2), .val (.int p3), .val (.int p4), .val (.int p5), .val (.int (2 : Int32)), .val (.ref ak), .val (.ref ax), .val (.ref az), .val (.long (mix (-3750763034362895579 : Int64))), .second, .val (.long (mix (stp (stp (-3750763034362895579 : Int64) p2.toInt8.toInt32) p3.toInt8.toInt32))), .second, .val (.long (mix (stp (stp (stp (-3750763034362895579 : Int64) p2.toInt8.toInt32) p3.toInt8.toInt32) p5.toInt8.toInt32))), .second, .unset, .unset]) (st' := [(.long (mix (-3750763034362895579 : Int64)))]) (by decide +kernel) rfl ?_
    refine Xh3.callS 111 0 (argsL := [(.long (mix (-3750763034362895579 : Int64)))]) (rest := []) (rm_un l Z a0 hw (mix (-3750763034362895579 : Int64)) hz n0 Xh3.size) (hw _ (List.mem_of_getElem? (i := 9) rfl)) (hw _ (List.mem_of_getElem? (i := 10) rfl)) (hw _ (List.mem_of_getElem? (i := 11) rfl)) (hw _ (List.mem_of_getElem? (i := 12) rfl)) (by decide) (ps := [.long]) (r := some .long) (by decide +kernel) rfl rfl rfl rfl (by decide +kernel) (by decide) ?_
    rintro Tu1 hu1 vu1 Xu1 ⟨rfl, rfl⟩
    show Go p e below s _ n0 _ (Tu1.setTop (mkF m 111 #[.val (.int p1), .val (.int p2), .val (.int p3), .val (.int p4), .val (.int p5), .val (.int (2 : Int32)), .val (.ref ak), .val (.ref ax), .val (.ref az), .val (.long (mix (-3750763034362895579 : Int64))), .second, .val (.long (mix (stp (stp (-3750763034362895579 : Int64) p2.toInt8.toInt32) p3.toInt8.toInt32))), .second, .val (.long (mix (stp (stp (stp (-3750763034362895579 : Int64) p2.toInt8.toInt32) p3.toInt8.toInt32) p5.toInt8.toInt32))), .second, .unset, .unset] [(.long (unm (mix (-3750763034362895579 : Int64))))]))
    refine Xu1.blk hK (L := [(.ldc2_w 28, 3, 0, 0)]) (pc' := 114) (ls' := #[.val (.int p1), .val (.int p2), .val (.int p3), .val (.int p4), .val (.int p5), .val (.int (2 : Int32)), .val (.ref ak), .val (.ref ax), .val (.ref az), .val (.long (mix (-3750763034362895579 : Int64))), .second, .val (.long (mix (stp (stp (-3750763034362895579 : Int64) p2.toInt8.toInt32) p3.toInt8.toInt32))), .second, .val (.long (mix (stp (stp (stp (-3750763034362895579 : Int64) p2.toInt8.toInt32) p3.toInt8.toInt32) p5.toInt8.toInt32))), .second, .unset, .unset]) (st' := [(.long (-3750763034362895579 : Int64)), (.long (unm (mix (-3750763034362895579 : Int64))))]) (by decide +kernel) rfl ?_
    refine Xu1.lcmp .ne (7) 122 118 (by decide +kernel) (fun (c114 : ¬ (unm (mix (-3750763034362895579 : Int64))) = (-3750763034362895579 : Int64)) => absurd (own_un _ : (unm (mix (-3750763034362895579 : Int64))) = (-3750763034362895579 : Int64)) c114) (fun (c114 : (unm (mix (-3750763034362895579 : Int64))) = (-3750763034362895579 : Int64)) => ?_)
    refine Xu1.blk hK (L := [(.iconst 1, 1, 1, 0), (.goto 4, 3, 0, 123), (.istore 15, 2, 0, 0), (.lload 13, 2, 0, 0)]) (pc' := 127) (ls' := #[.val (.int p1), .val (.int p2), .val (.int p3), .val (.int p4), .val (.int p5), .val (.int (2 : Int32)), .val (.ref ak), .val (.ref ax), .val (.ref az), .val (.long (mix (-3750763034362895579 : Int64))), .second, .val (.long (mix (stp (stp (-3750763034362895579 : Int64) p2.toInt8.toInt32) p3.toInt8.toInt32))), .second, .val (.long (mix (stp (stp (stp (-3750763034362895579 : Int64) p2.toInt8.toInt32) p3.toInt8.toInt32) p5.toInt8.toInt32))), .second, .val (.int (1 : Int32)), .unset]) (st' := [(.long (mix (stp (stp (stp (-3750763034362895579 : Int64) p2.toInt8.toInt32) p3.toInt8.toInt32) p5.toInt8.toInt32)))]) (by decide +kernel) rfl ?_
    refine Xu1.callS 130 0 (argsL := [(.long (mix (stp (stp (stp (-3750763034362895579 : Int64) p2.toInt8.toInt32) p3.toInt8.toInt32) p5.toInt8.toInt32)))]) (rest := []) (rm_un l Z a0 hw (mix (stp (stp (stp (-3750763034362895579 : Int64) p2.toInt8.toInt32) p3.toInt8.toInt32) p5.toInt8.toInt32)) hz n0 Xu1.size) (hw _ (List.mem_of_getElem? (i := 9) rfl)) (hw _ (List.mem_of_getElem? (i := 10) rfl)) (hw _ (List.mem_of_getElem? (i := 11) rfl)) (hw _ (List.mem_of_getElem? (i := 12) rfl)) (by decide) (ps := [.long]) (r := some .long) (by decide +kernel) rfl rfl rfl rfl (by decide +kernel) (by decide) ?_
    rintro Tu2 hu2 vu2 Xu2 ⟨rfl, rfl⟩
    show Go p e below s _ n0 _ (Tu2.setTop (mkF m 130 #[.val (.int p1), .val (.int p2), .val (.int p3), .val (.int p4), .val (.int p5), .val (.int (2 : Int32)), .val (.ref ak), .val (.ref ax), .val (.ref az), .val (.long (mix (-3750763034362895579 : Int64))), .second, .val (.long (mix (stp (stp (-3750763034362895579 : Int64) p2.toInt8.toInt32) p3.toInt8.toInt32))), .second, .val (.long (mix (stp (stp (stp (-3750763034362895579 : Int64) p2.toInt8.toInt32) p3.toInt8.toInt32) p5.toInt8.toInt32))), .second, .val (.int (1 : Int32)), .unset] [(.long (unm (mix (stp (stp (stp (-3750763034362895579 : Int64) p2.toInt8.toInt32) p3.toInt8.toInt32) p5.toInt8.toInt32))))]))
    refine Xu2.blk hK (L := [(.lload 11, 2, 0, 0)]) (pc' := 132) (ls' := #[.val (.int p1), .val (.int p2), .val (.int p3), .val (.int p4), .val (.int p5), .val (.int (2 : Int32)), .val (.ref ak), .val (.ref ax), .val (.ref az), .val (.long (mix (-3750763034362895579 : Int64))), .second, .val (.long (mix (stp (stp (-3750763034362895579 : Int64) p2.toInt8.toInt32) p3.toInt8.toInt32))), .second, .val (.long (mix (stp (stp (stp (-3750763034362895579 : Int64) p2.toInt8.toInt32) p3.toInt8.toInt32) p5.toInt8.toInt32))), .second, .val (.int (1 : Int32)), .unset]) (st' := [(.long (mix (stp (stp (-3750763034362895579 : Int64) p2.toInt8.toInt32) p3.toInt8.toInt32))), (.long (unm (mix (stp (stp (stp (-3750763034362895579 : Int64) p2.toInt8.toInt32) p3.toInt8.toInt32) p5.toInt8.toInt32))))]) (by decide +kernel) rfl ?_
    refine Xu2.callS 135 2 (argsL := [(.long (mix (stp (stp (-3750763034362895579 : Int64) p2.toInt8.toInt32) p3.toInt8.toInt32)))]) (rest := [(.long (unm (mix (stp (stp (stp (-3750763034362895579 : Int64) p2.toInt8.toInt32) p3.toInt8.toInt32) p5.toInt8.toInt32))))]) (rm_un l Z a0 hw (mix (stp (stp (-3750763034362895579 : Int64) p2.toInt8.toInt32) p3.toInt8.toInt32)) hz n0 Xu2.size) (hw _ (List.mem_of_getElem? (i := 9) rfl)) (hw _ (List.mem_of_getElem? (i := 10) rfl)) (hw _ (List.mem_of_getElem? (i := 11) rfl)) (hw _ (List.mem_of_getElem? (i := 12) rfl)) (by decide) (ps := [.long]) (r := some .long) (by decide +kernel) rfl rfl rfl rfl (by decide +kernel) (by decide) ?_
    rintro Tu3 hu3 vu3 Xu3 ⟨rfl, rfl⟩
    show Go p e below s _ n0 _ (Tu3.setTop (mkF m 135 #[.val (.int p1), .val (.int p2), .val (.int p3), .val (.int p4), .val (.int p5), .val (.int (2 : Int32)), .val (.ref ak), .val (.ref ax), .val (.ref az), .val (.long (mix (-3750763034362895579 : Int64))), .second, .val (.long (mix (stp (stp (-3750763034362895579 : Int64) p2.toInt8.toInt32) p3.toInt8.toInt32))), .second, .val (.long (mix (stp (stp (stp (-3750763034362895579 : Int64) p2.toInt8.toInt32) p3.toInt8.toInt32) p5.toInt8.toInt32))), .second, .val (.int (1 : Int32)), .unset] [(.long (unm (mix (stp (stp (-3750763034362895579 : Int64) p2.toInt8.toInt32) p3.toInt8.toInt32)))), (.long (unm (mix (stp (stp (stp (-3750763034362895579 : Int64) p2.toInt8.toInt32) p3.toInt8.toInt32) p5.toInt8.toInt32))))]))
    refine Xu3.blk hK (L := [(.iload 4, 2, 0, 0), (.sipush 255, 3, 255, 0), (.iand, 1, 0, 0), (.i2l, 1, 0, 0), (.lxor, 1, 0, 0), (.ldc2_w 30, 3, 0, 0), (.lmul, 1, 0, 0)]) (pc' := 147) (ls' := #[.val (.int p1), .val (.int p2), .val (.int p3), .val (.int p4), .val (.int p5), .val (.int (2 : Int32)), .val (.ref ak), .val (.ref ax), .val (.ref az), .val (.long (mix (-3750763034362895579 : Int64))), .second, .val (.long (mix (stp (stp (-3750763034362895579 : Int64) p2.toInt8.toInt32) p3.toInt8.toInt32))), .second, .val (.long (mix (stp (stp (stp (-3750763034362895579 : Int64) p2.toInt8.toInt32) p3.toInt8.toInt32) p5.toInt8.toInt32))), .second, .val (.int (1 : Int32)), .unset]) (st' := [(.long (((unm (mix (stp (stp (-3750763034362895579 : Int64) p2.toInt8.toInt32) p3.toInt8.toInt32))) ^^^ ((p5 &&& (255 : Int32)).toInt64)) * (1099511628211 : Int64))), (.long (unm (mix (stp (stp (stp (-3750763034362895579 : Int64) p2.toInt8.toInt32) p3.toInt8.toInt32) p5.toInt8.toInt32))))]) (by decide +kernel) rfl ?_
    refine Xu3.lcmp .ne (7) 155 151 (by decide +kernel) (fun (c147 : ¬ (unm (mix (stp (stp (stp (-3750763034362895579 : Int64) p2.toInt8.toInt32) p3.toInt8.toInt32) p5.toInt8.toInt32))) = (((unm (mix (stp (stp (-3750763034362895579 : Int64) p2.toInt8.toInt32) p3.toInt8.toInt32))) ^^^ ((p5 &&& (255 : Int32)).toInt64)) * (1099511628211 : Int64))) => absurd (own_st _ _ : (unm (mix (stp (stp (stp (-3750763034362895579 : Int64) p2.toInt8.toInt32) p3.toInt8.toInt32) p5.toInt8.toInt32))) = (((unm (mix (stp (stp (-3750763034362895579 : Int64) p2.toInt8.toInt32) p3.toInt8.toInt32))) ^^^ ((p5 &&& (255 : Int32)).toInt64)) * (1099511628211 : Int64))) c147) (fun (c147 : (unm (mix (stp (stp (stp (-3750763034362895579 : Int64) p2.toInt8.toInt32) p3.toInt8.toInt32) p5.toInt8.toInt32))) = (((unm (mix (stp (stp (-3750763034362895579 : Int64) p2.toInt8.toInt32) p3.toInt8.toInt32))) ^^^ ((p5 &&& (255 : Int32)).toInt64)) * (1099511628211 : Int64))) => ?_)
    refine Xu3.blk hK (L := [(.iconst 1, 1, 1, 0), (.goto 4, 3, 0, 156), (.istore 16, 2, 0, 0), (.iload 15, 2, 0, 0)]) (pc' := 160) (ls' := #[.val (.int p1), .val (.int p2), .val (.int p3), .val (.int p4), .val (.int p5), .val (.int (2 : Int32)), .val (.ref ak), .val (.ref ax), .val (.ref az), .val (.long (mix (-3750763034362895579 : Int64))), .second, .val (.long (mix (stp (stp (-3750763034362895579 : Int64) p2.toInt8.toInt32) p3.toInt8.toInt32))), .second, .val (.long (mix (stp (stp (stp (-3750763034362895579 : Int64) p2.toInt8.toInt32) p3.toInt8.toInt32) p5.toInt8.toInt32))), .second, .val (.int (1 : Int32)), .val (.int (1 : Int32))]) (st' := [(.int (1 : Int32))]) (by decide +kernel) rfl ?_
    refine Xu3.ifc .eq (12) 172 163 (by decide +kernel) (fun (c160 : (1 : Int32) = (0 : Int32)) => absurd c160 (by decide : ¬ (1 : Int32) = (0 : Int32))) (fun (c160 : ¬ (1 : Int32) = (0 : Int32)) => ?_)
    refine Xu3.blk hK (L := [(.iload 16, 2, 0, 0)]) (pc' := 165) (ls' := #[.val (.int p1), .val (.int p2), .val (.int p3), .val (.int p4), .val (.int p5), .val (.int (2 : Int32)), .val (.ref ak), .val (.ref ax), .val (.ref az), .val (.long (mix (-3750763034362895579 : Int64))), .second, .val (.long (mix (stp (stp (-3750763034362895579 : Int64) p2.toInt8.toInt32) p3.toInt8.toInt32))), .second, .val (.long (mix (stp (stp (stp (-3750763034362895579 : Int64) p2.toInt8.toInt32) p3.toInt8.toInt32) p5.toInt8.toInt32))), .second, .val (.int (1 : Int32)), .val (.int (1 : Int32))]) (st' := [(.int (1 : Int32))]) (by decide +kernel) rfl ?_
    refine Xu3.ifc .eq (7) 172 168 (by decide +kernel) (fun (c165 : (1 : Int32) = (0 : Int32)) => absurd c165 (by decide : ¬ (1 : Int32) = (0 : Int32))) (fun (c165 : ¬ (1 : Int32) = (0 : Int32)) => ?_)
    refine Xu3.blk hK (L := [(.iconst 1, 1, 1, 0), (.goto 4, 3, 0, 173)]) (pc' := 173) (ls' := #[.val (.int p1), .val (.int p2), .val (.int p3), .val (.int p4), .val (.int p5), .val (.int (2 : Int32)), .val (.ref ak), .val (.ref ax), .val (.ref az), .val (.long (mix (-3750763034362895579 : Int64))), .second, .val (.long (mix (stp (stp (-3750763034362895579 : Int64) p2.toInt8.toInt32) p3.toInt8.toInt32))), .second, .val (.long (mix (stp (stp (stp (-3750763034362895579 : Int64) p2.toInt8.toInt32) p3.toInt8.toInt32) p5.toInt8.toInt32))), .second, .val (.int (1 : Int32)), .val (.int (1 : Int32))]) (st' := [(.int (1 : Int32))]) (by decide +kernel) rfl ?_
    exact Xu3.retZ (by decide +kernel) (by decide) (by decide) (Or.inr rfl) (rfl)
  · rw [q_m]
    refine X.newarr 9 3 (aty := .byte) (hw _ (List.mem_of_getElem? (i := 0) rfl)) rfl (by decide +kernel) (by decide) (by decide) (by decide) ?_
    intro Tk hk Xk Ek K0
    obtain ⟨ak, gk⟩ : ∃ z, z = h0.size := ⟨_, rfl⟩
    rw [← gk] at K0 ⊢
    have K0 : AV Z hk ak .byte (List.replicate 3 (.int 0)) := K0
    have gk2 : n0 ≤ ak := by rw [gk]; exact Z0
    refine Xk.blk hK (L := [(.astore 6, 2, 0, 0), (.iload 5, 2, 0, 0), (.iconst 1, 1, 1, 0), (.iadd, 1, 0, 0)]) (pc' := 15) (ls' := #[.val (.int p1), .val (.int p2), .val (.int p3), .val (.int p4), .val (.int p5), .val (.int (3 : Int32)), .val (.ref ak), .unset, .unset, .unset, .unset, .unset, .unset, .unset, .unset, .unset, .unset]) (st' := [(.int ((3 : Int32) + (1 : Int32)))]) (by decide +kernel) rfl ?_
    refine Xk.newarr 17 4 (aty := .byte) (hw _ (List.mem_of_getElem? (i := 0) rfl)) rfl (by decide +kernel) (by decide) (by decide) (by decide) ?_
    intro Tx hx Xx Ex E0
    obtain ⟨ax, gx⟩ : ∃ z, z = hk.size := ⟨_, rfl⟩
    rw [← gx] at E0 ⊢
    have E0 : AV Z hx ax .byte (List.replicate 4 (.int 0)) := E0
    have gx2 : n0 ≤ ax := by rw [gx]; exact Xk.size
    have nkx : ak ≠ ax := by rw [gx]; exact Nat.ne_of_lt K0.lt
    have K0 := K0.ext Ex
    refine Xx.blk hK (L := [(.astore 7, 2, 0, 0), (.iload 5, 2, 0, 0)]) (pc' := 21) (ls' := #[.val (.int p1), .val (.int p2), .val (.int p3), .val (.int p4), .val (.int p5), .val (.int (3 : Int32)), .val (.ref ak), .val (.ref ax), .unset, .unset, .unset, .unset, .unset, .unset, .unset, .unset, .unset]) (st' := [(.int (3 : Int32))]) (by decide +kernel) rfl ?_
    refine Xx.ifc .le (15) 36 24 (by decide +kernel) (fun (c21 : ¬ (0 : Int32) < (3 : Int32)) => absurd (by decide : (0 : Int32) < (3 : Int32)) c21) (fun (c21 : (0 : Int32) < (3 : Int32)) => ?_)
    refine Xx.blk hK (L := [(.aload 6, 2, 0, 0), (.iconst 0, 1, 0, 0), (.iload_n 1, 1, 0, 0), (.i2b, 1, 0, 0)]) (pc' := 29) (ls' := #[.val (.int p1), .val (.int p2), .val (.int p3), .val (.int p4), .val (.int p5), .val (.int (3 : Int32)), .val (.ref ak), .val (.ref ax), .unset, .unset, .unset, .unset, .unset, .unset, .unset, .unset, .unset]) (st' := [(.int p2.toInt8.toInt32), (.int (0 : Int32)), (.ref ak)]) (by decide +kernel) rfl ?_
    refine Xx.bastore 30 (hx' := own_narb _) K0 (by decide +kernel) (by decide) (by simp) (gk2) ?_
    intro Tk0 hk0 Xk0 Wk0 K1
    have E0 := E0.other Wk0 nkx.symm
    refine Xk0.blk hK (L := [(.aload 7, 2, 0, 0), (.iconst 0, 1, 0, 0), (.iload_n 1, 1, 0, 0), (.i2b, 1, 0, 0)]) (pc' := 35) (ls' := #[.val (.int p1), .val (.int p2), .val (.int p3), .val (.int p4), .val (.int p5), .val (.int (3 : Int32)), .val (.ref ak), .val (.ref ax), .unset, .unset, .unset, .unset, .unset, .unset, .unset, .unset, .unset]) (st' := [(.int p2.toInt8.toInt32), (.int (0 : Int32)), (.ref ax)]) (by decide +kernel) rfl ?_
    refine Xk0.bastore 36 (hx' := own_narb _) E0 (by decide +kernel) (by decide) (by simp) (gx2) ?_
    intro Tx0 hx0 Xx0 Wx0 E1
    have K1 := K1.other Wx0 nkx
    refine Xx0.blk hK (L := [(.iload 5, 2, 0, 0), (.iconst 1, 1, 1, 0)]) (pc' := 39) (ls' := #[.val (.int p1), .val (.int p2), .val (.int p3), .val (.int p4), .val (.int p5), .val (.int (3 : Int32)), .val (.ref ak), .val (.ref ax), .unset, .unset, .unset, .unset, .unset, .unset, .unset, .unset, .unset]) (st' := [(.int (1 : Int32)), (.int (3 : Int32))]) (by decide +kernel) rfl ?_
    refine Xx0.icmp .le (15) 54 42 (by decide +kernel) (fun (c39 : ¬ (1 : Int32) < (3 : Int32)) => absurd (by decide : (1 : Int32) < (3 : Int32)) c39) (fun (c39 : (1 : Int32) < (3 : Int32)) => ?_)
    refine Xx0.blk hK (L := [(.aload 6, 2, 0, 0), (.iconst 1, 1, 1, 0), (.iload_n 2, 1, 0, 0), (.i2b, 1, 0, 0)]) (pc' := 47) (ls' := #[.val (.int p1), .val (.int p2), .val (.int p3), .val (.int p4), .val (.int p5), .val (.int (3 : Int32)), .val (.ref ak), .val (.ref ax), .unset, .unset, .unset, .unset, .unset, .unset, .unset, .unset, .unset]) (st' := [(.int p3.toInt8.toInt32), (.int (1 : Int32)), (.ref ak)]) (by decide +kernel) rfl ?_
    refine Xx0.bastore 48 (hx' := own_narb _) K1 (by decide +kernel) (by decide) (by simp) (gk2) ?_
    intro Tk1 hk1 Xk1 Wk1 K2
    have E1 := E1.other Wk1 nkx.symm
    refine Xk1.blk hK (L := [(.aload 7, 2, 0, 0), (.iconst 1, 1, 1, 0), (.iload_n 2, 1, 0, 0), (.i2b, 1, 0, 0)]) (pc' := 53) (ls' := #[.val (.int p1), .val (.int p2), .val (.int p3), .val (.int p4), .val (.int p5), .val (.int (3 : Int32)), .val (.ref ak), .val (.ref ax), .unset, .unset, .unset, .unset, .unset, .unset, .unset, .unset, .unset]) (st' := [(.int p3.toInt8.toInt32), (.int (1 : Int32)), (.ref ax)]) (by decide +kernel) rfl ?_
    refine Xk1.bastore 54 (hx' := own_narb _) E1 (by decide +kernel) (by decide) (by simp) (gx2) ?_
    intro Tx1 hx1 Xx1 Wx1 E2
    have K2 := K2.other Wx1 nkx
    refine Xx1.blk hK (L := [(.iload 5, 2, 0, 0), (.iconst 2, 1, 2, 0)]) (pc' := 57) (ls' := #[.val (.int p1), .val (.int p2), .val (.int p3), .val (.int p4), .val (.int p5), .val (.int (3 : Int32)), .val (.ref ak), .val (.ref ax), .unset, .unset, .unset, .unset, .unset, .unset, .unset, .unset, .unset]) (st' := [(.int (2 : Int32)), (.int (3 : Int32))]) (by decide +kernel) rfl ?_
    refine Xx1.icmp .le (15) 72 60 (by decide +kernel) (fun (c57 : ¬ (2 : Int32) < (3 : Int32)) => absurd (by decide : (2 : Int32) < (3 : Int32)) c57) (fun (c57 : (2 : Int32) < (3 : Int32)) => ?_)
    refine Xx1.blk hK (L := [(.aload 6, 2, 0, 0), (.iconst 2, 1, 2, 0), (.iload_n 3, 1, 0, 0), (.i2b, 1, 0, 0)]) (pc' := 65) (ls' := #[.val (.int p1), .val (.int p2), .val (.int p3), .val (.int p4), .val (.int p5), .val (.int (3 : Int32)), .val (.ref ak), .val (.ref ax), .unset, .unset, .unset, .unset, .unset, .unset, .unset, .unset, .unset]) (st' := [(.int p4.toInt8.toInt32), (.int (2 : Int32)), (.ref ak)]) (by decide +kernel) rfl ?_
    refine Xx1.bastore 66 (hx' := own_narb _) K2 (by decide +kernel) (by decide) (by simp) (gk2) ?_
    intro Tk2 hk2 Xk2 Wk2 K3
    have E2 := E2.other Wk2 nkx.symm
    refine Xk2.blk hK (L := [(.aload 7, 2, 0, 0), (.iconst 2, 1, 2, 0), (.iload_n 3, 1, 0, 0), (.i2b, 1, 0, 0)]) (pc' := 71) (ls' := #[.val (.int p1), .val (.int p2), .val (.int p3), .val (.int p4), .val (.int p5), .val (.int (3 : Int32)), .val (.ref ak), .val (.ref ax), .unset, .unset, .unset, .unset, .unset, .unset, .unset, .unset, .unset]) (st' := [(.int p4.toInt8.toInt32), (.int (2 : Int32)), (.ref ax)]) (by decide +kernel) rfl ?_
    refine Xk2.bastore 72 (hx' := own_narb _) E2 (by decide +kernel) (by decide) (by simp) (gx2) ?_
    intro Tx2 hx2 Xx2 Wx2 E3
    have K3 := K3.other Wx2 nkx
    refine Xx2.blk hK (L := [(.aload 7, 2, 0, 0), (.iload 5, 2, 0, 0), (.iload 4, 2, 0, 0), (.i2b, 1, 0, 0)]) (pc' := 79) (ls' := #[.val (.int p1), .val (.int p2), .val (.int p3), .val (.int p4), .val (.int p5), .val (.int (3 : Int32)), .val (.ref ak), .val (.ref ax), .unset, .unset, .unset, .unset, .unset, .unset, .unset, .unset, .unset]) (st' := [(.int p5.toInt8.toInt32), (.int (3 : Int32)), (.ref ax)]) (by decide +kernel) rfl ?_
    refine Xx2.bastore 80 (hx' := own_narb _) E3 (by decide +kernel) (by decide) (by simp) (gx2) ?_
    intro Txd hxd Xxd Wxd ED
    have KD := K3.other Wxd nkx
    replace KD : AV Z hxd ak .byte [.int p2.toInt8.toInt32, .int p3.toInt8.toInt32, .int p4.toInt8.toInt32] := KD
    replace ED : AV Z hxd ax .byte [.int p2.toInt8.toInt32, .int p3.toInt8.toInt32, .int p4.toInt8.toInt32, .int p5.toInt8.toInt32] := ED
    refine Xxd.blk hK (L := [(.iconst 0, 1, 0, 0)]) (pc' := 81) (ls' := #[.val (.int p1), .val (.int p2), .val (.int p3), .val (.int p4), .val (.int p5), .val (.int (3 : Int32)), .val (.ref ak), .val (.ref ax), .unset, .unset, .unset, .unset, .unset, .unset, .unset, .unset, .unset]) (st' := [(.int (0 : Int32))]) (by decide +kernel) rfl ?_
    refine Xxd.newarr 83 0 (aty := .byte) (hw _ (List.mem_of_getElem? (i := 0) rfl)) rfl (by decide +kernel) (by decide) (by decide) (by decide) ?_
    intro Tz hz Xz Ez Z1
    obtain ⟨az, gz⟩ : ∃ z, z = hxd.size := ⟨_, rfl⟩
    rw [← gz] at Z1 ⊢
    replace Z1 : AV Z hz az .byte [] := Z1
    have KD := KD.ext Ez
    have ED := ED.ext Ez
    refine Xz.blk hK (L := [(.astore 8, 2, 0, 0), (.aload 8, 2, 0, 0)]) (pc' := 87) (ls' := #[.val (.int p1), .val (.int p2), .val (.int p3), .val (.int p4), .val (.int p5), .val (.int (3 : Int32)), .val (.ref ak), .val (.ref ax), .val (.ref az), .unset, .unset, .unset, .unset, .unset, .unset, .unset, .unset]) (st' := [(.ref az)]) (by decide +kernel) rfl ?_
    refine Xz.callS 90 0 (argsL := [(.ref az)]) (rest := []) (rm_hash0 l Z a0 hw az hz n0 Xz.size Z1) (hw _ (List.mem_of_getElem? (i := 1) rfl)) (hw _ (List.mem_of_getElem? (i := 2) rfl)) (hw _ (List.mem_of_getElem? (i := 3) rfl)) (hw _ (List.mem_of_getElem? (i := 4) rfl)) (by decide) (ps := [(.array .byte)]) (r := some .long) (by decide +kernel) rfl rfl rfl rfl (by decide +kernel) (by decide) ?_
    rintro Th1 hh1 vh1 Xh1 ⟨rfl, rfl⟩
    show Go p e below s _ n0 _ (Th1.setTop (mkF m 90 #[.val (.int p1), .val (.int p2), .val (.int p3), .val (.int p4), .val (.int p5), .val (.int (3 : Int32)), .val (.ref ak), .val (.ref ax), .val (.ref az), .unset, .unset, .unset, .unset, .unset, .unset, .unset, .unset] [(.long (mix (-3750763034362895579 : Int64)))]))
    refine Xh1.blk hK (L := [(.lstore 9, 2, 0, 0), (.aload 6, 2, 0, 0)]) (pc' := 94) (ls' := #[.val (.int p1), .val (.int p2), .val (.int p3), .val (.int p4), .val (.int p5), .val (.int (3 : Int32)), .val (.ref ak), .val (.ref ax), .val (.ref az), .val (.long (mix (-3750763034362895579 : Int64))), .second, .unset, .unset, .unset, .unset, .unset, .unset]) (st' := [(.ref ak)]) (by decide +kernel) rfl ?_
    refine Xh1.callS 97 0 (argsL := [(.ref ak)]) (rest := []) (rm_hash3 l Z a0 hw ak p2.toInt8.toInt32 p3.toInt8.toInt32 p4.toInt8.toInt32 hz n0 Xh1.size KD) (hw _ (List.mem_of_getElem? (i := 1) rfl)) (hw _ (List.mem_of_getElem? (i := 2) rfl)) (hw _ (List.mem_of_getElem? (i := 3) rfl)) (hw _ (List.mem_of_getElem? (i := 4) rfl)) (by decide) (ps := [(.array .byte)]) (r := some .long) (by decide +kernel) rfl rfl rfl rfl (by decide +kernel) (by decide) ?_
    rintro Th2 hh2 vh2 Xh2 ⟨rfl, rfl⟩
    show Go p e below s _ n0 _ (Th2.setTop (mkF m 97 #[.val (.int p1), .val (.int p2), .val (.int p3), .val (.int p4), .val (.int p5), .val (.int (3 : Int32)), .val (.ref ak), .val (.ref ax), .val (.ref az), .val (.long (mix (-3750763034362895579 : Int64))), .second, .unset, .unset, .unset, .unset, .unset, .unset] [(.long (mix (stp (stp (stp (-3750763034362895579 : Int64) p2.toInt8.toInt32) p3.toInt8.toInt32) p4.toInt8.toInt32)))]))
    refine Xh2.blk hK (L := [(.lstore 11, 2, 0, 0), (.aload 7, 2, 0, 0)]) (pc' := 101) (ls' := #[.val (.int p1), .val (.int p2), .val (.int p3), .val (.int p4), .val (.int p5), .val (.int (3 : Int32)), .val (.ref ak), .val (.ref ax), .val (.ref az), .val (.long (mix (-3750763034362895579 : Int64))), .second, .val (.long (mix (stp (stp (stp (-3750763034362895579 : Int64) p2.toInt8.toInt32) p3.toInt8.toInt32) p4.toInt8.toInt32))), .second, .unset, .unset, .unset, .unset]) (st' := [(.ref ax)]) (by decide +kernel) rfl ?_
    refine Xh2.callS 104 0 (argsL := [(.ref ax)]) (rest := []) (rm_hash4 l Z a0 hw ax p2.toInt8.toInt32 p3.toInt8.toInt32 p4.toInt8.toInt32 p5.toInt8.toInt32 hz n0 Xh2.size ED) (hw _ (List.mem_of_getElem? (i := 1) rfl)) (hw _ (List.mem_of_getElem? (i := 2) rfl)) (hw _ (List.mem_of_getElem? (i := 3) rfl)) (hw _ (List.mem_of_getElem? (i := 4) rfl)) (by decide) (ps := [(.array .byte)]) (r := some .long) (by decide +kernel) rfl rfl rfl rfl (by decide +kernel) (by decide) ?_
    rintro Th3 hh3 vh3 Xh3 ⟨rfl, rfl⟩
    show Go p e below s _ n0 _ (Th3.setTop (mkF m 104 #[.val (.int p1), .val (.int p2), .val (.int p3), .val (.int p4), .val (.int p5), .val (.int (3 : Int32)), .val (.ref ak), .val (.ref ax), .val (.ref az), .val (.long (mix (-3750763034362895579 : Int64))), .second, .val (.long (mix (stp (stp (stp (-3750763034362895579 : Int64) p2.toInt8.toInt32) p3.toInt8.toInt32) p4.toInt8.toInt32))), .second, .unset, .unset, .unset, .unset] [(.long (mix (stp (stp (stp (stp (-3750763034362895579 : Int64) p2.toInt8.toInt32) p3.toInt8.toInt32) p4.toInt8.toInt32) p5.toInt8.toInt32)))]))
    refine Xh3.blk hK (L := [(.lstore 13, 2, 0, 0), (.lload 9, 2, 0, 0)]) (pc' := 108) (ls' := #[.val (.int p1), .val (.int p2), .val (.int p3), .val (.int p4), .val (.int p5), .val (.int (3 : Int32)), .val (.ref ak), .val (.ref ax), .val (.ref az), .val (.long (mix (-3750763034362895579 : Int64))), .second, .val (.long (mix (stp (stp (stp (-3750763034362895579 : Int64) p2.toInt8.toInt32) p3.toInt8.toInt32) p4.toInt8.toInt32))), .second, .val (.long (mix (stp (stp (stp (stp (-3750763034362895579 : Int64) p2.toInt8.toInt32) p3.toInt8.toInt32) p4.toInt8.toInt32) p5.toInt8.toInt32))), .second, .unset, .unset]) (st' := [(.long (mix (-3750763034362895579 : Int64)))]) (by decide +kernel) rfl ?_
    refine Xh3.callS 111 0 (argsL := [(.long (mix (-3750763034362895579 : Int64)))]) (rest := []) (rm_un l Z a0 hw (mix (-3750763034362895579 : Int64)) hz n0 Xh3.size) (hw _ (List.mem_of_getElem? (i := 9) rfl)) (hw _ (List.mem_of_getElem? (i := 10) rfl)) (hw _ (List.mem_of_getElem? (i := 11) rfl)) (hw _ (List.mem_of_getElem? (i := 12) rfl)) (by decide) (ps := [.long]) (r := some .long) (by decide +kernel) rfl rfl rfl rfl (by decide +kernel) (by decide) ?_
    rintro Tu1 hu1 vu1 Xu1 ⟨rfl, rfl⟩
    show Go p e below s _ n0 _ (Tu1.setTop (mkF m 111 #[.val (.int p1), .val (.int p2), .val (.int p3), .val (.int p4), .val (.int p5), .val (.int (3 : Int32)), .val (.ref ak), .val (.ref ax), .val (.ref az), .val (.long (mix (-3750763034362895579 : Int64))), .second, .val (.long (mix (stp (stp (stp (-3750763034362895579 : Int64) p2.toInt8.toInt32) p3.toInt8.toInt32) p4.toInt8.toInt32))), .second, .val (.long (mix (stp (stp (stp (stp (-3750763034362895579 : Int64) p2.toInt8.toInt32) p3.toInt8.toInt32) p4.toInt8.toInt32) p5.toInt8.toInt32))), .second, .unset, .unset] [(.long (unm (mix (-3750763034362895579 : Int64))))]))
    refine Xu1.blk hK (L := [(.ldc2_w 28, 3, 0, 0)]) (pc' := 114) (ls' := #[.val (.int p1), .val (.int p2), .val (.int p3), .val (.int p4), .val (.int p5), .val (.int (3 : Int32)), .val (.ref ak), .val (.ref ax), .val (.ref az), .val (.long (mix (-3750763034362895579 : Int64))), .second, .val (.long (mix (stp (stp (stp (-3750763034362895579 : Int64) p2.toInt8.toInt32) p3.toInt8.toInt32) p4.toInt8.toInt32))), .second, .val (.long (mix (stp (stp (stp (stp (-3750763034362895579 : Int64) p2.toInt8.toInt32) p3.toInt8.toInt32) p4.toInt8.toInt32) p5.toInt8.toInt32))), .second, .unset, .unset]) (st' := [(.long (-3750763034362895579 : Int64)), (.long (unm (mix (-3750763034362895579 : Int64))))]) (by decide +kernel) rfl ?_
    refine Xu1.lcmp .ne (7) 122 118 (by decide +kernel) (fun (c114 : ¬ (unm (mix (-3750763034362895579 : Int64))) = (-3750763034362895579 : Int64)) => absurd (own_un _ : (unm (mix (-3750763034362895579 : Int64))) = (-3750763034362895579 : Int64)) c114) (fun (c114 : (unm (mix (-3750763034362895579 : Int64))) = (-3750763034362895579 : Int64)) => ?_)
    refine Xu1.blk hK (L := [(.iconst 1, 1, 1, 0), (.goto 4, 3, 0, 123), (.istore 15, 2, 0, 0), (.lload 13, 2, 0, 0)]) (pc' := 127) (ls' := #[.val (.int p1), .val (.int p2), .val (.int p3), .val (.int p4), .val (.int p5), .val (.int (3 : Int32)), .val (.ref ak), .val (.ref ax), .val (.ref az), .val (.long (mix (-3750763034362895579 : Int64))), .second, .val (.long (mix (stp (stp (stp (-3750763034362895579 : Int64) p2.toInt8.toInt32) p3.toInt8.toInt32) p4.toInt8.toInt32))), .second, .val (.long (mix (stp (stp (stp (stp (-3750763034362895579 : Int64) p2.toInt8.toInt32) p3.toInt8.toInt32) p4.toInt8.toInt32) p5.toInt8.toInt32))), .second, .val (.int (1 : Int32)), .unset]) (st' := [(.long (mix (stp (stp (stp (stp (-3750763034362895579 : Int64) p2.toInt8.toInt32) p3.toInt8.toInt32) p4.toInt8.toInt32) p5.toInt8.toInt32)))]) (by decide +kernel) rfl ?_
    refine Xu1.callS 130 0 (argsL := [(.long (mix (stp (stp (stp (stp (-3750763034362895579 : Int64) p2.toInt8.toInt32) p3.toInt8.toInt32) p4.toInt8.toInt32) p5.toInt8.toInt32)))]) (rest := []) (rm_un l Z a0 hw (mix (stp (stp (stp (stp (-3750763034362895579 : Int64) p2.toInt8.toInt32) p3.toInt8.toInt32) p4.toInt8.toInt32) p5.toInt8.toInt32)) hz n0 Xu1.size) (hw _ (List.mem_of_getElem? (i := 9) rfl)) (hw _ (List.mem_of_getElem? (i := 10) rfl)) (hw _ (List.mem_of_getElem? (i := 11) rfl)) (hw _ (List.mem_of_getElem? (i := 12) rfl)) (by decide) (ps := [.long]) (r := some .long) (by decide +kernel) rfl rfl rfl rfl (by decide +kernel) (by decide) ?_
    rintro Tu2 hu2 vu2 Xu2 ⟨rfl, rfl⟩
    show Go p e below s _ n0 _ (Tu2.setTop (mkF m 130 #[.val (.int p1), .val (.int p2), .val (.int p3), .val (.int p4), .val (.int p5), .val (.int (3 : Int32)), .val (.ref ak), .val (.ref ax), .val (.ref az), .val (.long (mix (-3750763034362895579 : Int64))), .second, .val (.long (mix (stp (stp (stp (-3750763034362895579 : Int64) p2.toInt8.toInt32) p3.toInt8.toInt32) p4.toInt8.toInt32))), .second, .val (.long (mix (stp (stp (stp (stp (-3750763034362895579 : Int64) p2.toInt8.toInt32) p3.toInt8.toInt32) p4.toInt8.toInt32) p5.toInt8.toInt32))), .second, .val (.int (1 : Int32)), .unset] [(.long (unm (mix (stp (stp (stp (stp (-3750763034362895579 : Int64) p2.toInt8.toInt32) p3.toInt8.toInt32) p4.toInt8.toInt32) p5.toInt8.toInt32))))]))
    refine Xu2.blk hK (L := [(.lload 11, 2, 0, 0)]) (pc' := 132) (ls' := #[.val (.int p1), .val (.int p2), .val (.int p3), .val (.int p4), .val (.int p5), .val (.int (3 : Int32)), .val (.ref ak), .val (.ref ax), .val (.ref az), .val (.long (mix (-3750763034362895579 : Int64))), .second, .val (.long (mix (stp (stp (stp (-3750763034362895579 : Int64) p2.toInt8.toInt32) p3.toInt8.toInt32) p4.toInt8.toInt32))), .second, .val (.long (mix (stp (stp (stp (stp (-3750763034362895579 : Int64) p2.toInt8.toInt32) p3.toInt8.toInt32) p4.toInt8.toInt32) p5.toInt8.toInt32))), .second, .val (.int (1 : Int32)), .unset]) (st' := [(.long (mix (stp (stp (stp (-3750763034362895579 : Int64) p2.toInt8.toInt32) p3.toInt8.toInt32) p4.toInt8.toInt32))), (.long (unm (mix (stp (stp (stp (stp (-3750763034362895579 : Int64) p2.toInt8.toInt32) p3.toInt8.toInt32) p4.toInt8.toInt32) p5.toInt8.toInt32))))]) (by decide +kernel) rfl ?_
    refine Xu2.callS 135 2 (argsL := [(.long (mix (stp (stp (stp (-3750763034362895579 : Int64) p2.toInt8.toInt32) p3.toInt8.toInt32) p4.toInt8.toInt32)))]) (rest := [(.long (unm (mix (stp (stp (stp (stp (-3750763034362895579 : Int64) p2.toInt8.toInt32) p3.toInt8.toInt32) p4.toInt8.toInt32) p5.toInt8.toInt32))))]) (rm_un l Z a0 hw (mix (stp (stp (stp (-3750763034362895579 : Int64) p2.toInt8.toInt32) p3.toInt8.toInt32) p4.toInt8.toInt32)) hz n0 Xu2.size) (hw _ (List.mem_of_getElem? (i := 9) rfl)) (hw _ (List.mem_of_getElem? (i := 10) rfl)) (hw _ (List.mem_of_getElem? (i := 11) rfl)) (hw _ (List.mem_of_getElem? (i := 12) rfl)) (by decide) (ps := [.long]) (r := some .long) (by decide +kernel) rfl rfl rfl rfl (by decide +kernel) (by decide) ?_
    rintro Tu3 hu3 vu3 Xu3 ⟨rfl, rfl⟩
    show Go p e below s _ n0 _ (Tu3.setTop (mkF m 135 #[.val (.int p1), .val (.int p2), .val (.int p3), .val (.int p4), .val (.int p5), .val (.int (3 : Int32)), .val (.ref ak), .val (.ref ax), .val (.ref az), .val (.long (mix (-3750763034362895579 : Int64))), .second, .val (.long (mix (stp (stp (stp (-3750763034362895579 : Int64) p2.toInt8.toInt32) p3.toInt8.toInt32) p4.toInt8.toInt32))), .second, .val (.long (mix (stp (stp (stp (stp (-3750763034362895579 : Int64) p2.toInt8.toInt32) p3.toInt8.toInt32) p4.toInt8.toInt32) p5.toInt8.toInt32))), .second, .val (.int (1 : Int32)), .unset] [(.long (unm (mix (stp (stp (stp (-3750763034362895579 : Int64) p2.toInt8.toInt32) p3.toInt8.toInt32) p4.toInt8.toInt32)))), (.long (unm (mix (stp (stp (stp (stp (-3750763034362895579 : Int64) p2.toInt8.toInt32) p3.toInt8.toInt32) p4.toInt8.toInt32) p5.toInt8.toInt32))))]))
    refine Xu3.blk hK (L := [(.iload 4, 2, 0, 0), (.sipush 255, 3, 255, 0), (.iand, 1, 0, 0), (.i2l, 1, 0, 0), (.lxor, 1, 0, 0), (.ldc2_w 30, 3, 0, 0), (.lmul, 1, 0, 0)]) (pc' := 147) (ls' := #[.val (.int p1), .val (.int p2), .val (.int p3), .val (.int p4), .val (.int p5), .val (.int (3 : Int32)), .val (.ref ak), .val (.ref ax), .val (.ref az), .val (.long (mix (-3750763034362895579 : Int64))), .second, .val (.long (mix (stp (stp (stp (-3750763034362895579 : Int64) p2.toInt8.toInt32) p3.toInt8.toInt32) p4.toInt8.toInt32))), .second, .val (.long (mix (stp (stp (stp (stp (-3750763034362895579 : Int64) p2.toInt8.toInt32) p3.toInt8.toInt32) p4.toInt8.toInt32) p5.toInt8.toInt32))), .second, .val (.int (1 : Int32)), .unset]) (st' := [(.long (((unm (mix (stp (stp (stp (-3750763034362895579 : Int64) p2.toInt8.toInt32) p3.toInt8.toInt32) p4.toInt8.toInt32))) ^^^ ((p5 &&& (255 : Int32)).toInt64)) * (1099511628211 : Int64))), (.long (unm (mix (stp (stp (stp (stp (-3750763034362895579 : Int64) p2.toInt8.toInt32) p3.toInt8.toInt32) p4.toInt8.toInt32) p5.toInt8.toInt32))))]) (by decide +kernel) rfl ?_
    refine Xu3.lcmp .ne (7) 155 151 (by decide +kernel) (fun (c147 : ¬ (unm (mix (stp (stp (stp (stp (-3750763034362895579 : Int64) p2.toInt8.toInt32) p3.toInt8.toInt32) p4.toInt8.toInt32) p5.toInt8.toInt32))) = (((unm (mix (stp (stp (stp (-3750763034362895579 : Int64) p2.toInt8.toInt32) p3.toInt8.toInt32) p4.toInt8.toInt32))) ^^^ ((p5 &&& (255 : Int32)).toInt64)) * (1099511628211 : Int64))) => absurd (own_st _ _ : (unm (mix (stp (stp (stp (stp (-3750763034362895579 : Int64) p2.toInt8.toInt32) p3.toInt8.toInt32) p4.toInt8.toInt32) p5.toInt8.toInt32))) = (((unm (mix (stp (stp (stp (-3750763034362895579 : Int64) p2.toInt8.toInt32) p3.toInt8.toInt32) p4.toInt8.toInt32))) ^^^ ((p5 &&& (255 : Int32)).toInt64)) * (1099511628211 : Int64))) c147) (fun (c147 : (unm (mix (stp (stp (stp (stp (-3750763034362895579 : Int64) p2.toInt8.toInt32) p3.toInt8.toInt32) p4.toInt8.toInt32) p5.toInt8.toInt32))) = (((unm (mix (stp (stp (stp (-3750763034362895579 : Int64) p2.toInt8.toInt32) p3.toInt8.toInt32) p4.toInt8.toInt32))) ^^^ ((p5 &&& (255 : Int32)).toInt64)) * (1099511628211 : Int64))) => ?_)
    refine Xu3.blk hK (L := [(.iconst 1, 1, 1, 0), (.goto 4, 3, 0, 156), (.istore 16, 2, 0, 0), (.iload 15, 2, 0, 0)]) (pc' := 160) (ls' := #[.val (.int p1), .val (.int p2), .val (.int p3), .val (.int p4), .val (.int p5), .val (.int (3 : Int32)), .val (.ref ak), .val (.ref ax), .val (.ref az), .val (.long (mix (-3750763034362895579 : Int64))), .second, .val (.long (mix (stp (stp (stp (-3750763034362895579 : Int64) p2.toInt8.toInt32) p3.toInt8.toInt32) p4.toInt8.toInt32))), .second, .val (.long (mix (stp (stp (stp (stp (-3750763034362895579 : Int64) p2.toInt8.toInt32) p3.toInt8.toInt32) p4.toInt8.toInt32) p5.toInt8.toInt32))), .second, .val (.int (1 : Int32)), .val (.int (1 : Int32))]) (st' := [(.int (1 : Int32))]) (by decide +kernel) rfl ?_
    refine Xu3.ifc .eq (12) 172 163 (by decide +kernel) (fun (c160 : (1 : Int32) = (0 : Int32)) => absurd c160 (by decide : ¬ (1 : Int32) = (0 : Int32))) (fun (c160 : ¬ (1 : Int32) = (0 : Int32)) => ?_)
    refine Xu3.blk hK (L := [(.iload 16, 2, 0, 0)]) (pc' := 165) (ls' := #[.val (.int p1), .val (.int p2), .val (.int p3), .val (.int p4), .val (.int p5), .val (.int (3 : Int32)), .val (.ref ak), .val (.ref ax), .val (.ref az), .val (.long (mix (-3750763034362895579 : Int64))), .second, .val (.long (mix (stp (stp (stp (-3750763034362895579 : Int64) p2.toInt8.toInt32) p3.toInt8.toInt32) p4.toInt8.toInt32))), .second, .val (.long (mix (stp (stp (stp (stp (-3750763034362895579 : Int64) p2.toInt8.toInt32) p3.toInt8.toInt32) p4.toInt8.toInt32) p5.toInt8.toInt32))), .second, .val (.int (1 : Int32)), .val (.int (1 : Int32))]) (st' := [(.int (1 : Int32))]) (by decide +kernel) rfl ?_
    refine Xu3.ifc .eq (7) 172 168 (by decide +kernel) (fun (c165 : (1 : Int32) = (0 : Int32)) => absurd c165 (by decide : ¬ (1 : Int32) = (0 : Int32))) (fun (c165 : ¬ (1 : Int32) = (0 : Int32)) => ?_)
    refine Xu3.blk hK (L := [(.iconst 1, 1, 1, 0), (.goto 4, 3, 0, 173)]) (pc' := 173) (ls' := #[.val (.int p1), .val (.int p2), .val (.int p3), .val (.int p4), .val (.int p5), .val (.int (3 : Int32)), .val (.ref ak), .val (.ref ax), .val (.ref az), .val (.long (mix (-3750763034362895579 : Int64))), .second, .val (.long (mix (stp (stp (stp (-3750763034362895579 : Int64) p2.toInt8.toInt32) p3.toInt8.toInt32) p4.toInt8.toInt32))), .second, .val (.long (mix (stp (stp (stp (stp (-3750763034362895579 : Int64) p2.toInt8.toInt32) p3.toInt8.toInt32) p4.toInt8.toInt32) p5.toInt8.toInt32))), .second, .val (.int (1 : Int32)), .val (.int (1 : Int32))]) (st' := [(.int (1 : Int32))]) (by decide +kernel) rfl ?_
    exact Xu3.retZ (by decide +kernel) (by decide) (by decide) (Or.inr rfl) (rfl)
set_option maxRecDepth 65536 in
set_option maxHeartbeats 40000000 in
theorem comes_1 {Post : Tables → Env → Array Value → State → Outcome → State → Prop} (hpost : ∀ tb e args s v u, (limb_1_1.after args s (.returned v) u = true ∧ limb_1_2.after args s (.returned v) u = true ∧ True) → FrameEnd s (.returned v) u (Jvm.fieldLocs frame_1_writes args s ++ Jvm.arrayLocs frame_1_arrays args s ++ Jvm.staticLocs frame_1_statics s) 16 128 → Post tb e args s (.returned v) u) :
    ArmFor flags0 classFile x code maxLocals ret World_1 tables_1 room_1 Calls_1 rest_1 Pre_1 Post := by
  intro l hfl _ _ p e ha hc hk s m args below hf hA hF happ hP
  obtain ⟨hcalls, hrest, hpre⟩ := hP
  obtain ⟨-, -, -, hnamed, -, -, -, hat⟩ := (Spec.applies_iff hf).mp happ
  obtain ⟨hg, hn⟩ := and_e (Cond.before_iff.mp (show (Jvm.Cond.and given_1 narrow_1).before args s = true from hpre))
  obtain ⟨hc0, hg⟩ := and_e hg
  obtain ⟨hk0, hg⟩ := and_e hg
  obtain ⟨hk1, hg⟩ := and_e hg
  obtain ⟨hk2, hg⟩ := and_e hg
  obtain ⟨hk3, hg⟩ := and_e hg
  have hk4 := hg
  obtain ⟨w0, w1, w2, w3, w4, rfl⟩ : ∃ w0 w1 w2 w3 w4 : Value, args = #[w0, w1, w2, w3, w4] := by
    have hs : args.size = 5 := by simpa [Cond.value, given_1] using hc0
    obtain ⟨L⟩ := args
    match L, hs with
    | [w0, w1, w2, w3, w4], _ => exact ⟨w0, w1, w2, w3, w4, rfl⟩
  have hw := fun d (hd : d ∈ tables_1) => atoms_spec (ws := Jvm.Cond.code x code maxLocals ret :: tables_1) hat d (List.mem_cons_of_mem _ hd)
  obtain ⟨i0, e0⟩ := is_v hk0
  obtain rfl : w0 = (.int i0) := Option.some.inj e0
  obtain ⟨i1, e1⟩ := is_v hk1
  obtain rfl : w1 = (.int i1) := Option.some.inj e1
  obtain ⟨i2, e2⟩ := is_v hk2
  obtain rfl : w2 = (.int i2) := Option.some.inj e2
  obtain ⟨i3, e3⟩ := is_v hk3
  obtain rfl : w3 = (.int i3) := Option.some.inj e3
  obtain ⟨i4, e4⟩ := is_v hk4
  obtain rfl : w4 = (.int i4) := Option.some.inj e4
  obtain ⟨n, o, h1, h2, h3, v, L, rfl, ⟨hv, -, N⟩, hq⟩ := rm_law l s _ hw i0 i1 i2 i3 i4 s.heap s.heap.size (Nat.le_refl _) tables_1 p e ha hc hk s m _ below hf ((Spec.applies_iff_loose hf).mp happ).1 ⟨rfl, State.Warmed39.refl s, rfl⟩ trivial
  obtain rfl : v = some (.int 1) := hv
  refine ⟨n, _, h1, h2, h3, hpost _ _ _ _ _ _ ⟨Cond.after_iff.mpr rfl, Cond.after_iff.mpr (eq_i res_at (Term.int_eval (1)) rfl), trivial⟩ ⟨hq.1, hq.2.1, (hq.2.2.sift fun y hy => Or.inr (N y hy)).mono (by decide) (by decide)⟩⟩
theorem main_1_1 : Claimed_1_1 := comes_1 fun _ _ _ _ _ _ h hF => ⟨h.1, hF⟩
theorem main_1_2 : Claimed_1_2 := comes_1 fun _ _ _ _ _ _ h hF => ⟨h.2.1, hF⟩
end Jvm.Pilot.@@N@@
namespace Jvm.Pilot.@@N@@
open Jvm Jvm.ClassFile Sem Op Lib Jvm.Free Jvm.Stand Jvm.Pilot.@@N@@.Jvm.D
/-! MADE BY PROGRAM (witnessworld.py) out of the Statement's table words and the real class files: 9 classes; the members and pool entries that the words name. The judged class is class 1, her method 3. -/
namespace start1
open Jvm.ClassFile
def u (s : String) : CpInfo := .utf8 (stringToUtf16 s)
/-- a pool by its gaps: so many unusable entries, then the entry; so many at the end -/
def gap : Nat → List CpInfo → List CpInfo
  | 0, r => r
  | n + 1, r => .unusable :: gap n r
def poolList (es : List (Nat × CpInfo)) (last : Nat) : List CpInfo := es.foldr (fun e r => gap e.1 (e.2 :: r)) (gap last [])
def pool (es : List (Nat × CpInfo)) (last : Nat) : Array CpInfo := ⟨poolList es last⟩
def fileOf (pool : Array CpInfo) (this : Nat) (attrs : Array Attribute := #[]) (ms : Array MethodInfo := #[]) (fl : Nat := 33) (sup : Nat := 0) (ifs : Array Nat := #[]) (fds : Array FieldInfo := #[]) : ClassFile where
  minorVersion := 0
  majorVersion := 65
  constantPool := pool
  accessFlags := fl
  thisClass := this
  superClass := sup
  interfaces := ifs
  fields := fds
  methods := ms
  attributes := attrs
def plain (name : String) (sup : Option ClassId) : Class where
  name := name
  kind := .ordinary
  loader := none
  accessFlags := 33
  super := sup
  interfaces := #[]
  cf := none
  fields := #[]
  methods := #[]
  instanceTypes := #[]
  staticTypes := #[]
  resolved := #[]
  callSites := []
  init := .initialized
  statics := none
  mirror := none

def pool0 : Array CpInfo := pool [(5, u "<init>"), (0, u "()V"), (1, .class_ 10), (1, u "java/lang/Object")] 113

def k0m0 : Method := { name := "<init>", desc := "()V", sig := { parameters := [], returnType := none }, accessFlags := 1, code := none }
/-- java/lang/Object -/
def k0 : Class := { plain "java/lang/Object" none with
  accessFlags := 33
  interfaces := #[]
  cf := some (fileOf pool0 8 #[] #[{ accessFlags := 1, nameIndex := 5, descriptorIndex := 6, attributes := #[] }] 33 0 #[] #[])
  fields := #[]
  methods := #[k0m0]
  instanceTypes := #[]
  staticTypes := #[]
  resolved := Array.replicate 124 none
  statics := none }

def pool1 : Array CpInfo := pool [(2, .class_ 4), (1, u "java/lang/Object"), (0, u "<init>"), (0, u "()V"), (0, .long 2), (1, .class_ 10), (0, u "com/example/redolith/redolith/kv/StoreHashPinLaw"), (0, .long 14181476777654086739), (1, .methodref 9 14), (0, .nameAndType 15 16), (0, u "inverse"), (0, u "(J)J"), (0, .long 18397679294719823053), (1, .methodref 20 21), (0, .class_ 22), (0, .nameAndType 23 24), (0, u "com/example/redolith/redolith/kv/Store"), (0, u "hash"), (0, u "([B)J"), (0, .methodref 9 26), (0, .nameAndType 27 16), (0, u "unmix"), (0, .long 14695981039346656037), (1, .long 1099511628211), (1, u "C1"), (0, u "J"), (1, u "C2"), (0, u "BASIS"), (0, u "PRIME"), (2, u "law"), (0, u "(IIIII)Z")] 5

def k1m0 : Method := { name := "<init>", desc := "()V", sig := { parameters := [], returnType := none }, accessFlags := 2, code := none }
def k1c1 : Code := { maxStack := 8, maxLocals := 4, code := method_2_code, exceptionTable := #[], attributes := #[] }
def k1m1 : Method := { name := "inverse", desc := "(J)J", sig := { parameters := [.long], returnType := some .long }, accessFlags := 10, code := some k1c1 }
def k1c2 : Code := { maxStack := 5, maxLocals := 4, code := method_3_code, exceptionTable := #[], attributes := #[] }
def k1m2 : Method := { name := "unmix", desc := "(J)J", sig := { parameters := [.long], returnType := some .long }, accessFlags := 10, code := some k1c2 }
def k1c3 : Code := { maxStack := 6, maxLocals := 17, code := code, exceptionTable := #[], attributes := #[] }
def k1m3 : Method := { name := "law", desc := "(IIIII)Z", sig := { parameters := [.int, .int, .int, .int, .int], returnType := some .boolean }, accessFlags := 9, code := some k1c3 }
/-- com/example/redolith/redolith/kv/StoreHashPinLaw -/
def k1 : Class := { plain "com/example/redolith/redolith/kv/StoreHashPinLaw" (some 0) with
  accessFlags := 49
  interfaces := #[]
  cf := some (fileOf pool1 9 #[] #[{ accessFlags := 2, nameIndex := 5, descriptorIndex := 6, attributes := #[] }, { accessFlags := 10, nameIndex := 15, descriptorIndex := 16, attributes := #[] }, { accessFlags := 10, nameIndex := 27, descriptorIndex := 16, attributes := #[] }, { accessFlags := 9, nameIndex := 40, descriptorIndex := 41, attributes := #[] }] 49 2 #[] #[{ accessFlags := 26, nameIndex := 32, descriptorIndex := 33, attributes := #[] }, { accessFlags := 26, nameIndex := 35, descriptorIndex := 33, attributes := #[] }, { accessFlags := 26, nameIndex := 36, descriptorIndex := 33, attributes := #[] }, { accessFlags := 26, nameIndex := 37, descriptorIndex := 33, attributes := #[] }])
  fields := #[{ name := "C1", type := .long, accessFlags := 26, slot := 0, constantValue := 0 }, { name := "C2", type := .long, accessFlags := 26, slot := 1, constantValue := 0 }, { name := "BASIS", type := .long, accessFlags := 26, slot := 2, constantValue := 0 }, { name := "PRIME", type := .long, accessFlags := 26, slot := 3, constantValue := 0 }]
  methods := #[k1m0, k1m1, k1m2, k1m3]
  instanceTypes := #[]
  staticTypes := #[.long, .long, .long, .long]
  resolved := Array.replicate 47 none
  statics := none }

def pool2 : Array CpInfo := pool [(3, .class_ 4), (0, u "com/example/redolith/redolith/kv/Store"), (1, .class_ 8), (1, u "java/lang/Object"), (4, u "buckets"), (0, u "J"), (1, .class_ 18), (1, u "com/example/redolith/redolith/kv/Store$Pages"), (31, u "MAGIC"), (0, u "[B"), (37, .class_ 91), (1, u "com/example/redolith/redolith/kv/Store$Entry"), (1, u "I"), (38, u "([B)J"), (53, u "hash"), (5, .long 14695981039346656037), (1, .long 1099511628211), (1, .long 18397679294719823053), (1, .long 14181476777654086739), (30, u "MAX_KEY_BYTES"), (2, u "MAX_VALUE_BYTES"), (0, u "MAGIC_TEXT"), (0, u "Ljava/lang/String;"), (0, u "DIRECTORY"), (2, u "BUCKETS"), (1, u "UNUSED"), (1, u "FREE"), (1, u "KEYS"), (1, u "NEXT"), (1, u "USED"), (0, u "HEADER"), (1, u "ENTRY_HEADER"), (1, u "ROOM"), (1, u "PAGES_PER_BUCKET")] 49

def k2c0 : Code := { maxStack := 5, maxLocals := 7, code := prog_113_method_16_code, exceptionTable := #[], attributes := #[] }
def k2m0 : Method := { name := "hash", desc := "([B)J", sig := { parameters := [(.array .byte)], returnType := some .long }, accessFlags := 8, code := some k2c0 }
/-- com/example/redolith/redolith/kv/Store -/
def k2 : Class := { plain "com/example/redolith/redolith/kv/Store" (some 0) with
  accessFlags := 48
  interfaces := #[]
  cf := some (fileOf pool2 3 #[.nestMembers #[89, 16]] #[{ accessFlags := 8, nameIndex := 186, descriptorIndex := 132, attributes := #[] }] 48 6 #[] #[{ accessFlags := 24, nameIndex := 229, descriptorIndex := 93, attributes := #[] }, { accessFlags := 24, nameIndex := 232, descriptorIndex := 93, attributes := #[] }, { accessFlags := 26, nameIndex := 233, descriptorIndex := 234, attributes := #[] }, { accessFlags := 26, nameIndex := 50, descriptorIndex := 51, attributes := #[] }, { accessFlags := 26, nameIndex := 235, descriptorIndex := 14, attributes := #[] }, { accessFlags := 26, nameIndex := 238, descriptorIndex := 93, attributes := #[] }, { accessFlags := 26, nameIndex := 240, descriptorIndex := 93, attributes := #[] }, { accessFlags := 26, nameIndex := 242, descriptorIndex := 93, attributes := #[] }, { accessFlags := 26, nameIndex := 244, descriptorIndex := 93, attributes := #[] }, { accessFlags := 26, nameIndex := 246, descriptorIndex := 93, attributes := #[] }, { accessFlags := 26, nameIndex := 248, descriptorIndex := 93, attributes := #[] }, { accessFlags := 26, nameIndex := 249, descriptorIndex := 93, attributes := #[] }, { accessFlags := 26, nameIndex := 251, descriptorIndex := 93, attributes := #[] }, { accessFlags := 26, nameIndex := 253, descriptorIndex := 93, attributes := #[] }, { accessFlags := 26, nameIndex := 255, descriptorIndex := 93, attributes := #[] }, { accessFlags := 18, nameIndex := 13, descriptorIndex := 14, attributes := #[] }])
  fields := #[{ name := "MAX_KEY_BYTES", type := .int, accessFlags := 24, slot := 0, constantValue := 0 }, { name := "MAX_VALUE_BYTES", type := .int, accessFlags := 24, slot := 1, constantValue := 0 }, { name := "MAGIC_TEXT", type := (.object "java/lang/String"), accessFlags := 26, slot := 2, constantValue := 0 }, { name := "MAGIC", type := (.array .byte), accessFlags := 26, slot := 3, constantValue := 0 }, { name := "DIRECTORY", type := .long, accessFlags := 26, slot := 4, constantValue := 0 }, { name := "BUCKETS", type := .int, accessFlags := 26, slot := 5, constantValue := 0 }, { name := "UNUSED", type := .int, accessFlags := 26, slot := 6, constantValue := 0 }, { name := "FREE", type := .int, accessFlags := 26, slot := 7, constantValue := 0 }, { name := "KEYS", type := .int, accessFlags := 26, slot := 8, constantValue := 0 }, { name := "NEXT", type := .int, accessFlags := 26, slot := 9, constantValue := 0 }, { name := "USED", type := .int, accessFlags := 26, slot := 10, constantValue := 0 }, { name := "HEADER", type := .int, accessFlags := 26, slot := 11, constantValue := 0 }, { name := "ENTRY_HEADER", type := .int, accessFlags := 26, slot := 12, constantValue := 0 }, { name := "ROOM", type := .int, accessFlags := 26, slot := 13, constantValue := 0 }, { name := "PAGES_PER_BUCKET", type := .int, accessFlags := 26, slot := 14, constantValue := 0 }, { name := "buckets", type := .long, accessFlags := 18, slot := 0, constantValue := 0 }]
  methods := #[k2m0]
  instanceTypes := #[.long]
  staticTypes := #[.int, .int, (.object "java/lang/String"), (.array .byte), .long, .int, .int, .int, .int, .int, .int, .int, .int, .int, .int]
  resolved := Array.replicate 305 none
  statics := none }

def pool3 : Array CpInfo := pool [(1, u "java/lang/Cloneable"), (0, .class_ 1), (0, u "java/lang/Object"), (0, .class_ 3)] 3

/-- java/lang/Cloneable -/
def k3 : Class := { plain "java/lang/Cloneable" (some 0) with
  accessFlags := 1537
  interfaces := #[]
  cf := some (fileOf pool3 2 #[] #[] 1537 4 #[] #[])
  fields := #[]
  methods := #[]
  instanceTypes := #[]
  staticTypes := #[]
  resolved := Array.replicate 8 none
  statics := none }

def pool4 : Array CpInfo := pool [(1, u "java/io/Serializable"), (0, .class_ 1), (0, u "java/lang/Object"), (0, .class_ 3)] 3

/-- java/io/Serializable -/
def k4 : Class := { plain "java/io/Serializable" (some 0) with
  accessFlags := 1537
  interfaces := #[]
  cf := some (fileOf pool4 2 #[] #[] 1537 4 #[] #[])
  fields := #[]
  methods := #[]
  instanceTypes := #[]
  staticTypes := #[]
  resolved := Array.replicate 8 none
  statics := none }

/-- the primitive byte -/
def k5 : Class := { plain "byte" none with kind := .primitive 'B', accessFlags := 0x411 }
/-- [B -/
def k6 : Class := { plain "[B" (some 0) with kind := .array 5 .byte, interfaces := #[3, 4], accessFlags := 1041 }

/-- the primitive int -/
def k7 : Class := { plain "int" none with kind := .primitive 'I', accessFlags := 0x411 }
/-- [I -/
def k8 : Class := { plain "[I" (some 0) with kind := .array 7 .int, interfaces := #[3, 4], accessFlags := 1041 }

def heap : Heap := #[]
def classes : Array Class := #[k0, k1, k2, k3, k4, k5, k6, k7, k8]
def interned : List (Array UInt16 × Addr) := []
def slotsUsed : Nat := 0
def theMethod : MethodId := ⟨1, 3⟩
def args0 : Array Value := #[.int 5, .int 9, .int 3, .int 3, .int 3]
def aboutOver (below : List Frame) : State where
  vm := { classes := classes, interned := interned.toArray }
  heap := heap
  slotsUsed := slotsUsed
  threads := #[{ frames := .invoking theMethod args0 :: below }]
def below0 : List Frame := [.native { method := ⟨0, 0⟩, args := #[] }]
def about1 : State := aboutOver below0
def p0 : Program := .bare "" "" ""
def e0 : Env := launch0.env 0 0 0
theorem w_frames : about1.frames = Frame.invoking theMethod args0 :: below0 := rfl
set_option maxRecDepth 65536 in
theorem w_args : argsFit about1.vm theMethod args0 = true := by decide +kernel
set_option maxRecDepth 65536 in
theorem w_heap : heapFits about1 = true := by decide +kernel
set_option maxRecDepth 65536 in
theorem w_runnable : about1.curStatus? = some .runnable := by decide +kernel
set_option maxRecDepth 65536 in
theorem w_alone : about1.alone = true := by decide +kernel
set_option maxRecDepth 65536 in
theorem w_named : about1.methodNamed? x = some theMethod := by decide +kernel
set_option maxRecDepth 65536 in
theorem w_hears : about1.hears theMethod below0 = true := by decide +kernel
set_option maxRecDepth 65536 in
theorem w_ripe : about1.ripe theMethod args0 below0 = true := by decide +kernel
theorem w_running : about1.status = .running := rfl
set_option maxRecDepth 65536 in
theorem w_room : about1.hasRoom e0.platform room_1 = true :=
  launch0.hasRoom_least _ room_1 (by decide +kernel) (by decide +kernel) (by decide +kernel) (by decide +kernel) (by decide +kernel) (by decide +kernel)
theorem allAtoms_all (ts : List Jvm.Cond) (a : Array Jvm.Value) (st : Jvm.State) : (allAtoms ts).before a st = ts.all (fun c => c.before a st) := by
  induction ts with
  | nil => rfl
  | cons c t ih =>
    show (Jvm.Cond.and c (allAtoms t)).before a st = _
    rw [Jvm.Cond.before_and, ih, List.all_cons]
def words1 : List Jvm.Cond := Jvm.Cond.code x code maxLocals ret :: tables_1
/-- a 'code' word, met by the world's own term for the bytes: nothing is compared byte by byte -/
theorem code_word {y : MethodName} {bytes : ByteArray} {mx : Nat} {rt : Option FieldType} {a : Array Value} {s : State} {m : MethodId} {meth : Method} {c : Code} (h1 : s.methodNamed? y = some m) (h2 : s.vm.method? m = some meth) (h3 : meth.code = some c) (h4 : c.code = bytes)
    (h5 : (c.maxLocals == mx && c.exceptionTable.isEmpty && decide (c.maxStack ≤ mostOperands) && decide (meth.sig.returnType = rt) && !meth.locks && decide (parseMethodDescriptor y.desc = some meth.sig)) = true) : (Jvm.Cond.code y bytes mx rt).before a s = true := by
  simp only [Bool.and_eq_true, beq_iff_eq, Bool.not_eq_true', decide_eq_true_eq] at h5
  obtain ⟨⟨⟨⟨⟨g1, g2⟩, g3⟩, g4⟩, g5⟩, g6⟩ := h5
  simp [Cond.before, Cond.holds, Cond.value, h1, h2, h3, h4, g1, g2, g3, g4, g5, g6]
def isCode : Jvm.Cond → Bool
  | .code _ _ _ _ => true
  | _ => false
theorem all_split {L : List Jvm.Cond} {P : Jvm.Cond → Bool} (h1 : L.all (fun c => isCode c || P c) = true) (h2 : ∀ c ∈ L.filter isCode, P c = true) : L.all P = true := by
  refine List.all_eq_true.mpr fun c hc => ?_
  have h := List.all_eq_true.mp h1 c hc
  rcases Bool.eq_false_or_eq_true (isCode c) with hi | hi
  · exact h2 c (List.mem_filter.mpr ⟨hc, hi⟩)
  · simpa [hi] using h
set_option maxRecDepth 65536 in
theorem w_c0 : (Jvm.Cond.code x code maxLocals ret).before args0 about1 = true := code_word (m := ⟨1, 3⟩) (meth := k1m3) (c := k1c3) (by decide +kernel) rfl rfl rfl (by decide +kernel)
set_option maxRecDepth 65536 in
theorem w_c1 : (Jvm.Cond.code ({ cls := "com/example/redolith/redolith/kv/Store", name := "hash", desc := "([B)J" } : Jvm.MethodName) prog_113_method_16_code (7 : Nat) (Option.some Jvm.ClassFile.FieldType.long)).before args0 about1 = true := code_word (m := ⟨2, 0⟩) (meth := k2m0) (c := k2c0) (by decide +kernel) rfl rfl rfl (by decide +kernel)
set_option maxRecDepth 65536 in
theorem w_c2 : (Jvm.Cond.code ({ cls := "com/example/redolith/redolith/kv/StoreHashPinLaw", name := "unmix", desc := "(J)J" } : Jvm.MethodName) method_3_code (4 : Nat) (Option.some Jvm.ClassFile.FieldType.long)).before args0 about1 = true := code_word (m := ⟨1, 2⟩) (meth := k1m2) (c := k1c2) (by decide +kernel) rfl rfl rfl (by decide +kernel)
set_option maxRecDepth 65536 in
theorem w_c3 : (Jvm.Cond.code ({ cls := "com/example/redolith/redolith/kv/StoreHashPinLaw", name := "inverse", desc := "(J)J" } : Jvm.MethodName) method_2_code (4 : Nat) (Option.some Jvm.ClassFile.FieldType.long)).before args0 about1 = true := code_word (m := ⟨1, 1⟩) (meth := k1m1) (c := k1c1) (by decide +kernel) rfl rfl rfl (by decide +kernel)
def codes1 : List Jvm.Cond := [Jvm.Cond.code x code maxLocals ret, Jvm.Cond.code ({ cls := "com/example/redolith/redolith/kv/Store", name := "hash", desc := "([B)J" } : Jvm.MethodName) prog_113_method_16_code (7 : Nat) (Option.some Jvm.ClassFile.FieldType.long), Jvm.Cond.code ({ cls := "com/example/redolith/redolith/kv/StoreHashPinLaw", name := "unmix", desc := "(J)J" } : Jvm.MethodName) method_3_code (4 : Nat) (Option.some Jvm.ClassFile.FieldType.long), Jvm.Cond.code ({ cls := "com/example/redolith/redolith/kv/StoreHashPinLaw", name := "inverse", desc := "(J)J" } : Jvm.MethodName) method_2_code (4 : Nat) (Option.some Jvm.ClassFile.FieldType.long)]
set_option maxRecDepth 65536 in
theorem codes_eq : words1.filter isCode = codes1 := rfl
theorem w_codes : ∀ c ∈ words1.filter isCode, c.before args0 about1 = true := by
  rw [codes_eq]
  intro c hc
  simp only [codes1, List.mem_cons, List.not_mem_nil, or_false] at hc
  rcases hc with rfl | rfl | rfl | rfl
  · exact w_c0
  · exact w_c1
  · exact w_c2
  · exact w_c3
set_option maxRecDepth 65536 in
theorem w_t1 : words1.all (fun c => isCode c || c.before args0 about1) = true := by decide +kernel
theorem w_tables : (allAtoms (Jvm.Cond.code x code maxLocals ret :: tables_1)).before args0 about1 = true := by
  rw [allAtoms_all]
  show words1.all (fun c => c.before args0 about1) = true
  refine all_split ?_ w_codes
  rw [w_t1]
set_option maxRecDepth 65536 in
theorem w_case : (Jvm.Cond.and given_1 narrow_1).before args0 about1 = true := by decide +kernel
theorem w_applies : (headSpec (Jvm.Cond.code x code maxLocals ret :: tables_1) room_1).applies x e0.platform about1 = true :=
  (Spec.applies_iff w_frames).mpr ⟨w_running, w_runnable, w_alone, w_named, w_hears, w_ripe, w_room, w_tables⟩
theorem atStart : AtStart classFile x code maxLocals ret World_1 tables_1 room_1 Calls_1 rest_1 Pre_1 launch0 p0 e0 about1 theMethod args0 below0 :=
  ⟨lists_1, trivial, launch0.admits_env _ _ _, launch0.least_env, fairChoices_fair.cas, fairChoices_fair.clock, w_frames, w_args, w_heap, w_applies, trivial, trivial, w_case⟩
end start1
theorem witness_1 : WitnessClaimed_1 := ⟨start1.p0, start1.e0, start1.about1, start1.theMethod, start1.args0, start1.below0, start1.atStart⟩
end Jvm.Pilot.@@N@@
